/-
  The contracts of math.Abs, math.IsNaN and math.IsInf at numbers that are not negative.
-/
import Derived.Test.YtppfldobgemddaaDoorRows
import Derived.Test.YtppfldobgemddaaDoorAid
import Derived.Laws.Externs
namespace Go.Proofs.YtppfldobgemddaaDoor
open Go.RowKit
set_option linter.unusedVariables false

theorem call85 (b : Nat) (w : World) : (callFunc 85 #[.float .f64 b]).run Tryd.prog w = .ok (.value (.int .u64 b)) w := by
  rw [run_callFunc_extern (e := Extern.MathFloatBits.float64bits) Tryd.func85 (by kernel_rfl) (by kernel_rfl) (by kernel_rfl) (by kernel_rfl)]; rfl
theorem call84 (b : Nat) (w : World) : (callFunc 84 #[.int .u64 b]).run Tryd.prog w = .ok (.value (.float .f64 b)) w := by
  rw [run_callFunc_extern (e := Extern.MathFloatBits.float64frombits) Tryd.func84 (by kernel_rfl) (by kernel_rfl) (by kernel_rfl) (by kernel_rfl)]; rfl

theorem andNot_top (b : Nat) (h : b < 2 ^ 63) : bits .andNot .u64 (b : Int) 9223372036854775808 = b := by
  show IntKind.u64.wrap ((BitVec.ofInt 64 (b : Int) &&& ~~~ BitVec.ofInt 64 9223372036854775808).toNat : Nat) = b
  have e : BitVec.ofInt 64 (b : Int) &&& ~~~ BitVec.ofInt 64 9223372036854775808 = BitVec.ofInt 64 (b : Int) := by
    apply BitVec.eq_of_toNat_eq
    have hm : (~~~ BitVec.ofInt 64 9223372036854775808).toNat = 2 ^ 63 - 1 := by decide +kernel
    rw [BitVec.toNat_and, hm, Nat.and_two_pow_sub_one_eq_mod, BitVec.ofInt_natCast, BitVec.toNat_ofNat]
    omega
  rw [e, BitVec.ofInt_natCast, BitVec.toNat_ofNat, Nat.mod_eq_of_lt (by omega)]
  exact IntWalk.u64_in _ (by omega)

set_option maxHeartbeats 400000 in
theorem abs_any (b : Nat) (h : b < 2 ^ 63) (w : World) :
    Calls Tryd.prog 72 #[.float .f64 b] w fun e w' => e = .returned (.float .f64 b) ∧ w = w' := by
  have h1 := call85 b
  have h2 := call84 b
  have h3 := andNot_top b h
  go_enter Tryd.func72, Tryd.ntmps72
  go_wp2_with fail
  go_ret
  exact ⟨rfl, rfl⟩
set_option maxHeartbeats 400000 in
theorem isNaN_no (b : Nat) (h : FloatKind.f64.format.order b b = some .eq) (w : World) :
    Calls Tryd.prog 69 #[.float .f64 b] w fun e w' => e = .returned (.bool false) ∧ w = w' := by
  go_enter Tryd.func69, Tryd.ntmps69
  go_wp2_with fail
  go_ret
  exact ⟨rfl, rfl⟩
set_option maxHeartbeats 400000 in
theorem isInf_no (b : Nat) (hb : b < 2 ^ 63) (h : FloatKind.f64.format.order b 9218868437227405311 = some .lt) (w : World) :
    Calls Tryd.prog 70 #[.float .f64 b, .int .i64 0] w fun e w' => e = .returned (.bool false) ∧ w = w' := by
  go_enter Tryd.func70, Tryd.ntmps70
  go_wp2_with (go_at_call 72; refine (abs_any _ hb _).mono ?_; rintro e w' ⟨rfl, rfl⟩)
  go_ret
  exact ⟨rfl, rfl⟩
end Go.Proofs.YtppfldobgemddaaDoor
