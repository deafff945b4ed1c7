/-
  The contract of laws.headOf: what header it makes of a number.
-/
import Derived.Test.YtppfldobgemddaaDoorRows
import Derived.Test.YtppfldobgemddaaDoorBits
import Derived.WalkKit
import Derived.WalkSpells
import Derived.WalkLawsBesides
import Derived.Handy
import Derived.Lib.Hide
namespace Go.Proofs.YtppfldobgemddaaDoor
open Go.RowKit
set_option linter.unusedVariables false

/-- The fields of the header of a number. -/
def hB (n : Int) : Int := 9 + n % 6
def hR (n : Int) : Int := n / 8 % 3
def hP (n : Int) : Int := n / 32 % 2
def hV (n : Int) : Int := n / 64 % 2
def e3 (m : Int) : Int := if m = 0 then 0 else if m = 1 then 1 else 3
def hK (n : Int) : Int := n / 128 % 4 * 4 + e3 (n / 512 % 3)
def m4 (m : Int) : Int := if m = 0 then 0 else if m = 3 then 3 else 1
def hM (n : Int) : Int := m4 (n / 2048 % 4)
def hJ (n : Int) : Int := if n / 2048 % 4 = 1 then 2 else 0

theorem e3_at (m : Int) (h0 : 0 ≤ m) (h3 : m < 3) : [Value.int .i64 0, Value.int .i64 1, Value.int .i64 3][m.toNat]? = some (.int .i64 (e3 m)) := by
  have h : m = 0 ∨ m = 1 ∨ m = 2 := by omega
  rcases h with rfl | rfl | rfl <;> rfl
theorem m4_at (m : Int) (h0 : 0 ≤ m) (h3 : m < 4) : [Value.int .i64 0, Value.int .i64 1, Value.int .i64 1, Value.int .i64 3][m.toNat]? = some (.int .i64 (m4 m)) := by
  have h : m = 0 ∨ m = 1 ∨ m = 2 ∨ m = 3 := by omega
  rcases h with rfl | rfl | rfl | rfl <;> rfl

theorem e3_bd (m : Int) : 0 ≤ e3 m ∧ e3 m ≤ 3 := by
  unfold e3; split <;> (try split) <;> omega

set_option maxHeartbeats 400000 in
theorem headOf_any (n : Int) (h0 : 0 ≤ n) (h1 : n ≤ 4294967295) (w : World) :
    Calls Tryd.prog 8 #[.int .u32 n] w fun e w' => e = .returned (.agg #[.int .i64 (hB n), .int .i64 (hR n), .int .i64 (hP n), .int .i64 (hM n), .int .i64 (hJ n), .int .i64 (hV n), .int .i64 (hK n)]) ∧ Below w.heap.size w w' := by
  have a3 := e3_at (n / 512 % 3) (by omega) (by omega)
  have a4 := m4_at (n / 2048 % 4) (by omega) (by omega)
  have b1 : bits .and .u32 (n / 32) 1 = n / 32 % 2 := u32_and1 _
  have b2 : bits .and .u32 (n / 64) 1 = n / 64 % 2 := u32_and1 _
  have b3 : bits .and .u32 (n / 128) 3 = n / 128 % 4 := u32_and3 _
  have b4 : bits .and .u32 (n / 2048) 3 = n / 2048 % 4 := u32_and3 _
  have e0 := e3_bd (n / 512 % 3)
  have b5 : bits .or .i64 (n / 128 % 4 * 4) (e3 (n / 512 % 3)) = n / 128 % 4 * 4 + e3 (n / 512 % 3) := i64_join 2 _ _ (by omega) (by omega) (by omega) e0.1 (by omega) (by omega)
  by_cases h : n / 2048 % 4 = 1
  · have hj : hJ n = 2 := by unfold hJ; rw [if_pos h]
    have hb : (n / 2048 % 4 == 1) = true := by simpa using h
    have HJ := Lib.hid hj
    clear h hj e0
    go_enter Tryd.func8, Tryd.ntmps8
    go_wp2
    go_returns
    refine ⟨?_, by go_grown⟩
    rw [HJ.out]; rfl
  · have hj : hJ n = 0 := by unfold hJ; rw [if_neg h]
    have hb : (n / 2048 % 4 == 1) = false := by simpa using h
    have HJ := Lib.hid hj
    clear h hj e0
    go_enter Tryd.func8, Tryd.ntmps8
    go_wp2
    go_returns
    refine ⟨?_, by go_grown⟩
    rw [HJ.out]; rfl
end Go.Proofs.YtppfldobgemddaaDoor
