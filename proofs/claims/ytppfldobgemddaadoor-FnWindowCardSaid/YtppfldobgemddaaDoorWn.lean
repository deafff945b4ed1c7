/-
  The contracts of laws.greatest and laws.near.
-/
import Derived.Test.YtppfldobgemddaaDoorWv
namespace Go.Proofs.YtppfldobgemddaaDoor
open Go.RowKit
set_option linter.unusedVariables false

/-- The greater of two words. -/
def maxO (x y : Nat) : Option Nat :=
  match Ieee.double.order x y with
  | none => none
  | some .lt => some y
  | some .gt => some x
  | some .eq => some (if (Ieee.double.read x).neg then y else x)
/-- The greatest magnitude of so many words. -/
def topO (x : Nat → Nat) : Nat → Option Nat
  | 0 => some 0
  | n + 1 => (topO x n).bind fun t => (maxO t (x n)).bind fun a => maxO a (fneg (x n))
theorem topO_down {x : Nat → Nat} {n r : Nat} (h : topO x n = some r) (m : Nat) (hm : m ≤ n) : ∃ s, topO x m = some s := by
  induction n generalizing r with
  | zero => exact ⟨r, by rw [show m = 0 by omega]; exact h⟩
  | succ n ih =>
    by_cases e : m = n + 1
    · exact ⟨r, by rw [e]; exact h⟩
    · obtain ⟨s, hs, _⟩ := bind_some h
      exact ih hs (by omega)
theorem run_max2f {x y a : Nat} (h : maxO x y = some a) (w : World) : (Builtin.max2 (.float .f64 x) (.float .f64 y)).run Tryd.prog w = .ok (.float .f64 a) w := by
  unfold maxO at h
  have e : FloatKind.f64.format = Ieee.double := rfl
  cases ho : Ieee.double.order x y with
  | none => rw [ho] at h; cases h
  | some o =>
    rw [ho] at h
    cases o <;> simp only [Option.some.injEq] at h <;> subst h <;> simp [Builtin.max2, e, ho, FloatKind.decode]
theorem run_max3f {x y z a r : Nat} (h1 : maxO x y = some a) (h2 : maxO a z = some r) (ts : Array TypeId) (t : TypeId) (w : World) :
    (Builtin.max_ ts t #[.float .f64 x, .float .f64 y, .float .f64 z]).run Tryd.prog w = .ok (.float .f64 r) w := by
  simp [Builtin.max_, List.foldlM, Sem.run_bind, run_max2f h1, run_max2f h2, Result.andThen]

set_option maxRecDepth 100000 in
set_option maxHeartbeats 1000000 in
theorem greatest_any (bi n c t : Nat) (hn : n ≤ 100) (x : Nat → Nat) (ht : topO x n = some t) (w : World) (hx : ∀ j, j < n → w.cell? ⟨bi, j, none⟩ = some (.float .f64 (x j))) :
    Calls Tryd.prog 20 #[.slice (some ⟨bi, 0, none⟩) n c] w fun e w' => e = .returned (.float .f64 t) ∧ w = w' := by
  have HX := Lib.hid hx
  have HT := Lib.hid ht
  clear hx ht
  go_enter Tryd.func20, Tryd.ntmps20
  go_wp2_with fail
  go_loop [3, 8] (fun s a => ∃ m : Nat, m ≤ n ∧ a = .int .i64 m ∧ ∃ sv, s = .float .f64 sv ∧ Hid (topO x m = some sv))
    (fun _ a => n - (intOf a).toNat)
  case atStart => exact ⟨0, by omega, rfl, 0, rfl, Lib.hid rfl⟩
  case round =>
    obtain ⟨m, hm, rfl, sv, rfl, HD⟩ := hrel
    by_cases hlt : m < n
    · have d1 : decide ((m : Int) < (n : Int)) = true := decide_eq_true (by omega)
      obtain ⟨sn, hsn⟩ := topO_down HT.out (m + 1) (by omega)
      obtain ⟨s0, hs0, hs1⟩ := bind_some hsn
      rw [HD.out] at hs0
      obtain rfl := Option.some.inj hs0
      obtain ⟨a, k1, k2⟩ := bind_some hs1
      have e1 := run_max3f k1 k2
      have e2 := opneg (x m)
      have HSN := Lib.hid hsn
      have kc := HX.out m hlt
      clear hsn hs1 k1 k2 hs0
      go_wp2_with fail
      go_round
      case rel => exact ⟨m + 1, by omega, by go_num, sn, rfl, HSN⟩
      case measure => simp [intOf]; omega
    · obtain rfl : m = n := by omega
      have htt := HD.out
      rw [HT.out] at htt
      obtain rfl := Option.some.inj htt
      clear htt
      go_wp2_with fail
      go_ret
      exact ⟨rfl, rfl⟩

/-- A word of 32 bits made one of 64. -/
def to64 (x : Nat) : Option Nat := floatToFloatBits .f32 x .f64
theorem opto64 {x r : Nat} (h : to64 x = some r) (w : World) : (convert 72 70 (.float .f32 x)).run Tryd.prog w = .ok (.float .f64 r) w :=
  run_convert_float_float w 72 70 .f32 .f64 x r (by kernel_rfl) Tryd.underlying70 h
/-- Two numbers are as near as asked. -/
def NearAt (a b tol : Nat) : Prop :=
  ∃ f d, to64 a = some f ∧ fsub f b = some d ∧ FloatKind.f64.format.order d tol = some .lt ∧ FloatKind.f64.format.order (fneg d) tol = some .lt ∧ FloatKind.f64.format.order d d = some .eq

set_option maxRecDepth 100000 in
set_option maxHeartbeats 1000000 in
theorem near_any (ai bi n c c' top q tol : Nat) (hn : n ≤ 100) (A B : Nat → Nat) (h1 : Ieee.double.div top 4671226772094713856 = some q) (h2 : fadd q 4472406533629990549 = some tol)
    (hN : ∀ k, k < n → NearAt (A k) (B k) tol) (w : World) (hA : ∀ j, j < n → w.cell? ⟨ai, j, none⟩ = some (.float .f32 (A j))) (hB : ∀ j, j < n → w.cell? ⟨bi, j, none⟩ = some (.float .f64 (B j))) :
    Calls Tryd.prog 17 #[.slice (some ⟨ai, 0, none⟩) n c, .slice (some ⟨bi, 0, none⟩) n c', .float .f64 top] w fun e w' => e = .returned (.bool true) ∧ ∃ k, w' = w.drewN k := by
  have HA := Lib.hid hA
  have HB := Lib.hid hB
  have HN := Lib.hid hN
  have e1 := opquo h1
  have e2 := opadd h2
  clear hA hB hN h1 h2
  go_enter Tryd.func17, Tryd.ntmps17
  go_wp2_with fail
  go_loopw [16] (fun a wr => ∃ m : Nat, m ≤ n ∧ a = .int .i64 m ∧ Hid (∃ k, wr = w.drewN k))
    (fun a _ => n - (intOf a).toNat)
  case atStart => exact ⟨0, by omega, rfl, Lib.hid ⟨0, rfl⟩⟩
  case round =>
    obtain ⟨m, hm, rfl, HW⟩ := hrel
    by_cases hlt : m < n
    · have d1 : decide ((m : Int) < (n : Int)) = true := decide_eq_true (by omega)
      obtain ⟨f, d, k1, k2, o1, o2, o3⟩ := HN.out m hlt
      have e3 := opto64 k1
      have e4 := opsub k2
      have e5 := opneg d
      have ka : wr.cell? ⟨ai, m, none⟩ = some (.float .f32 (A m)) := by obtain ⟨k, rfl⟩ := HW.out; exact HA.out m hlt
      have kb : wr.cell? ⟨bi, m, none⟩ = some (.float .f64 (B m)) := by obtain ⟨k, rfl⟩ := HW.out; exact HB.out m hlt
      clear k1 k2
      have i1 : (0 : Int) ≤ (m : Int) := by omega
      have i2 : (m : Int) < (n : Int) := by omega
      go_wp2_with fail
      go_quiet (fail)
      all_goals go_wp2_with fail
      obtain ⟨k0, hk0⟩ := HW.out
      exact ⟨⟨m + 1, by omega, by go_num, Lib.hid ⟨k0 + nq, by rw [hk0, World.drewN_drewN]⟩⟩, by simp [intOf]; omega⟩
    · obtain rfl : m = n := by omega
      go_wp2_with fail
      go_ret
      exact ⟨rfl, HW.out⟩
end Go.Proofs.YtppfldobgemddaaDoor
