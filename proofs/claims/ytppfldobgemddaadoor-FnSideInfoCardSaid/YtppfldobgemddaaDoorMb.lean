/-
  Small facts on worlds: what lies below stays as it was, along a chain of calls, new blocks, draws and stores into new blocks; What Go's sine and cosine reckon at a word of 64 bits, as a function: by eighths of a turn and two polynomials.
-/
import Derived.WalkKit
import Derived.WalkLawsBesides
import Derived.Laws.AppendOwn
import Derived.Lib.Hide
namespace Go.Proofs.YtppfldobgemddaaDoor
open Go.RowKit
set_option linter.unusedVariables false

theorem bcell {W w1 : World} (hb : Below W.heap.size W w1) : (∀ b o, b < W.heap.size → w1.cell? ⟨b, o, none⟩ = W.cell? ⟨b, o, none⟩) ∧ (∀ b o, b < W.heap.size → w1.frozen? ⟨b, o, none⟩ = W.frozen? ⟨b, o, none⟩) :=
  ⟨fun b o h => hb.cell (p := ⟨b, o, none⟩) h, fun b o h => hb.frozen (p := ⟨b, o, none⟩) h⟩

theorem stp0 (a : World) : Below a.heap.size a a := Below.refl _ _
theorem stp {a w w' : World} (h : Below a.heap.size a w) (k : Below w.heap.size w w') : Below a.heap.size a w' := h.trans (k.mono h.size)
theorem stpA {a w : World} (h : Below a.heap.size a w) (o : Obj) : Below a.heap.size a (w.alloc o) := h.alloc h.size o
theorem stpN {a w : World} (h : Below a.heap.size a w) (n : Nat) : Below a.heap.size a (w.drewN n) := below_drewN h n
theorem stpD {a w : World} (h : Below a.heap.size a w) : Below a.heap.size a w.drew := h.drew
theorem stpS {a w : World} (h : Below a.heap.size a w) (p : Addr) (u : Value) (hp : a.heap.size ≤ p.block) : Below a.heap.size a (w.setCell p u) := h.setCell hp u
theorem cs_other {w : World} {a b : Addr} {v : Value} (h : a ≠ b) : (w.setCell a v).cell? b = w.cell? b := by
  apply World.cell?_setCell_other; exact h
theorem cs_same {w : World} {a : Addr} {v u : Value} (h : w.cell? a = some u) : (w.setCell a v).cell? a = some v := by
  apply World.cell?_setCell_same; exact h
theorem grown_of_below {w w1 : World} (h : Below w.heap.size w w1) (row : Option Nat) : w.grownBy w1 row :=
  ⟨h.os, h.tape, h.output, h.size, fun k hk _ => h.block k hk⟩
theorem grown_set {w w1 : World} {R : Nat} (h : w.grownBy w1 (some R)) (j : Nat) (u : Value) : w.grownBy (w1.setCell ⟨R, j, none⟩ u) (some R) :=
  ⟨h.os, h.tape, h.output, by simpa using h.size, fun k hk hne => by
    rw [heap_setCell_other _ _ _ _ (by intro e; subst e; exact hne rfl)]; exact h.block k hk hne⟩
end Go.Proofs.YtppfldobgemddaaDoor
namespace Go.Proofs.YtppfldobgemddaaDoor
open Go.RowKit
set_option linter.unusedVariables false

def fmul (x y : Nat) : Option Nat := Ieee.double.mul x y
def fadd (x y : Nat) : Option Nat := Ieee.double.add x y
def fsub (x y : Nat) : Option Nat := Ieee.double.sub x y
def fneg (x : Nat) : Nat := x ^^^ 2 ^ 63
/-- What stands before the polynomials: the place of the word among eighths of a turn, and the rest. -/
def restO (x j y : Nat) : Option (Nat × Nat) :=
  (fmul y 4605249456957292544).bind fun a => (fsub x a).bind fun b => (fmul y 4495793288086814720).bind fun c => (fsub b c).bind fun d =>
  (fmul y 4388835458085048688).bind fun e => (fsub d e).bind fun z => some (j, z)
def redO (x : Nat) : Option (Nat × Nat) :=
  (fmul x 4608412980311869571).bind fun t => (floatToIntVal .f64 t .u64).bind fun j =>
    if j % 2 = 1 then (fadd (floatOfInt .f64 j) 4607182418800017408).bind fun y => restO x (j.toNat + 1) y else restO x j.toNat (floatOfInt .f64 j)
/-- The words of a polynomial. -/
def poly6 (t0 t1 t2 t3 t4 t5 zz : Nat) : Option Nat :=
  (fmul t0 zz).bind fun a => (fadd a t1).bind fun b => (fmul b zz).bind fun c => (fadd c t2).bind fun d => (fmul d zz).bind fun e => (fadd e t3).bind fun f =>
  (fmul f zz).bind fun g => (fadd g t4).bind fun h => (fmul h zz).bind fun i => fadd i t5
def polyS (z : Nat) : Option Nat :=
  (fmul z z).bind fun zz => (fmul z zz).bind fun a => (poly6 4460209587652500685 13716528389658582877 4523617212962785441 13774824197404483331 4575957461383575504 13818544856648471880 zz).bind fun b =>
  (fmul a b).bind fun c => fadd z c
def polyC (z : Nat) : Option Nat :=
  (fmul z z).bind fun zz => (fmul 4602678819172646912 zz).bind fun a => (fsub 4607182418800017408 a).bind fun b => (fmul zz zz).bind fun c =>
  (poly6 13666448263388469915 4477121864728985349 13732177093698800582 4537941361668146421 13787419979223748497 4586165620538955083 zz).bind fun d =>
  (fmul c d).bind fun e => fadd b e
/-- A word with which these functions deal. -/
def tame (x : Nat) : Bool :=
  decide (x < 2 ^ 63) && (Ieee.double.order x x == some .eq) && (Ieee.double.order x 9218868437227405311 == some .lt) && (Ieee.double.order x 4737786807993761792 == some .lt) &&
  (Ieee.double.order x 0 == some .gt)
def cosO (x : Nat) : Option Nat :=
  if tame x = true then (redO x).bind fun p =>
    if 200 < p.1 then none else
    if p.1 % 8 = 0 then polyC p.2 else if p.1 % 8 = 2 then (polyS p.2).map fneg else if p.1 % 8 = 4 then (polyC p.2).map fneg else if p.1 % 8 = 6 then polyS p.2 else none
  else none
def sinO (x : Nat) : Option Nat :=
  if tame x = true then (redO x).bind fun p =>
    if 200 < p.1 then none else
    if p.1 % 8 = 0 then polyS p.2 else if p.1 % 8 = 2 then polyC p.2 else if p.1 % 8 = 4 then (polyS p.2).map fneg else if p.1 % 8 = 6 then (polyC p.2).map fneg else none
  else none

/-! ### The steps, laid open -/
structure RestAt (x y z : Nat) : Prop where
  ex : ∃ a b c d e, fmul y 4605249456957292544 = some a ∧ fsub x a = some b ∧ fmul y 4495793288086814720 = some c ∧ fsub b c = some d ∧ fmul y 4388835458085048688 = some e ∧ fsub d e = some z
structure RedAt (x j z : Nat) : Prop where
  ex : ∃ t k : Nat, fmul x 4608412980311869571 = some t ∧ floatToIntVal .f64 t .u64 = some (k : Int) ∧
    ((k % 2 = 1 ∧ j = k + 1 ∧ ∃ y, fadd (floatOfInt .f64 k) 4607182418800017408 = some y ∧ RestAt x y z) ∨ (k % 2 = 0 ∧ j = k ∧ RestAt x (floatOfInt .f64 k) z))
structure PolyAt (t0 t1 t2 t3 t4 t5 zz r : Nat) : Prop where
  ex : ∃ a b c d e f g h i, fmul t0 zz = some a ∧ fadd a t1 = some b ∧ fmul b zz = some c ∧ fadd c t2 = some d ∧ fmul d zz = some e ∧ fadd e t3 = some f ∧ fmul f zz = some g ∧ fadd g t4 = some h ∧ fmul h zz = some i ∧ fadd i t5 = some r
structure SAt (z r : Nat) : Prop where
  ex : ∃ zz a b c, fmul z z = some zz ∧ fmul z zz = some a ∧ PolyAt 4460209587652500685 13716528389658582877 4523617212962785441 13774824197404483331 4575957461383575504 13818544856648471880 zz b ∧ fmul a b = some c ∧ fadd z c = some r
structure CAt (z r : Nat) : Prop where
  ex : ∃ zz a b c d e, fmul z z = some zz ∧ fmul 4602678819172646912 zz = some a ∧ fsub 4607182418800017408 a = some b ∧ fmul zz zz = some c ∧
    PolyAt 13666448263388469915 4477121864728985349 13732177093698800582 4537941361668146421 13787419979223748497 4586165620538955083 zz d ∧ fmul c d = some e ∧ fadd b e = some r

theorem bind_some {α β : Type} {o : Option α} {f : α → Option β} {r : β} (h : o.bind f = some r) : ∃ a, o = some a ∧ f a = some r := by
  cases o with
  | none => cases h
  | some a => exact ⟨a, rfl, h⟩
theorem rest_at {x j y k z : Nat} (h : restO x j y = some (k, z)) : k = j ∧ RestAt x y z := by
  unfold restO at h
  obtain ⟨a, h1, h⟩ := bind_some h
  obtain ⟨b, h2, h⟩ := bind_some h
  obtain ⟨c, h3, h⟩ := bind_some h
  obtain ⟨d, h4, h⟩ := bind_some h
  obtain ⟨e, h5, h⟩ := bind_some h
  obtain ⟨z', h6, h⟩ := bind_some h
  injection h with h; injection h with h8 h9; subst h8; subst h9
  exact ⟨rfl, ⟨a, b, c, d, e, h1, h2, h3, h4, h5, h6⟩⟩
theorem toInt_nonneg {t : Nat} {j : Int} (h : floatToIntVal .f64 t .u64 = some j) : 0 ≤ j := by
  have := floatToIntVal_wf h
  simp [Lit.wf] at this
  exact this.1
theorem red_at {x j z : Nat} (h : redO x = some (j, z)) : RedAt x j z := by
  unfold redO at h
  obtain ⟨t, h1, h⟩ := bind_some h
  obtain ⟨k, h2, h⟩ := bind_some h
  have hk := toInt_nonneg h2
  obtain ⟨n, rfl⟩ := Int.eq_ofNat_of_zero_le hk
  split at h
  · rename_i hodd
    obtain ⟨y, h3, h⟩ := bind_some h
    obtain ⟨rfl, hr⟩ := rest_at h
    exact ⟨t, n, h1, h2, .inl ⟨by omega, by simp, y, h3, hr⟩⟩
  · rename_i hev
    obtain ⟨e1, hr⟩ := rest_at h
    exact ⟨t, n, h1, h2, .inr ⟨by omega, by rw [e1]; simp, hr⟩⟩
theorem poly_at {t0 t1 t2 t3 t4 t5 zz r : Nat} (h : poly6 t0 t1 t2 t3 t4 t5 zz = some r) : PolyAt t0 t1 t2 t3 t4 t5 zz r := by
  unfold poly6 at h
  obtain ⟨a, h1, h⟩ := bind_some h
  obtain ⟨b, h2, h⟩ := bind_some h
  obtain ⟨c, h3, h⟩ := bind_some h
  obtain ⟨d, h4, h⟩ := bind_some h
  obtain ⟨e, h5, h⟩ := bind_some h
  obtain ⟨f, h6, h⟩ := bind_some h
  obtain ⟨g, h7, h⟩ := bind_some h
  obtain ⟨i, h8, h⟩ := bind_some h
  obtain ⟨k, h9, h⟩ := bind_some h
  exact ⟨a, b, c, d, e, f, g, i, k, h1, h2, h3, h4, h5, h6, h7, h8, h9, h⟩
theorem s_at {z r : Nat} (h : polyS z = some r) : SAt z r := by
  unfold polyS at h
  obtain ⟨a, h1, h⟩ := bind_some h
  obtain ⟨b, h2, h⟩ := bind_some h
  obtain ⟨c, h3, h⟩ := bind_some h
  obtain ⟨d, h4, h⟩ := bind_some h
  exact ⟨a, b, c, d, h1, h2, poly_at h3, h4, h⟩
theorem c_at {z r : Nat} (h : polyC z = some r) : CAt z r := by
  unfold polyC at h
  obtain ⟨a, h1, h⟩ := bind_some h
  obtain ⟨b, h2, h⟩ := bind_some h
  obtain ⟨c, h3, h⟩ := bind_some h
  obtain ⟨d, h4, h⟩ := bind_some h
  obtain ⟨e, h5, h⟩ := bind_some h
  obtain ⟨f, h6, h⟩ := bind_some h
  exact ⟨a, b, c, d, e, f, h1, h2, h3, h4, poly_at h5, h6, h⟩
theorem map_some {α β : Type} {o : Option α} {f : α → β} {r : β} (h : o.map f = some r) : ∃ a, o = some a ∧ r = f a := by
  cases o with
  | none => cases h
  | some a => exact ⟨a, rfl, (Option.some.inj h).symm⟩
theorem tame_at {x : Nat} (h : tame x = true) : x < 2 ^ 63 ∧ FloatKind.f64.format.order x x = some .eq ∧ FloatKind.f64.format.order x 9218868437227405311 = some .lt ∧ FloatKind.f64.format.order x 4737786807993761792 = some .lt ∧ FloatKind.f64.format.order x 0 = some .gt := by
  unfold tame at h
  simp only [Bool.and_eq_true, decide_eq_true_eq, beq_iff_eq] at h
  exact ⟨h.1.1.1.1, h.1.1.1.2, h.1.1.2, h.1.2, h.2⟩
theorem cos_at {x r : Nat} (h : cosO x = some r) : tame x = true ∧ ∃ j z, RedAt x j z ∧ j ≤ 200 ∧
    ((j % 8 = 0 ∧ CAt z r) ∨ (j % 8 = 2 ∧ ∃ s, SAt z s ∧ r = fneg s) ∨ (j % 8 = 4 ∧ ∃ s, CAt z s ∧ r = fneg s) ∨ (j % 8 = 6 ∧ SAt z r)) := by
  unfold cosO at h
  split at h
  · rename_i ht
    obtain ⟨⟨j, z⟩, h1, h⟩ := bind_some h
    refine ⟨ht, j, z, red_at h1, ?_⟩
    simp only at h
    split at h
    · cases h
    · refine ⟨by omega, ?_⟩
      split at h
      · exact .inl ⟨‹_›, c_at h⟩
      · split at h
        · obtain ⟨s, h2, h3⟩ := map_some h
          exact .inr (.inl ⟨‹_›, s, s_at h2, h3⟩)
        · split at h
          · obtain ⟨s, h2, h3⟩ := map_some h
            exact .inr (.inr (.inl ⟨‹_›, s, c_at h2, h3⟩))
          · split at h
            · exact .inr (.inr (.inr ⟨‹_›, s_at h⟩))
            · cases h
  · cases h
theorem sin_at {x r : Nat} (h : sinO x = some r) : tame x = true ∧ ∃ j z, RedAt x j z ∧ j ≤ 200 ∧
    ((j % 8 = 0 ∧ SAt z r) ∨ (j % 8 = 2 ∧ CAt z r) ∨ (j % 8 = 4 ∧ ∃ s, SAt z s ∧ r = fneg s) ∨ (j % 8 = 6 ∧ ∃ s, CAt z s ∧ r = fneg s)) := by
  unfold sinO at h
  split at h
  · rename_i ht
    obtain ⟨⟨j, z⟩, h1, h⟩ := bind_some h
    refine ⟨ht, j, z, red_at h1, ?_⟩
    simp only at h
    split at h
    · cases h
    · refine ⟨by omega, ?_⟩
      split at h
      · exact .inl ⟨‹_›, s_at h⟩
      · split at h
        · exact .inr (.inl ⟨‹_›, c_at h⟩)
        · split at h
          · obtain ⟨s, h2, h3⟩ := map_some h
            exact .inr (.inr (.inl ⟨‹_›, s, s_at h2, h3⟩))
          · split at h
            · obtain ⟨s, h2, h3⟩ := map_some h
              exact .inr (.inr (.inr ⟨‹_›, s, c_at h2, h3⟩))
            · cases h
  · cases h
end Go.Proofs.YtppfldobgemddaaDoor
