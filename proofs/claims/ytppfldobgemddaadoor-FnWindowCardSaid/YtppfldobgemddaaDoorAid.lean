/-
  Small facts on worlds: what lies below stays as it was, along a chain of calls, new blocks, draws and stores into new blocks.
-/
import Derived.WalkKit
import Derived.WalkLawsBesides
import Derived.Laws.AppendOwn
import Derived.Lib.Hide
namespace Go.Proofs.YtppfldobgemddaaDoor
open Go.RowKit
set_option linter.unusedVariables false

theorem bcell {W w1 : World} (hb : Below W.heap.size W w1) : (∀ b o, b < W.heap.size → w1.cell? ⟨b, o, none⟩ = W.cell? ⟨b, o, none⟩) ∧ (∀ b o, b < W.heap.size → w1.frozen? ⟨b, o, none⟩ = W.frozen? ⟨b, o, none⟩) :=
  ⟨fun b o h => hb.cell (p := ⟨b, o, none⟩) h, fun b o h => hb.frozen (p := ⟨b, o, none⟩) h⟩

theorem stp0 (a : World) : Below a.heap.size a a := Below.refl _ _
theorem stp {a w w' : World} (h : Below a.heap.size a w) (k : Below w.heap.size w w') : Below a.heap.size a w' := h.trans (k.mono h.size)
theorem stpA {a w : World} (h : Below a.heap.size a w) (o : Obj) : Below a.heap.size a (w.alloc o) := h.alloc h.size o
theorem stpN {a w : World} (h : Below a.heap.size a w) (n : Nat) : Below a.heap.size a (w.drewN n) := below_drewN h n
theorem stpD {a w : World} (h : Below a.heap.size a w) : Below a.heap.size a w.drew := h.drew
theorem stpS {a w : World} (h : Below a.heap.size a w) (p : Addr) (u : Value) (hp : a.heap.size ≤ p.block) : Below a.heap.size a (w.setCell p u) := h.setCell hp u
theorem cs_other {w : World} {a b : Addr} {v : Value} (h : a ≠ b) : (w.setCell a v).cell? b = w.cell? b := by
  apply World.cell?_setCell_other; exact h
theorem cs_same {w : World} {a : Addr} {v u : Value} (h : w.cell? a = some u) : (w.setCell a v).cell? a = some v := by
  apply World.cell?_setCell_same; exact h
theorem grown_of_below {w w1 : World} (h : Below w.heap.size w w1) (row : Option Nat) : w.grownBy w1 row :=
  ⟨h.os, h.tape, h.output, h.size, fun k hk _ => h.block k hk⟩
theorem grown_set {w w1 : World} {R : Nat} (h : w.grownBy w1 (some R)) (j : Nat) (u : Value) : w.grownBy (w1.setCell ⟨R, j, none⟩ u) (some R) :=
  ⟨h.os, h.tape, h.output, by simpa using h.size, fun k hk hne => by
    rw [heap_setCell_other _ _ _ _ (by intro e; subst e; exact hne rfl)]; exact h.block k hk hne⟩
end Go.Proofs.YtppfldobgemddaaDoor
