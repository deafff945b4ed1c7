/-
  Small facts on worlds: what lies below stays as it was, along a chain of calls, new blocks, draws and stores into new blocks.
-/
import Derived.WalkKit
import Derived.WalkLawsBesides
import Derived.Lib.Hide
namespace Go.Proofs.Ytppfldobgemddaa
open Go.RowKit
set_option linter.unusedVariables false

theorem bcell {W w1 : World} (hb : Below W.heap.size W w1) : (∀ b o, b < W.heap.size → w1.cell? ⟨b, o, none⟩ = W.cell? ⟨b, o, none⟩) ∧ (∀ b o, b < W.heap.size → w1.frozen? ⟨b, o, none⟩ = W.frozen? ⟨b, o, none⟩) :=
  ⟨fun b o h => hb.cell (p := ⟨b, o, none⟩) h, fun b o h => hb.frozen (p := ⟨b, o, none⟩) h⟩

theorem stp0 (a : World) : Below a.heap.size a a := Below.refl _ _
theorem stp {a w w' : World} (h : Below a.heap.size a w) (k : Below w.heap.size w w') : Below a.heap.size a w' := h.trans (k.mono h.size)
theorem stpA {a w : World} (h : Below a.heap.size a w) (o : Obj) : Below a.heap.size a (w.alloc o) := h.alloc h.size o
theorem stpN {a w : World} (h : Below a.heap.size a w) (n : Nat) : Below a.heap.size a (w.drewN n) := below_drewN h n
theorem stpD {a w : World} (h : Below a.heap.size a w) : Below a.heap.size a w.drew := h.drew
theorem stpS {a w : World} (h : Below a.heap.size a w) (p : Addr) (u : Value) (hp : a.heap.size ≤ p.block) : Below a.heap.size a (w.setCell p u) := h.setCell hp u
end Go.Proofs.Ytppfldobgemddaa
