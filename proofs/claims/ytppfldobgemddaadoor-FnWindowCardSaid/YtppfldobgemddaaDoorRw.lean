/-
  Small facts on rows of bytes that a call makes and owns.
-/
import Derived.Test.YtppfldobgemddaaDoorIn
namespace Go.Proofs.YtppfldobgemddaaDoor
open Go.RowKit
set_option linter.unusedVariables false

theorem ownedGe {w : World} {base n size : Nat} {e : TypeId} {v : Value} {xs : List Value} (h : w.ownsRow base e size v n xs) {j : Nat} (hj : v.ownBlock = some j) : base ≤ j := (h.lt j hj).1
theorem newRow {w : World} {xs : List Value} : ∀ j u, xs[j]? = some u → (w.alloc (.cells xs.toArray 5)).cell? ((⟨w.heap.size, 0, none⟩ : Addr).add j) = some u := by
  intro j u hu
  have ha : (⟨w.heap.size, 0, none⟩ : Addr).add j = ⟨w.heap.size, j, none⟩ := by unfold Addr.add; split <;> simp_all
  rw [ha, World.cell?_alloc_new]
  simpa using hu
theorem ownedSome {w : World} {base n : Nat} {v : Value} {xs : List Value} (h : w.ownsRow base 5 1 v n xs) (hn : n ≠ 0) : ∃ g c, v = .slice (some ⟨g, 0, none⟩) n c ∧ base ≤ g := by
  rcases h.2 with ⟨_, h0⟩ | ⟨g, cap, cur, rfl, hb, _⟩
  · omega
  · exact ⟨g, cap, rfl, hb⟩
theorem ownedSlice {w : World} {base n : Nat} {v : Value} {xs : List Value} (h : w.ownsRow base 5 1 v n xs) : ∃ a c, v = .slice a n c := by
  rcases h.2 with ⟨rfl, h0⟩ | ⟨g, cap, cur, rfl, _, _⟩
  · exact ⟨none, 0, by rw [h0]⟩
  · exact ⟨_, _, rfl⟩
theorem ownedBytes {w : World} {base n c g : Nat} {zs : List Int} (h : w.ownsRow base 5 1 (.slice (some ⟨g, 0, none⟩) n c) n (zs.map (Value.int .u8))) : ∀ j, j < n → w.cell? ⟨g, 0 + j, none⟩ = some (.int .u8 (zs.getD j 0)) := by
  intro j hj
  have hl : zs.length = n := by have := h.1; simpa using this
  rw [Nat.zero_add, h.cellAt j (by omega), List.getD_eq_getElem?_getD]
  simp [hl, hj]
end Go.Proofs.YtppfldobgemddaaDoor
