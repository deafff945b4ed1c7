/-
  The contract of laws.sideIs.
-/
import Derived.Test.YtppfldobgemddaaDoorYg
import Derived.Laws.StructEq
import Derived.Lib.LazyBuf
namespace Go.Proofs.YtppfldobgemddaaDoor
open Go.RowKit
set_option linter.unusedVariables false

def zs4 : List Value := [.int .i64 0, .int .i64 0, .int .i64 0, .int .i64 0]
/-- The numbers without the counts. -/
def noCount (A : Nat → Int) (j : Nat) : Int := if j < 82 then A j else 0
theorem zs4_at (j : Nat) (h : j < 4) : zs4[j]? = some (.int .i64 0) := by
  have : j = 0 ∨ j = 1 ∨ j = 2 ∨ j = 3 := by omega
  rcases this with rfl | rfl | rfl | rfl <;> rfl
theorem zs4_one : zs4.toArray.all (·.oneCell') = true := all_oneCell_toArray fun v hv => by
  have : v = .int .i64 0 := by simpa [zs4] using hv
  subst this; rfl
/-- What the counts' clearing leaves of a row. -/
theorem cleared {w : World} {b : Nat} {A : Nat → Int} (h : ∀ j, j < 86 → w.cell? ⟨b, j, none⟩ = some (.int .i64 (A j))) (j : Nat) (hj : j < 86) : (w.setCells b 82 zs4).cell? ⟨b, j, none⟩ = some (.int .i64 (noCount A j)) := by
  unfold noCount
  by_cases q : j < 82
  · rw [if_pos q, World.cell?_setCells_out b zs4 82 w ⟨b, j, none⟩ (fun _ _ => .inl q)]; exact h j hj
  · rw [if_neg q]
    obtain ⟨i, rfl⟩ : ∃ i, j = 82 + i := ⟨j - 82, by omega⟩
    have hi : i < zs4.length := by show i < 4; omega
    rw [World.cell?_setCells_in b zs4 82 w (fun k hk => by rw [h (82 + k) (by have : k < 4 := hk; omega)]; rfl) i hi]
    have := zs4_at i (by omega)
    rw [List.getElem?_eq_getElem hi] at this; exact this
set_option maxRecDepth 1000000 in
set_option maxHeartbeats 4000000 in
theorem sideIs_any (A B : Nat → Int) (hab : ∀ j, j < 82 → A j = B j) (hb : ∀ j, j < 82 → -1000000 ≤ A j ∧ A j ≤ 1000000) (w : World) :
    Calls Tryd.prog 16 #[.agg (numL 86 A).toArray, .agg (numL 86 B).toArray] w fun e w' => e = .returned (.bool true) ∧ Below w.heap.size w w' := by
  obtain ⟨C, hC⟩ : ∃ C, C = noCount A := ⟨_, rfl⟩
  have heq := eq_side C (fun j hj => by rw [hC]; unfold noCount; split; exact hb j (by assumption); omega)
  obtain ⟨Q, hQ⟩ : ∃ Q, Q = numL 86 C := ⟨_, rfl⟩
  rw [← hQ] at heq
  have hg : Tryd.prog.eqGuardType Tryd.prog.depth 47 = false := by kernel_rfl
  obtain ⟨w2, hw2⟩ : ∃ w2, w2 = (w.alloc (.cells (numL 86 A).toArray 47)).alloc (.cells (numL 86 B).toArray 47) := ⟨_, rfl⟩
  have ka : w2.heap[w.heap.size]? = some (.cells (numL 86 A).toArray 47 (0, 0)) := by rw [hw2, heap_alloc_old _ _ (by simp), heap_alloc_last]
  have kb : w2.heap[w.heap.size + 1]? = some (.cells (numL 86 B).toArray 47 (0, 0)) := by
    rw [hw2]; have := heap_alloc_last (w.alloc (.cells (numL 86 A).toArray 47)) (.cells (numL 86 B).toArray 47); simpa using this
  have ca : ∀ j, j < 86 → w2.cell? ⟨w.heap.size, j, none⟩ = some (.int .i64 (A j)) := fun j hj => by rw [cell_of_row w2 _ j _ _ _ ka, List.getElem?_toArray]; exact numL_at 86 A j hj
  have cb : ∀ j, j < 86 → w2.cell? ⟨w.heap.size + 1, j, none⟩ = some (.int .i64 (B j)) := fun j hj => by rw [cell_of_row w2 _ j _ _ _ kb, List.getElem?_toArray]; exact numL_at 86 B j hj
  obtain ⟨w3, hw3⟩ : ∃ w3, w3 = w2.setCells w.heap.size 82 zs4 := ⟨_, rfl⟩
  obtain ⟨w4, hw4⟩ : ∃ w4, w4 = w3.setCells (w.heap.size + 1) 82 zs4 := ⟨_, rfl⟩
  have t1 : w2.there w.heap.size 82 4 := fun j hj => ⟨by rw [ca (82 + j) (by omega)]; rfl, frozen_of_row w2 _ _ _ _ ka⟩
  have t2 : w3.there (w.heap.size + 1) 82 4 := fun j hj => by
    rw [hw3, World.cell?_setCells_out _ _ _ _ _ (fun e => by simp at e), World.frozen?_setCells]
    exact ⟨by rw [cb (82 + j) (by omega)]; rfl, frozen_of_row w2 _ _ _ _ kb⟩
  have r1 : w4.rangeAt w.heap.size 0 Q := hQ ▸ numL_range fun j hj => by
    rw [Nat.zero_add, hw4, World.cell?_setCells_out _ _ _ _ _ (fun e => by simp at e), hw3, hC]; exact cleared ca j hj
  have r2 : w4.rangeAt (w.heap.size + 1) 0 Q := hQ ▸ numL_range fun j hj => by
    rw [Nat.zero_add, hw4]
    have e : ∀ j, j < 86 → w3.cell? ⟨w.heap.size + 1, j, none⟩ = some (.int .i64 (B j)) := fun j hj => by
      rw [hw3, World.cell?_setCells_out _ _ _ _ _ (fun e => by simp at e)]; exact cb j hj
    rw [cleared e j hj, hC]
    unfold noCount
    split
    · rw [hab j (by assumption)]
    · rfl
  have hB : Below w.heap.size w w4 := by
    rw [hw4, hw3]
    exact below_setCells (by omega) _ _ _ (below_setCells (Nat.le_refl _) _ _ _ (hw2 ▸ stpA (stpA (stp0 w) _) _))
  have hi4 : (Tryd.prog.info? 42).map (·.size) = some (zs4.toArray).size := by kernel_rfl
  have hiQ : (Tryd.prog.info? 47).map (·.size) = some Q.length := by rw [hQ, numL_len]; kernel_rfl
  have HT1 := Lib.hid t1
  have HT2 := Lib.hid t2
  have HR1 := Lib.hid r1
  have HR2 := Lib.hid r2
  have HB := Lib.hid hB
  have HI4 := Lib.hid hi4
  have HIQ := Lib.hid hiQ
  have HW2 := Lib.hid hw2
  have HW3 := Lib.hid hw3
  have HW4 := Lib.hid hw4
  clear t1 t2 r1 r2 hB hi4 hiQ hw2 hw3 hw4 ka kb ca cb hQ hC hb hab
  go_enter Tryd.func16, Tryd.ntmps16
  go_wp2_with (first
    | (rw [← HW2.out]; go_loud (refine wpList_store_mid rfl 42 (.tmp 7) (.tmp 5) rfl w.heap.size 82 zs4.toArray rfl rfl HT1.out HI4.out zs4_one ?_); rw [show zs4.toArray.toList = zs4 from rfl, ← HW3.out])
    | (refine wpList_store_mid rfl 42 (.tmp 8) (.tmp 6) rfl (w.heap.size + 1) 82 zs4.toArray rfl rfl HT2.out HI4.out zs4_one ?_; rw [show zs4.toArray.toList = zs4 from rfl, ← HW4.out])
    | (refine wpList_load_mid rfl 47 (.tmp 2) rfl w.heap.size 0 rfl Q _ HR1.out Tryd.underlying47 rfl HIQ.out ?_)
    | (refine wpList_load_mid rfl 47 (.tmp 3) rfl (w.heap.size + 1) 0 rfl Q _ HR2.out Tryd.underlying47 rfl HIQ.out ?_))
  go_ret
  exact ⟨rfl, HB.out⟩
end Go.Proofs.YtppfldobgemddaaDoor
