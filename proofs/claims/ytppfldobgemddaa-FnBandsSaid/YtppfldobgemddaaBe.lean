/-
  The contracts of spec.LongBands, spec.ShortBands and impl.Bands.
-/
import Derived.Test.YtppfldobgemddaaBd
namespace Go.Proofs.Ytppfldobgemddaa
open Go.RowKit
set_option linter.unusedVariables false

def arr (k : Nat) : Array Value := match k with
  | 0 => arr0 | 1 => arr1 | 2 => arr2 | 3 => arr3 | 4 => arr4 | _ => arr5
theorem arr_bnd (k : Nat) (hk : k < 6) : arr k = ((bnd k).map (Value.int .i64)).toArray := by
  have h : k = 0 ∨ k = 1 ∨ k = 2 ∨ k = 3 ∨ k = 4 ∨ k = 5 := by omega
  rcases h with rfl | rfl | rfl | rfl | rfl | rfl <;> rfl
def bndLen (k : Nat) : Nat := if k % 2 = 0 then 23 else 14
theorem bnd_len (k : Nat) (hk : k < 6) : (bnd k).length = bndLen k := by
  have h : k = 0 ∨ k = 1 ∨ k = 2 ∨ k = 3 ∨ k = 4 ∨ k = 5 := by omega
  rcases h with rfl | rfl | rfl | rfl | rfl | rfl <;> rfl

theorem alloc_size (w : World) (o : Obj) : (w.alloc o).heap.size = w.heap.size + 1 := by
  show (w.heap.push o).size = _
  simp
theorem push_old (a : Array Obj) (x : Obj) (i : Nat) (h : i < a.size) : (a.push x)[i]? = a[i]? := by
  rw [Array.getElem?_push, if_neg (by omega)]
theorem push_new (a : Array Obj) (x : Obj) (i : Nat) (h : i = a.size) : (a.push x)[i]? = some x := by
  subst h; simp
theorem sl12_one (B : Nat) : (sl12 B).all (·.oneCell') = true := by
  simp [sl12, Value.oneCell']
theorem w12_block (w : World) (k : Nat) (hk : k < 6) : (w12 w).heap[w.heap.size + 1 + k]? = some (.cells (arr k) 3 (0, 0)) := by
  have h : k = 0 ∨ k = 1 ∨ k = 2 ∨ k = 3 ∨ k = 4 ∨ k = 5 := by omega
  unfold w12
  simp only [World.alloc]
  rcases h with rfl | rfl | rfl | rfl | rfl | rfl
  all_goals
    repeat rw [push_old _ _ _ (by simp only [Array.size_push]; omega)]
    rw [push_new _ _ _ (by simp only [Array.size_push])]
    rfl
theorem w12_size (w : World) : (w12 w).heap.size = w.heap.size + 13 := by
  unfold w12
  simp only [World.alloc]
  simp
theorem w12_below (w : World) : Below w.heap.size w (w12 w) := by
  unfold w12
  exact stpA (stpA (stpA (stpA (stpA (stpA (stpA (stpA (stpA (stpA (stpA (stpA (stpA (stp0 w) _) _) _) _) _) _) _) _) _) _) _) _) _

theorem owns_base {w : World} {base base' : Nat} {e : TypeId} {size : Nat} {v : Value} {n : Nat} {xs : List Value} (h : w.ownsRow base e size v n xs) (hb : base' ≤ base) : w.ownsRow base' e size v n xs := by
  refine ⟨h.1, ?_⟩
  rcases h.2 with h | ⟨g, cap, cur, h1, h2, h3⟩
  · exact .inl h
  · exact .inr ⟨g, cap, cur, h1, by omega, h3⟩

/-- A slice that lies at the head of a block of just these numbers. -/
def RowOf (w : World) (v : Value) (zs : List Int) : Prop :=
  ∃ g, v = .slice (some ⟨g, 0, none⟩) zs.length zs.length ∧ g < w.heap.size ∧ ∀ j, j < zs.length → w.cell? ⟨g, j, none⟩ = some (.int .i64 (zs.getD j 0))
theorem rowOf_new (w : World) (k : Nat) (hk : k < 6) (n : Nat) (hn : n = bndLen k) : RowOf (w.alloc (.cells (arr k) 3)) (.slice (some ⟨w.heap.size, 0, none⟩) n n) (bnd k) := by
  refine ⟨w.heap.size, by rw [bnd_len k hk, hn], by rw [alloc_size]; omega, fun j hj => ?_⟩
  rw [cell_of_row _ w.heap.size j _ _ (0, 0) (heap_alloc_last _ _), arr_bnd k hk, List.getD_eq_getElem?_getD]
  simp [hj]

set_option maxRecDepth 100000 in
set_option maxHeartbeats 1000000 in
theorem longBands_any (r : Nat) (hr : r < 3) (w : World) :
    Calls Try.prog 15 #[.int .i64 r] w fun e w' => e = .returned (.slice (some ⟨w.heap.size, 0, none⟩) 23 23) ∧ w' = w.alloc (.cells (arr (2 * r)) 3) := by
  have h : r = 0 ∨ r = 1 ∨ r = 2 := by omega
  clear hr
  rcases h with rfl | rfl | rfl
  all_goals
    go_enter Try.func15, Try.ntmps15
    go_wp2_with fail
    go_ret
    exact ⟨rfl, rfl⟩
set_option maxRecDepth 100000 in
set_option maxHeartbeats 1000000 in
theorem shortBands_any (r : Nat) (hr : r < 3) (w : World) :
    Calls Try.prog 16 #[.int .i64 r] w fun e w' => e = .returned (.slice (some ⟨w.heap.size, 0, none⟩) 14 14) ∧ w' = w.alloc (.cells (arr (2 * r + 1)) 3) := by
  have h : r = 0 ∨ r = 1 ∨ r = 2 := by omega
  clear hr
  rcases h with rfl | rfl | rfl
  all_goals
    go_enter Try.func16, Try.ntmps16
    go_wp2_with fail
    go_ret
    exact ⟨rfl, rfl⟩

/-- Twelve nil slices. -/
def Z12 : Array Value := Array.replicate 12 (.slice none 0 0)
theorem zero54 : (Try.prog.info? 54).map (fun i => (i.zero, i.size)) = some (some (.agg Z12), 12) := by kernel_rfl

theorem sl12_at (B : Nat) (i : Nat) (hi : i < 6) : (sl12 B)[i]? = some (.slice (some ⟨B + 1 + i, 0, none⟩) (bndLen i) (bndLen i)) := by
  have h : i = 0 ∨ i = 1 ∨ i = 2 ∨ i = 3 ∨ i = 4 ∨ i = 5 := by omega
  rcases h with rfl | rfl | rfl | rfl | rfl | rfl <;> rfl

set_option maxRecDepth 100000 in
set_option maxHeartbeats 1000000 in
theorem bands_any (k r : Nat) (hk : k < 2) (hr : r < 3) (w : World) :
    Calls Try.prog 17 #[.int .i64 k, .int .i64 0, .int .i64 r] w fun e w' => (∃ v, e = .returned v ∧ w'.ownsRow w.heap.size 3 1 v (bndLen (2 * r + k)) ((bnd (2 * r + k)).map (Value.int .i64))) ∧ Below w.heap.size w w' := by
  have hz := (zero_of_info zero54).1
  have hst := run_storeCells_new (P := Try.prog) (w12 w) 54 Z12 (sl12 w.heap.size) (by kernel_rfl) rfl (sl12_one _)
  have hs12 : (sl12 w.heap.size).size = 12 := rfl
  have g1 : decide ((k : Int) < 0) = false := by simp
  have g2 : decide ((1 : Int) < (k : Int)) = false := by simp; omega
  have g3 : decide ((r : Int) < 0) = false := by simp
  have g4 : decide ((2 : Int) < (r : Int)) = false := by simp; omega
  have hcl : ((w12 w).alloc (.cells (sl12 w.heap.size) 54)).cell? ⟨(w12 w).heap.size, r * 2 + k, none⟩ = some (.slice (some ⟨w.heap.size + 1 + (2 * r + k), 0, none⟩) (bndLen (2 * r + k)) (bndLen (2 * r + k))) := by
    rw [cell_of_row _ (w12 w).heap.size (r * 2 + k) _ 54 (0, 0) (heap_alloc_last _ _), ← sl12_at w.heap.size (2 * r + k) (by omega)]
    congr 1; omega
  go_enter Try.func17, Try.ntmps17
  go_wp2_with fail
  refine (sfb_any _).mono ?_
  rintro e w1 ⟨rfl, rfl⟩
  go_wp2_with fail
  refine (cloneInts_any (w.heap.size + 1 + (2 * r + k)) 0 (bndLen (2 * r + k)) _ (bnd (2 * r + k)) (bnd_len _ (by omega)) (by unfold bndLen; split <;> omega) _ ?_).mono ?_
  · intro j hj
    have hb := w12_block w (2 * r + k) (by omega)
    rw [World.cell?_alloc_past _ _ _ (by rw [w12_size]; omega), cell_of_row _ _ _ _ _ _ hb, arr_bnd _ (by omega), Nat.zero_add, List.getD_eq_getElem?_getD]
    have hl := bnd_len (2 * r + k) (by omega)
    simp [hl, hj]
  · rintro e w2 ⟨⟨v, rfl, hown⟩, hb2⟩
    go_wp2_with fail
    go_returns
    have hsz : ((w12 w).alloc (.cells (sl12 w.heap.size) 54)).heap.size = w.heap.size + 14 := by rw [alloc_size, w12_size]
    refine ⟨⟨v, rfl, ?_⟩, stp (stpA (w12_below w) _) hb2⟩
    rw [hsz] at hown
    exact owns_base hown (by omega)
end Go.Proofs.Ytppfldobgemddaa
