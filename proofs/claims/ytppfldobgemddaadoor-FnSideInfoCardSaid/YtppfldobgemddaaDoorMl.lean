/-
  What sideinfo.Read keeps while it reads; Frames of sideinfo.Read by their named slots; its code in parts (printed by genri.py); The items of the loops of sideinfo.Read (printed by genri.py); The loops of sideinfo.Read over granules and channels.
-/
import Derived.Test.YtppfldobgemddaaDoorYa
import Derived.Test.YtppfldobgemddaaDoorMe
import Derived.Test.YtppfldobgemddaaDoorMi
import Derived.Test.YtppfldobgemddaaDoorMh
import Derived.Test.YtppfldobgemddaaDoorFz
import Derived.Test.YtppfldobgemddaaDoorMf
import Derived.Deep.RegionHeld3
import Derived.WalkLawsBesides
import Derived.Test.YtppfldobgemddaaDoorGc
namespace Go.Proofs.YtppfldobgemddaaDoor
open Go.RowKit
set_option linter.unusedVariables false

/-- The numbers of these cells, the others nought. -/
def mixL (l : List Nat) (S : Nat → Int) : Nat → Int := fun j => if j ∈ l then S j else 0
theorem mixL_upd (l : List Nat) (S : Nat → Int) (i : Nat) : upd (mixL l S) i (S i) = mixL (i :: l) S := by
  funext j
  unfold upd mixL
  by_cases e : j = i
  · subst e; rw [if_pos rfl, if_pos (List.mem_cons_self ..)]
  · rw [if_neg e]
    by_cases h : j ∈ l
    · rw [if_pos h, if_pos (List.mem_cons_of_mem _ h)]
    · rw [if_neg h, if_neg (fun q => by rcases List.mem_cons.1 q with q | q; exact e q; exact h q)]
theorem mixL_nil (S : Nat → Int) : mixL [] S = fun _ => 0 := by funext j; unfold mixL; rw [if_neg (by simp)]
theorem mixL_in {l : List Nat} {S : Nat → Int} {j : Nat} (h : j ∈ l) : mixL l S j = S j := if_pos h
theorem numL_upd (n : Nat) (S : Nat → Int) (j : Nat) (v : Int) (hj : j < n) : (numL n S).toArray.setIfInBounds j (.int .i64 v) = (numL n (upd S j v)).toArray := by
  refine Array.ext_getElem? fun i => ?_
  by_cases e : i = j
  · subst e
    rw [Array.getElem?_setIfInBounds_self_of_lt (by rw [List.size_toArray, numL_len]; exact hj), List.getElem?_toArray, numL_at n _ _ hj, upd_at]
  · rw [Array.getElem?_setIfInBounds_ne (Ne.symm e), List.getElem?_toArray, List.getElem?_toArray]
    by_cases h : i < n
    · rw [numL_at n _ _ h, numL_at n _ _ h, upd_not _ _ _ _ e]
    · rw [List.getElem?_eq_none (by rw [numL_len]; omega), List.getElem?_eq_none (by rw [numL_len]; omega)]
/-- What memory holds while side information is read. -/
structure RB (w0 : World) (Z R B q p : Nat) (L : List Int) (T : Nat → Int) (s : Nat) (w : World) : Prop where
  rd : Rd w R B L.length L s
  below : Below Z w0 w
  side : w.heap[p]? = some (.cells (numL 86 T).toArray 133 (0, 0))
  tab : w.heap[q]? = some (.cells #[.int .i64 9, .int .i64 5, .int .i64 3, .int .i64 4] 39 (0, 0))
  apart : p ≠ R ∧ p ≠ B ∧ q ≠ R ∧ q ≠ p
  up : Z ≤ R ∧ Z ≤ p
section
variable {w0 : World} {Z R B q p : Nat} {L : List Int} {T : Nat → Int} {s : Nat} {w : World}
theorem RB.drew (h : RB w0 Z R B q p L T s w) : RB w0 Z R B q p L T s w.drew :=
  ⟨h.rd.kept (row := none) (grown_of_below (stpD (stp0 w)) none) (by simp) (by simp), h.below.drew, h.side, h.tab, h.apart, h.up⟩
theorem RB.cell (h : RB w0 Z R B q p L T s w) (j : Nat) (hj : j < 86) : w.cell? ⟨p, j, none⟩ = some (.int .i64 (T j)) := by
  rw [cell_of_row w p j _ _ _ h.side, List.getElem?_toArray]; exact numL_at 86 T j hj
theorem RB.free (h : RB w0 Z R B q p L T s w) (j : Nat) : w.frozen? ⟨p, j, none⟩ = false := frozen_of_row w p j _ _ h.side
theorem RB.bits (h : RB w0 Z R B q p L T s w) (j : Nat) : w.cell? ⟨q, j, none⟩ = (#[.int .i64 9, .int .i64 5, .int .i64 3, .int .i64 4] : Array Value)[j]? := by
  rw [cell_of_row w q j _ _ _ h.tab]
theorem RB.word (h : RB w0 Z R B q p L T s w) {n : Nat} {v : Int} (hL : Bytes L) (hx : Has L s v n) (v0 : 0 ≤ v) (v1 : v < 2 ^ n) (n1 : 1 ≤ n) (n2 : n ≤ 12) (hf : s + n ≤ 8 * L.length) :
    Calls Tryd.prog 66 #[.pointer (some ⟨R, 0, none⟩), .int .i64 n] w fun e w' => e = .returned (.int .i64 v) ∧ RB w0 Z R B q p L T (s + n) w' := by
  refine (bits_any R B L.length L s n hL n1 (by omega) (by omega) (Nat.le_refl _) (by have := hL.2; unfold maxLen; omega) w h.rd).mono ?_
  rintro e w' ⟨rfl, h1, h2⟩
  have hp := h.rd.ltR
  have e : ∀ k, k ≠ R → k < w.heap.size → w'.heap[k]? = w.heap[k]? := fun k hk hlt => h2.block k hlt (by intro q; injection q with q; exact hk q)
  obtain ⟨a1, a2, a3, a4⟩ := h.apart
  refine ⟨by rw [has_val hx v0 v1], h1, h.below.trans ⟨h2.os, h2.tape, h2.output, h2.size, fun k hk => e k (by have := h.up.1; omega) (by have := h.up.1; omega)⟩, (e p a1 (lt_of_heap h.side)).trans h.side, (e q a3 (lt_of_heap h.tab)).trans h.tab, h.apart, h.up⟩
theorem RB.store (h : RB w0 Z R B q p L T s w) (j : Nat) (v : Int) (hj : j < 86) : RB w0 Z R B q p L (upd T j v) s (w.setCell ⟨p, j, none⟩ (.int .i64 v)) := by
  have e : ∀ k, k ≠ p → (w.setCell ⟨p, j, none⟩ (.int .i64 v)).heap[k]? = w.heap[k]? := fun k hk => heap_set_other w _ _ _ _ hk
  obtain ⟨a1, a2, a3, a4⟩ := h.apart
  refine ⟨h.rd.kept (row := some p) (grown_set ⟨rfl, rfl, rfl, Nat.le_refl _, fun _ _ _ => rfl⟩ _ _) (by intro q; injection q with q; exact a1 q) (by intro q; injection q with q; exact a2 q), h.below.setCell (by exact h.up.2) _, ?_, (e q a4).trans h.tab, h.apart, h.up⟩
  rw [heap_setCell_same w p j _ _ _ h.side, numL_upd 86 _ _ _ hj]
theorem RB.put {S : Nat → Int} {l : List Nat} (h : RB w0 Z R B q p L (mixL l S) s w) (j : Nat) (hj : j < 86) : RB w0 Z R B q p L (mixL (j :: l) S) s (w.setCell ⟨p, j, none⟩ (.int .i64 (S j))) := by
  have := h.store j (S j) hj
  rw [mixL_upd] at this; exact this
end
/-- A cell of a granule of a channel. -/
def GcCell (g c j : Nat) : Prop := j = 10 + g * 2 + c ∨ j = 14 + g * 2 + c ∨ j = 18 + g * 2 + c ∨ j = 22 + g * 2 + c ∨ j = 26 + g * 2 + c ∨ j = 30 + g * 2 + c ∨ j = 34 + g * 2 + c ∨ (38 + g * 6 + c * 3 ≤ j ∧ j < 38 + g * 6 + c * 3 + 3) ∨ (50 + g * 6 + c * 3 ≤ j ∧ j < 50 + g * 6 + c * 3 + 3) ∨ j = 62 + g * 2 + c ∨ j = 66 + g * 2 + c ∨ j = 70 + g * 2 + c ∨ j = 74 + g * 2 + c ∨ j = 78 + g * 2 + c
/-- What the kind of block tells of the other numbers. -/
structure GcShape (S : Nat → Int) (g c : Nat) : Prop where
  plain : S (26 + g * 2 + c) = 0 → S (30 + g * 2 + c) = 0 ∧ S (34 + g * 2 + c) = 0 ∧ ∀ i, i < 3 → S (50 + g * 6 + c * 3 + i) = 0
  other : S (26 + g * 2 + c) = 1 → S (38 + g * 6 + c * 3 + 2) = 0 ∧ S (62 + g * 2 + c) = (if S (30 + g * 2 + c) = 2 ∧ S (34 + g * 2 + c) = 0 then 8 else 7) ∧ S (66 + g * 2 + c) = 20 - S (62 + g * 2 + c)
  reg : S (26 + g * 2 + c) = 0 → 0 ≤ S (66 + g * 2 + c) ∧ S (66 + g * 2 + c) < 8
/-- The cells ahead that are read, and those of the bits so far. -/
def DoneSc (n : Nat) (l : List Nat) (q k : Nat) : Prop := (∀ j ∈ l, j < 82) ∧ 0 ∈ l ∧ 1 ∈ l ∧ ∀ c k', c < n → k' < 4 → (c < q ∨ c = q ∧ k' < k) → 2 + c * 4 + k' ∈ l
theorem DoneSc.next {n q k : Nat} {l : List Nat} (h : DoneSc n l q k) (hq : q < 2) (hk : k < 4) : DoneSc n ((2 + q * 4 + k) :: l) q (k + 1) := by
  obtain ⟨h0, h1, h2, h3⟩ := h
  refine ⟨fun j hj => ?_, List.mem_cons_of_mem _ h1, List.mem_cons_of_mem _ h2, fun c k' hc hk' hlt => ?_⟩
  · rcases List.mem_cons.1 hj with q | q
    · omega
    · exact h0 j q
  · by_cases e : c = q ∧ k' = k
    · obtain ⟨rfl, rfl⟩ := e; exact List.mem_cons_self ..
    · exact List.mem_cons_of_mem _ (h3 c k' hc hk' (by omega))
theorem DoneSc.row {n q : Nat} {l : List Nat} (h : DoneSc n l q 4) : DoneSc n l (q + 1) 0 := ⟨h.1, h.2.1, h.2.2.1, fun c k hc hk hlt => h.2.2.2 c k hc hk (by omega)⟩
/-- And those of the granules of channels so far. -/
def DoneGc (S : Nat → Int) (n : Nat) (l : List Nat) (g c : Nat) : Prop := DoneSc n l n 0 ∧ ∀ g' c', g' < 2 → c' < n → (g' < g ∨ g' = g ∧ c' < c) → ∀ j, GcCell g' c' j → j ∈ l ∨ S j = 0
theorem DoneGc.next {S : Nat → Int} {n g c : Nat} {l l' : List Nat} (h : DoneGc S n l g c) (hs : ∀ j ∈ l, j ∈ l') (h82 : ∀ j ∈ l', j < 82) (hc : ∀ j, GcCell g c j → j ∈ l' ∨ S j = 0) : DoneGc S n l' g (c + 1) := by
  obtain ⟨⟨h0, h1, h2, h3⟩, h4⟩ := h
  refine ⟨⟨h82, hs _ h1, hs _ h2, fun c k hc hk hlt => hs _ (h3 c k hc hk hlt)⟩, fun g' c' hg' hc' hlt j hj => ?_⟩
  by_cases e : g' = g ∧ c' = c
  · obtain ⟨rfl, rfl⟩ := e; exact hc j hj
  · exact (h4 g' c' hg' hc' (by omega) j hj).imp (hs j) id
theorem DoneGc.row {S : Nat → Int} {n g : Nat} {l : List Nat} (h : DoneGc S n l g n) : DoneGc S n l (g + 1) 0 := ⟨h.1, fun g' c' hg' hc' hlt => h.2 g' c' hg' hc' (by omega)⟩
/-- The table of the package: how many bits there are. -/
structure BitsTab (w : World) : Prop where
  b0 : w.cell? ⟨2, 0, none⟩ = some (.int .i64 9)
  b1 : w.cell? ⟨2, 1, none⟩ = some (.int .i64 5)
  b2 : w.cell? ⟨2, 2, none⟩ = some (.int .i64 3)
  b3 : w.cell? ⟨2, 3, none⟩ = some (.int .i64 4)
theorem BitsTab.below {w w' : World} {Z : Nat} (h : BitsTab w) (hZ : 2 < Z) (hb : Below Z w w') : BitsTab w' :=
  ⟨(hb.cell (p := ⟨2, 0, none⟩) hZ).trans h.b0, (hb.cell (p := ⟨2, 1, none⟩) hZ).trans h.b1, (hb.cell (p := ⟨2, 2, none⟩) hZ).trans h.b2, (hb.cell (p := ⟨2, 3, none⟩) hZ).trans h.b3⟩
set_option maxHeartbeats 400000 in
theorem gran_any (x : Int) (h0 : 0 ≤ x) (h1 : x ≤ 4294967295) (hv : fID x = 3) (w : World) :
    Calls Tryd.prog 68 #[.int .u32 x] w fun e w' => e = .returned (.int .i64 2) ∧ w = w' := by
  go_enter Tryd.func68, Tryd.ntmps68
  go_wp2_with (first | (go_at_call 65; refine (low_any x h0 h1 hv _).mono ?_; rintro e w' ⟨rfl, rfl⟩))
  go_ret
  exact ⟨rfl, rfl⟩
/-- The words of a granule of a channel, by name. -/
structure ChunkHas (L : List Int) (S : Nat → Int) (b g c : Nat) : Prop where
  length : Has L b (S (10 + g * 2 + c)) 12
  big : Has L (b + 12) (S (14 + g * 2 + c)) 9
  gain : Has L (b + 21) (S (18 + g * 2 + c)) 8
  comp : Has L (b + 29) (S (22 + g * 2 + c)) 4
  sw : Has L (b + 33) (S (26 + g * 2 + c)) 1
  block : S (26 + g * 2 + c) = 1 → Has L (b + 34) (S (30 + g * 2 + c)) 2
  mixed : S (26 + g * 2 + c) = 1 → Has L (b + 36) (S (34 + g * 2 + c)) 1
  tab1 : S (26 + g * 2 + c) = 1 → ∀ j, j < 2 → Has L (b + 37 + 5 * j) (S (38 + g * 6 + c * 3 + j)) 5
  sub : S (26 + g * 2 + c) = 1 → ∀ j, j < 3 → Has L (b + 47 + 3 * j) (S (50 + g * 6 + c * 3 + j)) 3
  tab0 : S (26 + g * 2 + c) = 0 → ∀ j, j < 3 → Has L (b + 34 + 5 * j) (S (38 + g * 6 + c * 3 + j)) 5
  reg0 : S (26 + g * 2 + c) = 0 → Has L (b + 49) (S (62 + g * 2 + c)) 4
  reg1 : S (26 + g * 2 + c) = 0 → Has L (b + 53) (S (66 + g * 2 + c)) 3
  pre : Has L (b + 56) (S (70 + g * 2 + c)) 1
  scale : Has L (b + 57) (S (74 + g * 2 + c)) 1
  which : Has L (b + 58) (S (78 + g * 2 + c)) 1
theorem chunk_has {L : List Int} {S : Nat → Int} {b g c : Nat} (h : ∀ x ∈ chunkW S b g c, Has L x.1 x.2.1 x.2.2) : ChunkHas L S b g c := by
  have m : ∀ x : Wd3, x ∈ chunkW S b g c → Has L x.1 x.2.1 x.2.2 := h
  refine ⟨m (b, S (10 + g * 2 + c), 12) ?_, m (b + 12, S (14 + g * 2 + c), 9) ?_, m (b + 21, S (18 + g * 2 + c), 8) ?_, m (b + 29, S (22 + g * 2 + c), 4) ?_, m (b + 33, S (26 + g * 2 + c), 1) ?_,
    fun e => m (b + 34, S (30 + g * 2 + c), 2) ?_, fun e => m (b + 36, S (34 + g * 2 + c), 1) ?_, fun e j hj => m (b + 37 + 5 * j, S (38 + g * 6 + c * 3 + j), 5) ?_, fun e j hj => m (b + 47 + 3 * j, S (50 + g * 6 + c * 3 + j), 3) ?_,
    fun e j hj => m (b + 34 + 5 * j, S (38 + g * 6 + c * 3 + j), 5) ?_, fun e => m (b + 49, S (62 + g * 2 + c), 4) ?_, fun e => m (b + 53, S (66 + g * 2 + c), 3) ?_,
    m (b + 56, S (70 + g * 2 + c), 1) ?_, m (b + 57, S (74 + g * 2 + c), 1) ?_, m (b + 58, S (78 + g * 2 + c), 1) ?_⟩
  · unfold chunkW; simp
  · unfold chunkW; simp
  · unfold chunkW; simp
  · unfold chunkW; simp
  · unfold chunkW; simp
  · unfold chunkW; rw [if_pos e]; simp
  · unfold chunkW; rw [if_pos e]; simp
  · unfold chunkW; rw [if_pos e]; exact List.mem_append.2 (.inl (List.mem_append.2 (.inr (List.mem_append.2 (.inl (List.mem_append.2 (.inr (List.mem_map.2 ⟨j, List.mem_range.2 hj, rfl⟩))))))))
  · unfold chunkW; rw [if_pos e]; exact List.mem_append.2 (.inl (List.mem_append.2 (.inr (List.mem_append.2 (.inr (List.mem_map.2 ⟨j, List.mem_range.2 hj, rfl⟩))))))
  · unfold chunkW; rw [if_neg (by rw [e]; decide)]; exact List.mem_append.2 (.inl (List.mem_append.2 (.inr (List.mem_append.2 (.inl (List.mem_map.2 ⟨j, List.mem_range.2 hj, rfl⟩))))))
  · unfold chunkW; rw [if_neg (by rw [e]; decide)]; simp
  · unfold chunkW; rw [if_neg (by rw [e]; decide)]; simp
  · unfold chunkW; simp
  · unfold chunkW; simp
  · unfold chunkW; simp
/-- Some cells more, in a row. -/
def LK (l l' : List Nat) (o k : Nat) : Prop := (∀ j ∈ l, j ∈ l') ∧ (∀ j ∈ l', j < 82) ∧ ∀ i, i < k → o + i ∈ l'
theorem LK.start {l : List Nat} (o : Nat) (h : ∀ j ∈ l, j < 82) : LK l l o 0 := ⟨fun _ h => h, h, fun i hi => absurd hi (Nat.not_lt_zero _)⟩
theorem LK.next {l l' : List Nat} {o k : Nat} (h : LK l l' o k) (ho : o + k < 82) : LK l ((o + k) :: l') o (k + 1) := by
  refine ⟨fun j hj => List.mem_cons_of_mem _ (h.1 j hj), fun j hj => ?_, fun i hi => ?_⟩
  · rcases List.mem_cons.1 hj with q | q
    · omega
    · exact h.2.1 j q
  · by_cases e : i = k
    · subst e; exact List.mem_cons_self ..
    · exact List.mem_cons_of_mem _ (h.2.2 i (by omega))
theorem cons82 {l : List Nat} {i : Nat} (h : ∀ j ∈ l, j < 82) (hi : i < 82) : ∀ j ∈ i :: l, j < 82 := by
  intro j hj
  rcases List.mem_cons.1 hj with q | q
  · omega
  · exact h j q
theorem RB.at {w0 : World} {Z R B q p : Nat} {L : List Int} {T : Nat → Int} {s s' : Nat} {w : World} (h : RB w0 Z R B q p L T s w) (e : s = s') : RB w0 Z R B q p L T s' w := e ▸ h
end Go.Proofs.YtppfldobgemddaaDoor
namespace Go.Proofs.YtppfldobgemddaaDoor
open Go.RowKit
set_option linter.unusedVariables false

/-- A frame of 362 slots, off a function. -/
def mkB (f : Nat → Value) : Act := ⟨#[f 0, f 1, f 2, f 3, f 4, f 5, f 6, f 7, f 8, f 9, f 10, f 11, f 12, f 13, f 14, f 15, f 16, f 17, f 18, f 19, f 20, f 21, f 22, f 23, f 24, f 25, f 26, f 27, f 28, f 29, f 30, f 31, f 32, f 33, f 34, f 35, f 36, f 37, f 38, f 39, f 40, f 41, f 42, f 43, f 44, f 45, f 46, f 47, f 48, f 49, f 50, f 51, f 52, f 53, f 54, f 55, f 56, f 57, f 58, f 59, f 60, f 61, f 62, f 63, f 64, f 65, f 66, f 67, f 68, f 69, f 70, f 71, f 72, f 73, f 74, f 75, f 76, f 77, f 78, f 79, f 80, f 81, f 82, f 83, f 84, f 85, f 86, f 87, f 88, f 89, f 90, f 91, f 92, f 93, f 94, f 95, f 96, f 97, f 98, f 99, f 100, f 101, f 102, f 103, f 104, f 105, f 106, f 107, f 108, f 109, f 110, f 111, f 112, f 113, f 114, f 115, f 116, f 117, f 118, f 119, f 120, f 121, f 122, f 123, f 124, f 125, f 126, f 127, f 128, f 129, f 130, f 131, f 132, f 133, f 134, f 135, f 136, f 137, f 138, f 139, f 140, f 141, f 142, f 143, f 144, f 145, f 146, f 147, f 148, f 149, f 150, f 151, f 152, f 153, f 154, f 155, f 156, f 157, f 158, f 159, f 160, f 161, f 162, f 163, f 164, f 165, f 166, f 167, f 168, f 169, f 170, f 171, f 172, f 173, f 174, f 175, f 176, f 177, f 178, f 179, f 180, f 181, f 182, f 183, f 184, f 185, f 186, f 187, f 188, f 189, f 190, f 191, f 192, f 193, f 194, f 195, f 196, f 197, f 198, f 199, f 200, f 201, f 202, f 203, f 204, f 205, f 206, f 207, f 208, f 209, f 210, f 211, f 212, f 213, f 214, f 215, f 216, f 217, f 218, f 219, f 220, f 221, f 222, f 223, f 224, f 225, f 226, f 227, f 228, f 229, f 230, f 231, f 232, f 233, f 234, f 235, f 236, f 237, f 238, f 239, f 240, f 241, f 242, f 243, f 244, f 245, f 246, f 247, f 248, f 249, f 250, f 251, f 252, f 253, f 254, f 255, f 256, f 257, f 258, f 259, f 260, f 261, f 262, f 263, f 264, f 265, f 266, f 267, f 268, f 269, f 270, f 271, f 272, f 273, f 274, f 275, f 276, f 277, f 278, f 279, f 280, f 281, f 282, f 283, f 284, f 285, f 286, f 287, f 288, f 289, f 290, f 291, f 292, f 293, f 294, f 295, f 296, f 297, f 298, f 299, f 300, f 301, f 302, f 303, f 304, f 305, f 306, f 307, f 308, f 309, f 310, f 311, f 312, f 313, f 314, f 315, f 316, f 317, f 318, f 319, f 320, f 321, f 322, f 323, f 324, f 325, f 326, f 327, f 328, f 329, f 330, f 331, f 332, f 333, f 334, f 335, f 336, f 337, f 338, f 339, f 340, f 341, f 342, f 343, f 344, f 345, f 346, f 347, f 348, f 349, f 350, f 351, f 352, f 353, f 354, f 355, f 356, f 357, f 358, f 359, f 360, f 361], []⟩
theorem mkB_list (f : Nat → Value) : (mkB f).tmps.toList = (List.range 362).map f := by
  unfold mkB; kernel_rfl
theorem mkB_of (a : Act) (h : a.tmps.size = 362) (hd : a.defers = []) : a = mkB (fun i => a.tmps.getD i undef) := by
  have e : a.tmps = (mkB (fun i => a.tmps.getD i undef)).tmps := by
    apply Array.ext'
    rw [mkB_list]
    apply List.ext_getElem
    · simp [h]
    · intro i h1 h2
      have hi : i < a.tmps.size := by simpa using h1
      simp [Array.getD, hi]
  cases a with
  | mk tm df => cases hd; simp only at e; rw [← show (⟨(mkB (fun i => tm.getD i undef)).tmps, []⟩ : Act) = mkB (fun i => tm.getD i undef) from rfl]; rw [← e]
/-- The slots that matter. -/
structure Rf (x : Int) (n R q p : Nat) (x19 x20 : Value) (a : Act) : Prop where
  size : a.tmps.size = 362
  dn : a.defers = []
  at1 : a.tmps.getD 1 undef = .int .u32 x
  at6 : a.tmps.getD 6 undef = .int .i64 n
  at13 : a.tmps.getD 13 undef = .pointer (some ⟨R, 0, none⟩)
  at14 : a.tmps.getD 14 undef = .bool true
  at15 : a.tmps.getD 15 undef = .pointer (some ⟨q, 0, none⟩)
  at16 : a.tmps.getD 16 undef = .pointer (some ⟨p, 0, none⟩)
  at19 : a.tmps.getD 19 undef = x19
  at20 : a.tmps.getD 20 undef = x20
theorem Rf.opened {x : Int} {n R q p : Nat} {x19 x20 : Value} {a : Act} (h : Rf x n R q p x19 x20 a) :
    ∃ f : Nat → Value, a = mkB f ∧ f 1 = .int .u32 x ∧ f 6 = .int .i64 n ∧ f 13 = .pointer (some ⟨R, 0, none⟩) ∧ f 14 = .bool true ∧ f 15 = .pointer (some ⟨q, 0, none⟩) ∧ f 16 = .pointer (some ⟨p, 0, none⟩) ∧ f 19 = x19 ∧ f 20 = x20 :=
  ⟨fun i => a.tmps.getD i undef, mkB_of a h.size h.dn, h.at1, h.at6, h.at13, h.at14, h.at15, h.at16, h.at19, h.at20⟩
def dropT : Nat → Code → Code
  | 0, c => c
  | n + 1, .seq _ b => dropT n b
  | _, c => c
noncomputable def rdBody : Code := Tryd.f48.body.getD .skip
noncomputable def rdLoops : Code := nthS 18 rdBody
noncomputable def rdL3 : Code := loopC (blkC (nthS 1 rdLoops))
noncomputable def rdL4 : Code := loopC (blkC (nthS 1 (blkC (nthS 1 rdL3))))
noncomputable def gcItem (k : Nat) : Code := nthS k (blkC (nthS 1 rdL4))
noncomputable def gcThen : Code := thnC (nthS 1 (gcItem 5))
noncomputable def gcElse : Code := elsC (nthS 1 (gcItem 5))
theorem rdLoops_eq : rdLoops = .seq (nthS 0 rdLoops) (.block 4 (.loop rdL3)) := by kernel_rfl
theorem rdL3_eq : rdL3 = .seq (nthS 0 rdL3) (.seq (.block 5 (.seq (nthS 0 (blkC (nthS 1 rdL3))) (.block 6 (.loop rdL4)))) (nthS 2 rdL3)) := by kernel_rfl
theorem rdL4_eq : rdL4 = .seq (nthS 0 rdL4) (.seq (.block 7 (.seq (gcItem 0) (.seq (gcItem 1) (.seq (gcItem 2) (.seq (gcItem 3) (.seq (gcItem 4) (.seq (gcItem 5) (.seq (gcItem 6) (.seq (gcItem 7) (gcItem 8)))))))))) (nthS 2 rdL4)) := by kernel_rfl
theorem gcItem5_eq : gcItem 5 = .seq (nthS 0 (gcItem 5)) (.cond (.tmp 186) gcThen gcElse) := by kernel_rfl
theorem gcThen_eq : gcThen = .seq (nthS 0 gcThen) (.seq (nthS 1 gcThen) (.seq (nthS 2 gcThen) (.seq (nthS 3 gcThen) (.seq (nthS 4 gcThen) (nthS 5 gcThen))))) := by kernel_rfl
theorem gcElse_eq : gcElse = .seq (nthS 0 gcElse) (.seq (nthS 1 gcElse) (.seq (nthS 2 gcElse) (.seq (nthS 3 gcElse) (dropT 4 gcElse)))) := by kernel_rfl
end Go.Proofs.YtppfldobgemddaaDoor
namespace Go.Proofs.YtppfldobgemddaaDoor
open Go.RowKit
set_option linter.unusedVariables false

set_option maxRecDepth 1000000 in
set_option maxHeartbeats 4000000 in
theorem gw0 {w0 : World} {Z R B q p n s : Nat} {L : List Int} {S : Nat → Int} {l : List Nat} {x : Int} {g c : Nat} {z19 z20 : Value} (a : Act) (w : World) (hf : Rf x n R q p (.int .i64 g) (.int .i64 c) a) (H0 : RB w0 Z R B q p L (mixL l S) s w) (hg : g < 2) (hc : c < 2) (hL : Bytes L) (hx : Has L s (S (10 + g * 2 + c)) 12) (v0 : 0 ≤ S (10 + g * 2 + c) ∧ S (10 + g * 2 + c) < 4096) (hfit : s + 12 ≤ 8 * L.length) (Q : Exit → Act → World → Prop)
    (hQ : ∀ (a' : Act) (w' : World), Rf x n R q p (.int .i64 g) (.int .i64 c) a' → RB w0 Z R B q p L (mixL ((10 + g * 2 + c) :: l) S) (s + 12) w' → Q .normal a' w') :
    Code.wp Tryd.prog (gcItem 0) Q a w := by
  obtain ⟨f, rfl, e1, e6, e13, e14, e15, e16, e19, e20⟩ := hf.opened
  unfold mkB
  rw [e1, e6, e13, e14, e15, e16, e19, e20]
  clear hf e1 e6 e13 e14 e15 e16 e19 e20
  have HQ := Lib.hid hQ
  clear hQ
  have H := Lib.hid H0
  clear H0
  have ig0 : (0 : Int) ≤ (g : Int) := by omega
  have ig1 : (g : Int) < 2 := by omega
  have ic0 : (0 : Int) ≤ (c : Int) := by omega
  have ic1 : (c : Int) < 2 := by omega
  conv => arg 2; whnf
  have hlt : 10 + g * 2 + c < 86 := by omega
  have HW := Lib.hid (And.intro hL (And.intro hx (And.intro v0 hfit)))
  clear hL hx v0 hfit
  go_wp2_with fail
  go_region_held3 (fun w' => True) (trivial) ((first | (go_at_call 66; refine (H.out.drew.word (n := 12) (v := S (10 + g * 2 + c)) HW.out.1 HW.out.2.1 HW.out.2.2.1.1 HW.out.2.2.1.2 (by decide) (by decide) HW.out.2.2.2).mono ?_; rintro e w7 ⟨rfl, h7⟩; have c7 := h7.cell (10 + g * 2 + c) hlt; have f7 := h7.free (10 + g * 2 + c); have H7 := Lib.hid h7; clear h7)))
  exact HQ.out _ _ ⟨rfl, rfl, rfl, rfl, rfl, rfl, rfl, rfl, rfl, rfl⟩ (H7.out.put (10 + g * 2 + c) hlt)
set_option maxRecDepth 1000000 in
set_option maxHeartbeats 4000000 in
theorem gw1 {w0 : World} {Z R B q p n s : Nat} {L : List Int} {S : Nat → Int} {l : List Nat} {x : Int} {g c : Nat} {z19 z20 : Value} (a : Act) (w : World) (hf : Rf x n R q p (.int .i64 g) (.int .i64 c) a) (H0 : RB w0 Z R B q p L (mixL l S) s w) (hg : g < 2) (hc : c < 2) (hL : Bytes L) (hx : Has L s (S (14 + g * 2 + c)) 9) (v0 : 0 ≤ S (14 + g * 2 + c) ∧ S (14 + g * 2 + c) < 512) (hfit : s + 9 ≤ 8 * L.length) (Q : Exit → Act → World → Prop)
    (hQ : ∀ (a' : Act) (w' : World), Rf x n R q p (.int .i64 g) (.int .i64 c) a' → RB w0 Z R B q p L (mixL ((14 + g * 2 + c) :: l) S) (s + 9) w' → Q .normal a' w') :
    Code.wp Tryd.prog (gcItem 1) Q a w := by
  obtain ⟨f, rfl, e1, e6, e13, e14, e15, e16, e19, e20⟩ := hf.opened
  unfold mkB
  rw [e1, e6, e13, e14, e15, e16, e19, e20]
  clear hf e1 e6 e13 e14 e15 e16 e19 e20
  have HQ := Lib.hid hQ
  clear hQ
  have H := Lib.hid H0
  clear H0
  have ig0 : (0 : Int) ≤ (g : Int) := by omega
  have ig1 : (g : Int) < 2 := by omega
  have ic0 : (0 : Int) ≤ (c : Int) := by omega
  have ic1 : (c : Int) < 2 := by omega
  conv => arg 2; whnf
  have hlt : 14 + g * 2 + c < 86 := by omega
  have HW := Lib.hid (And.intro hL (And.intro hx (And.intro v0 hfit)))
  clear hL hx v0 hfit
  go_wp2_with fail
  go_region_held3 (fun w' => True) (trivial) ((first | (go_at_call 66; refine (H.out.drew.word (n := 9) (v := S (14 + g * 2 + c)) HW.out.1 HW.out.2.1 HW.out.2.2.1.1 HW.out.2.2.1.2 (by decide) (by decide) HW.out.2.2.2).mono ?_; rintro e w7 ⟨rfl, h7⟩; have c7 := h7.cell (14 + g * 2 + c) hlt; have f7 := h7.free (14 + g * 2 + c); have H7 := Lib.hid h7; clear h7)))
  exact HQ.out _ _ ⟨rfl, rfl, rfl, rfl, rfl, rfl, rfl, rfl, rfl, rfl⟩ (H7.out.put (14 + g * 2 + c) hlt)
set_option maxRecDepth 1000000 in
set_option maxHeartbeats 4000000 in
theorem gw2 {w0 : World} {Z R B q p n s : Nat} {L : List Int} {S : Nat → Int} {l : List Nat} {x : Int} {g c : Nat} {z19 z20 : Value} (a : Act) (w : World) (hf : Rf x n R q p (.int .i64 g) (.int .i64 c) a) (H0 : RB w0 Z R B q p L (mixL l S) s w) (hg : g < 2) (hc : c < 2) (hL : Bytes L) (hx : Has L s (S (18 + g * 2 + c)) 8) (v0 : 0 ≤ S (18 + g * 2 + c) ∧ S (18 + g * 2 + c) < 256) (hfit : s + 8 ≤ 8 * L.length) (Q : Exit → Act → World → Prop)
    (hQ : ∀ (a' : Act) (w' : World), Rf x n R q p (.int .i64 g) (.int .i64 c) a' → RB w0 Z R B q p L (mixL ((18 + g * 2 + c) :: l) S) (s + 8) w' → Q .normal a' w') :
    Code.wp Tryd.prog (gcItem 2) Q a w := by
  obtain ⟨f, rfl, e1, e6, e13, e14, e15, e16, e19, e20⟩ := hf.opened
  unfold mkB
  rw [e1, e6, e13, e14, e15, e16, e19, e20]
  clear hf e1 e6 e13 e14 e15 e16 e19 e20
  have HQ := Lib.hid hQ
  clear hQ
  have H := Lib.hid H0
  clear H0
  have ig0 : (0 : Int) ≤ (g : Int) := by omega
  have ig1 : (g : Int) < 2 := by omega
  have ic0 : (0 : Int) ≤ (c : Int) := by omega
  have ic1 : (c : Int) < 2 := by omega
  conv => arg 2; whnf
  have hlt : 18 + g * 2 + c < 86 := by omega
  have HW := Lib.hid (And.intro hL (And.intro hx (And.intro v0 hfit)))
  clear hL hx v0 hfit
  go_wp2_with fail
  go_region_held3 (fun w' => True) (trivial) ((first | (go_at_call 66; refine (H.out.drew.word (n := 8) (v := S (18 + g * 2 + c)) HW.out.1 HW.out.2.1 HW.out.2.2.1.1 HW.out.2.2.1.2 (by decide) (by decide) HW.out.2.2.2).mono ?_; rintro e w7 ⟨rfl, h7⟩; have c7 := h7.cell (18 + g * 2 + c) hlt; have f7 := h7.free (18 + g * 2 + c); have H7 := Lib.hid h7; clear h7)))
  exact HQ.out _ _ ⟨rfl, rfl, rfl, rfl, rfl, rfl, rfl, rfl, rfl, rfl⟩ (H7.out.put (18 + g * 2 + c) hlt)
set_option maxRecDepth 1000000 in
set_option maxHeartbeats 4000000 in
theorem gw3 {w0 : World} {Z R B q p n s : Nat} {L : List Int} {S : Nat → Int} {l : List Nat} {x : Int} {g c : Nat} {z19 z20 : Value} (a : Act) (w : World) (hf : Rf x n R q p (.int .i64 g) (.int .i64 c) a) (H0 : RB w0 Z R B q p L (mixL l S) s w) (hg : g < 2) (hc : c < 2) (hL : Bytes L) (hx : Has L s (S (22 + g * 2 + c)) 4) (v0 : 0 ≤ S (22 + g * 2 + c) ∧ S (22 + g * 2 + c) < 16) (hfit : s + 4 ≤ 8 * L.length) (Q : Exit → Act → World → Prop)
    (hQ : ∀ (a' : Act) (w' : World), Rf x n R q p (.int .i64 g) (.int .i64 c) a' → RB w0 Z R B q p L (mixL ((22 + g * 2 + c) :: l) S) (s + 4) w' → Q .normal a' w') :
    Code.wp Tryd.prog (gcItem 3) Q a w := by
  obtain ⟨f, rfl, e1, e6, e13, e14, e15, e16, e19, e20⟩ := hf.opened
  unfold mkB
  rw [e1, e6, e13, e14, e15, e16, e19, e20]
  clear hf e1 e6 e13 e14 e15 e16 e19 e20
  have HQ := Lib.hid hQ
  clear hQ
  have H := Lib.hid H0
  clear H0
  have ig0 : (0 : Int) ≤ (g : Int) := by omega
  have ig1 : (g : Int) < 2 := by omega
  have ic0 : (0 : Int) ≤ (c : Int) := by omega
  have ic1 : (c : Int) < 2 := by omega
  conv => arg 2; whnf
  have hlt : 22 + g * 2 + c < 86 := by omega
  have HW := Lib.hid (And.intro hL (And.intro hx (And.intro v0 hfit)))
  clear hL hx v0 hfit
  go_wp2_with fail
  have t3 : w.cell? ⟨q, 3, none⟩ = some (.int .i64 4) := H.out.bits 3
  have t3d : w.drew.cell? ⟨q, 3, none⟩ = some (.int .i64 4) := H.out.drew.bits 3
  have hqp : q ≠ p := H.out.apart.2.2.2
  go_region_held3 (fun w' => w'.cell? ⟨q, 3, none⟩ = some (.int .i64 4)) ((first | exact t3 | exact t3d | exact k7 | exact n7 _ | go_keep)) ((first | (go_at_call 66; refine (H.out.drew.word (n := 4) (v := S (22 + g * 2 + c)) HW.out.1 HW.out.2.1 HW.out.2.2.1.1 HW.out.2.2.1.2 (by decide) (by decide) HW.out.2.2.2).mono ?_; rintro e w7 ⟨rfl, h7⟩; have c7 := h7.cell (22 + g * 2 + c) hlt; have f7 := h7.free (22 + g * 2 + c); have k7 : w7.cell? ⟨q, 3, none⟩ = some (.int .i64 4) := h7.bits 3; have n7 : ∀ z, (w7.setCell ⟨p, 22 + g * 2 + c, none⟩ z).cell? ⟨q, 3, none⟩ = some (.int .i64 4) := (fun z => by rw [cs_other (by intro e; injection e with e; exact hqp e.symm)]; exact k7); have H7 := Lib.hid h7; clear h7)))
  exact HQ.out _ _ ⟨rfl, rfl, rfl, rfl, rfl, rfl, rfl, rfl, rfl, rfl⟩ (H7.out.put (22 + g * 2 + c) hlt)
set_option maxRecDepth 1000000 in
set_option maxHeartbeats 4000000 in
theorem gw4 {w0 : World} {Z R B q p n s : Nat} {L : List Int} {S : Nat → Int} {l : List Nat} {x : Int} {g c : Nat} {z19 z20 : Value} (a : Act) (w : World) (hf : Rf x n R q p (.int .i64 g) (.int .i64 c) a) (H0 : RB w0 Z R B q p L (mixL l S) s w) (hg : g < 2) (hc : c < 2) (hL : Bytes L) (hx : Has L s (S (26 + g * 2 + c)) 1) (v0 : 0 ≤ S (26 + g * 2 + c) ∧ S (26 + g * 2 + c) < 2) (hfit : s + 1 ≤ 8 * L.length) (Q : Exit → Act → World → Prop)
    (hQ : ∀ (a' : Act) (w' : World), Rf x n R q p (.int .i64 g) (.int .i64 c) a' → RB w0 Z R B q p L (mixL ((26 + g * 2 + c) :: l) S) (s + 1) w' → Q .normal a' w') :
    Code.wp Tryd.prog (gcItem 4) Q a w := by
  obtain ⟨f, rfl, e1, e6, e13, e14, e15, e16, e19, e20⟩ := hf.opened
  unfold mkB
  rw [e1, e6, e13, e14, e15, e16, e19, e20]
  clear hf e1 e6 e13 e14 e15 e16 e19 e20
  have HQ := Lib.hid hQ
  clear hQ
  have H := Lib.hid H0
  clear H0
  have ig0 : (0 : Int) ≤ (g : Int) := by omega
  have ig1 : (g : Int) < 2 := by omega
  have ic0 : (0 : Int) ≤ (c : Int) := by omega
  have ic1 : (c : Int) < 2 := by omega
  conv => arg 2; whnf
  have hlt : 26 + g * 2 + c < 86 := by omega
  have HW := Lib.hid (And.intro hL (And.intro hx (And.intro v0 hfit)))
  clear hL hx v0 hfit
  go_wp2_with fail
  go_region_held3 (fun w' => True) (trivial) ((first | (go_at_call 66; refine (H.out.drew.word (n := 1) (v := S (26 + g * 2 + c)) HW.out.1 HW.out.2.1 HW.out.2.2.1.1 HW.out.2.2.1.2 (by decide) (by decide) HW.out.2.2.2).mono ?_; rintro e w7 ⟨rfl, h7⟩; have c7 := h7.cell (26 + g * 2 + c) hlt; have f7 := h7.free (26 + g * 2 + c); have H7 := Lib.hid h7; clear h7)))
  exact HQ.out _ _ ⟨rfl, rfl, rfl, rfl, rfl, rfl, rfl, rfl, rfl, rfl⟩ (H7.out.put (26 + g * 2 + c) hlt)
set_option maxRecDepth 1000000 in
set_option maxHeartbeats 4000000 in
theorem gw7 {w0 : World} {Z R B q p n s : Nat} {L : List Int} {S : Nat → Int} {l : List Nat} {x : Int} {g c : Nat} {z19 z20 : Value} (a : Act) (w : World) (hf : Rf x n R q p (.int .i64 g) (.int .i64 c) a) (H0 : RB w0 Z R B q p L (mixL l S) s w) (hg : g < 2) (hc : c < 2) (hL : Bytes L) (hx : Has L s (S (74 + g * 2 + c)) 1) (v0 : 0 ≤ S (74 + g * 2 + c) ∧ S (74 + g * 2 + c) < 2) (hfit : s + 1 ≤ 8 * L.length) (Q : Exit → Act → World → Prop)
    (hQ : ∀ (a' : Act) (w' : World), Rf x n R q p (.int .i64 g) (.int .i64 c) a' → RB w0 Z R B q p L (mixL ((74 + g * 2 + c) :: l) S) (s + 1) w' → Q .normal a' w') :
    Code.wp Tryd.prog (gcItem 7) Q a w := by
  obtain ⟨f, rfl, e1, e6, e13, e14, e15, e16, e19, e20⟩ := hf.opened
  unfold mkB
  rw [e1, e6, e13, e14, e15, e16, e19, e20]
  clear hf e1 e6 e13 e14 e15 e16 e19 e20
  have HQ := Lib.hid hQ
  clear hQ
  have H := Lib.hid H0
  clear H0
  have ig0 : (0 : Int) ≤ (g : Int) := by omega
  have ig1 : (g : Int) < 2 := by omega
  have ic0 : (0 : Int) ≤ (c : Int) := by omega
  have ic1 : (c : Int) < 2 := by omega
  conv => arg 2; whnf
  have hlt : 74 + g * 2 + c < 86 := by omega
  have HW := Lib.hid (And.intro hL (And.intro hx (And.intro v0 hfit)))
  clear hL hx v0 hfit
  go_wp2_with fail
  go_region_held3 (fun w' => True) (trivial) ((first | (go_at_call 66; refine (H.out.drew.word (n := 1) (v := S (74 + g * 2 + c)) HW.out.1 HW.out.2.1 HW.out.2.2.1.1 HW.out.2.2.1.2 (by decide) (by decide) HW.out.2.2.2).mono ?_; rintro e w7 ⟨rfl, h7⟩; have c7 := h7.cell (74 + g * 2 + c) hlt; have f7 := h7.free (74 + g * 2 + c); have H7 := Lib.hid h7; clear h7)))
  exact HQ.out _ _ ⟨rfl, rfl, rfl, rfl, rfl, rfl, rfl, rfl, rfl, rfl⟩ (H7.out.put (74 + g * 2 + c) hlt)
set_option maxRecDepth 1000000 in
set_option maxHeartbeats 4000000 in
theorem gw8 {w0 : World} {Z R B q p n s : Nat} {L : List Int} {S : Nat → Int} {l : List Nat} {x : Int} {g c : Nat} {z19 z20 : Value} (a : Act) (w : World) (hf : Rf x n R q p (.int .i64 g) (.int .i64 c) a) (H0 : RB w0 Z R B q p L (mixL l S) s w) (hg : g < 2) (hc : c < 2) (hL : Bytes L) (hx : Has L s (S (78 + g * 2 + c)) 1) (v0 : 0 ≤ S (78 + g * 2 + c) ∧ S (78 + g * 2 + c) < 2) (hfit : s + 1 ≤ 8 * L.length) (Q : Exit → Act → World → Prop)
    (hQ : ∀ (a' : Act) (w' : World), Rf x n R q p (.int .i64 g) (.int .i64 c) a' → RB w0 Z R B q p L (mixL ((78 + g * 2 + c) :: l) S) (s + 1) w' → Q .normal a' w') :
    Code.wp Tryd.prog (gcItem 8) Q a w := by
  obtain ⟨f, rfl, e1, e6, e13, e14, e15, e16, e19, e20⟩ := hf.opened
  unfold mkB
  rw [e1, e6, e13, e14, e15, e16, e19, e20]
  clear hf e1 e6 e13 e14 e15 e16 e19 e20
  have HQ := Lib.hid hQ
  clear hQ
  have H := Lib.hid H0
  clear H0
  have ig0 : (0 : Int) ≤ (g : Int) := by omega
  have ig1 : (g : Int) < 2 := by omega
  have ic0 : (0 : Int) ≤ (c : Int) := by omega
  have ic1 : (c : Int) < 2 := by omega
  conv => arg 2; whnf
  have hlt : 78 + g * 2 + c < 86 := by omega
  have HW := Lib.hid (And.intro hL (And.intro hx (And.intro v0 hfit)))
  clear hL hx v0 hfit
  go_wp2_with fail
  go_region_held3 (fun w' => True) (trivial) ((first | (go_at_call 66; refine (H.out.drew.word (n := 1) (v := S (78 + g * 2 + c)) HW.out.1 HW.out.2.1 HW.out.2.2.1.1 HW.out.2.2.1.2 (by decide) (by decide) HW.out.2.2.2).mono ?_; rintro e w7 ⟨rfl, h7⟩; have c7 := h7.cell (78 + g * 2 + c) hlt; have f7 := h7.free (78 + g * 2 + c); have H7 := Lib.hid h7; clear h7)))
  exact HQ.out _ _ ⟨rfl, rfl, rfl, rfl, rfl, rfl, rfl, rfl, rfl, rfl⟩ (H7.out.put (78 + g * 2 + c) hlt)
set_option maxRecDepth 1000000 in
set_option maxHeartbeats 4000000 in
theorem gw6 {w0 : World} {Z R B q p n s : Nat} {L : List Int} {S : Nat → Int} {l : List Nat} {x : Int} {g c : Nat} {z19 z20 : Value} (a : Act) (w : World) (hf : Rf x n R q p (.int .i64 g) (.int .i64 c) a) (H0 : RB w0 Z R B q p L (mixL l S) s w) (hg : g < 2) (hc : c < 2) (hL : Bytes L) (hx : Has L s (S (70 + g * 2 + c)) 1) (v0 : 0 ≤ S (70 + g * 2 + c) ∧ S (70 + g * 2 + c) < 2) (hfit : s + 1 ≤ 8 * L.length) (Q : Exit → Act → World → Prop)
    (hQ : ∀ (a' : Act) (w' : World), Rf x n R q p (.int .i64 g) (.int .i64 c) a' → RB w0 Z R B q p L (mixL ((70 + g * 2 + c) :: l) S) (s + 1) w' → Q .normal a' w') :
    Code.wp Tryd.prog (gcItem 6) Q a w := by
  obtain ⟨f, rfl, e1, e6, e13, e14, e15, e16, e19, e20⟩ := hf.opened
  unfold mkB
  rw [e1, e6, e13, e14, e15, e16, e19, e20]
  clear hf e1 e6 e13 e14 e15 e16 e19 e20
  have HQ := Lib.hid hQ
  clear hQ
  have H := Lib.hid H0
  clear H0
  have ig0 : (0 : Int) ≤ (g : Int) := by omega
  have ig1 : (g : Int) < 2 := by omega
  have ic0 : (0 : Int) ≤ (c : Int) := by omega
  have ic1 : (c : Int) < 2 := by omega
  conv => arg 2; whnf
  have hlt : 70 + g * 2 + c < 86 := by omega
  have HW := Lib.hid (And.intro hL (And.intro hx (And.intro v0 hfit)))
  clear hL hx v0 hfit
  go_wp2_with fail
  go_region_held3 (fun w' => True) (trivial) ((first | (go_at_call 66; refine (H.out.drew.word (n := 1) (v := S (70 + g * 2 + c)) HW.out.1 HW.out.2.1 HW.out.2.2.1.1 HW.out.2.2.1.2 (by decide) (by decide) HW.out.2.2.2).mono ?_; rintro e w7 ⟨rfl, h7⟩; have c7 := h7.cell (70 + g * 2 + c) hlt; have f7 := h7.free (70 + g * 2 + c); have H7 := Lib.hid h7; clear h7)))
  exact HQ.out _ _ ⟨rfl, rfl, rfl, rfl, rfl, rfl, rfl, rfl, rfl, rfl⟩ (H7.out.put (70 + g * 2 + c) hlt)
set_option maxRecDepth 1000000 in
set_option maxHeartbeats 4000000 in
theorem gt0 {w0 : World} {Z R B q p n s : Nat} {L : List Int} {S : Nat → Int} {l : List Nat} {x : Int} {g c : Nat} {z19 z20 : Value} (a : Act) (w : World) (hf : Rf x n R q p (.int .i64 g) (.int .i64 c) a) (H0 : RB w0 Z R B q p L (mixL l S) s w) (hg : g < 2) (hc : c < 2) (hL : Bytes L) (hx : Has L s (S (30 + g * 2 + c)) 2) (v0 : 0 ≤ S (30 + g * 2 + c) ∧ S (30 + g * 2 + c) < 4) (hfit : s + 2 ≤ 8 * L.length) (Q : Exit → Act → World → Prop)
    (hQ : ∀ (a' : Act) (w' : World), Rf x n R q p (.int .i64 g) (.int .i64 c) a' → RB w0 Z R B q p L (mixL ((30 + g * 2 + c) :: l) S) (s + 2) w' → Q .normal a' w') :
    Code.wp Tryd.prog (nthS 0 gcThen) Q a w := by
  obtain ⟨f, rfl, e1, e6, e13, e14, e15, e16, e19, e20⟩ := hf.opened
  unfold mkB
  rw [e1, e6, e13, e14, e15, e16, e19, e20]
  clear hf e1 e6 e13 e14 e15 e16 e19 e20
  have HQ := Lib.hid hQ
  clear hQ
  have H := Lib.hid H0
  clear H0
  have ig0 : (0 : Int) ≤ (g : Int) := by omega
  have ig1 : (g : Int) < 2 := by omega
  have ic0 : (0 : Int) ≤ (c : Int) := by omega
  have ic1 : (c : Int) < 2 := by omega
  conv => arg 2; whnf
  have hlt : 30 + g * 2 + c < 86 := by omega
  have HW := Lib.hid (And.intro hL (And.intro hx (And.intro v0 hfit)))
  clear hL hx v0 hfit
  go_wp2_with fail
  go_region_held3 (fun w' => True) (trivial) ((first | (go_at_call 66; refine (H.out.drew.word (n := 2) (v := S (30 + g * 2 + c)) HW.out.1 HW.out.2.1 HW.out.2.2.1.1 HW.out.2.2.1.2 (by decide) (by decide) HW.out.2.2.2).mono ?_; rintro e w7 ⟨rfl, h7⟩; have c7 := h7.cell (30 + g * 2 + c) hlt; have f7 := h7.free (30 + g * 2 + c); have H7 := Lib.hid h7; clear h7)))
  exact HQ.out _ _ ⟨rfl, rfl, rfl, rfl, rfl, rfl, rfl, rfl, rfl, rfl⟩ (H7.out.put (30 + g * 2 + c) hlt)
set_option maxRecDepth 1000000 in
set_option maxHeartbeats 4000000 in
theorem gt1 {w0 : World} {Z R B q p n s : Nat} {L : List Int} {S : Nat → Int} {l : List Nat} {x : Int} {g c : Nat} {z19 z20 : Value} (a : Act) (w : World) (hf : Rf x n R q p (.int .i64 g) (.int .i64 c) a) (H0 : RB w0 Z R B q p L (mixL l S) s w) (hg : g < 2) (hc : c < 2) (hL : Bytes L) (hx : Has L s (S (34 + g * 2 + c)) 1) (v0 : 0 ≤ S (34 + g * 2 + c) ∧ S (34 + g * 2 + c) < 2) (hfit : s + 1 ≤ 8 * L.length) (Q : Exit → Act → World → Prop)
    (hQ : ∀ (a' : Act) (w' : World), Rf x n R q p (.int .i64 g) (.int .i64 c) a' → RB w0 Z R B q p L (mixL ((34 + g * 2 + c) :: l) S) (s + 1) w' → Q .normal a' w') :
    Code.wp Tryd.prog (nthS 1 gcThen) Q a w := by
  obtain ⟨f, rfl, e1, e6, e13, e14, e15, e16, e19, e20⟩ := hf.opened
  unfold mkB
  rw [e1, e6, e13, e14, e15, e16, e19, e20]
  clear hf e1 e6 e13 e14 e15 e16 e19 e20
  have HQ := Lib.hid hQ
  clear hQ
  have H := Lib.hid H0
  clear H0
  have ig0 : (0 : Int) ≤ (g : Int) := by omega
  have ig1 : (g : Int) < 2 := by omega
  have ic0 : (0 : Int) ≤ (c : Int) := by omega
  have ic1 : (c : Int) < 2 := by omega
  conv => arg 2; whnf
  have hlt : 34 + g * 2 + c < 86 := by omega
  have HW := Lib.hid (And.intro hL (And.intro hx (And.intro v0 hfit)))
  clear hL hx v0 hfit
  go_wp2_with fail
  go_region_held3 (fun w' => True) (trivial) ((first | (go_at_call 66; refine (H.out.drew.word (n := 1) (v := S (34 + g * 2 + c)) HW.out.1 HW.out.2.1 HW.out.2.2.1.1 HW.out.2.2.1.2 (by decide) (by decide) HW.out.2.2.2).mono ?_; rintro e w7 ⟨rfl, h7⟩; have c7 := h7.cell (34 + g * 2 + c) hlt; have f7 := h7.free (34 + g * 2 + c); have H7 := Lib.hid h7; clear h7)))
  exact HQ.out _ _ ⟨rfl, rfl, rfl, rfl, rfl, rfl, rfl, rfl, rfl, rfl⟩ (H7.out.put (34 + g * 2 + c) hlt)
set_option maxRecDepth 1000000 in
set_option maxHeartbeats 4000000 in
theorem ge1 {w0 : World} {Z R B q p n s : Nat} {L : List Int} {S : Nat → Int} {l : List Nat} {x : Int} {g c : Nat} {z19 z20 : Value} (a : Act) (w : World) (hf : Rf x n R q p (.int .i64 g) (.int .i64 c) a) (H0 : RB w0 Z R B q p L (mixL l S) s w) (hg : g < 2) (hc : c < 2) (hL : Bytes L) (hx : Has L s (S (62 + g * 2 + c)) 4) (v0 : 0 ≤ S (62 + g * 2 + c) ∧ S (62 + g * 2 + c) < 16) (hfit : s + 4 ≤ 8 * L.length) (Q : Exit → Act → World → Prop)
    (hQ : ∀ (a' : Act) (w' : World), Rf x n R q p (.int .i64 g) (.int .i64 c) a' → RB w0 Z R B q p L (mixL ((62 + g * 2 + c) :: l) S) (s + 4) w' → Q .normal a' w') :
    Code.wp Tryd.prog (nthS 1 gcElse) Q a w := by
  obtain ⟨f, rfl, e1, e6, e13, e14, e15, e16, e19, e20⟩ := hf.opened
  unfold mkB
  rw [e1, e6, e13, e14, e15, e16, e19, e20]
  clear hf e1 e6 e13 e14 e15 e16 e19 e20
  have HQ := Lib.hid hQ
  clear hQ
  have H := Lib.hid H0
  clear H0
  have ig0 : (0 : Int) ≤ (g : Int) := by omega
  have ig1 : (g : Int) < 2 := by omega
  have ic0 : (0 : Int) ≤ (c : Int) := by omega
  have ic1 : (c : Int) < 2 := by omega
  conv => arg 2; whnf
  have hlt : 62 + g * 2 + c < 86 := by omega
  have HW := Lib.hid (And.intro hL (And.intro hx (And.intro v0 hfit)))
  clear hL hx v0 hfit
  go_wp2_with fail
  go_region_held3 (fun w' => True) (trivial) ((first | (go_at_call 66; refine (H.out.drew.word (n := 4) (v := S (62 + g * 2 + c)) HW.out.1 HW.out.2.1 HW.out.2.2.1.1 HW.out.2.2.1.2 (by decide) (by decide) HW.out.2.2.2).mono ?_; rintro e w7 ⟨rfl, h7⟩; have c7 := h7.cell (62 + g * 2 + c) hlt; have f7 := h7.free (62 + g * 2 + c); have H7 := Lib.hid h7; clear h7)))
  exact HQ.out _ _ ⟨rfl, rfl, rfl, rfl, rfl, rfl, rfl, rfl, rfl, rfl⟩ (H7.out.put (62 + g * 2 + c) hlt)
set_option maxRecDepth 1000000 in
set_option maxHeartbeats 4000000 in
theorem ge2 {w0 : World} {Z R B q p n s : Nat} {L : List Int} {S : Nat → Int} {l : List Nat} {x : Int} {g c : Nat} {z19 z20 : Value} (a : Act) (w : World) (hf : Rf x n R q p (.int .i64 g) (.int .i64 c) a) (H0 : RB w0 Z R B q p L (mixL l S) s w) (hg : g < 2) (hc : c < 2) (hL : Bytes L) (hx : Has L s (S (66 + g * 2 + c)) 3) (v0 : 0 ≤ S (66 + g * 2 + c) ∧ S (66 + g * 2 + c) < 8) (hfit : s + 3 ≤ 8 * L.length) (Q : Exit → Act → World → Prop)
    (hQ : ∀ (a' : Act) (w' : World), Rf x n R q p (.int .i64 g) (.int .i64 c) a' → RB w0 Z R B q p L (mixL ((66 + g * 2 + c) :: l) S) (s + 3) w' → Q .normal a' w') :
    Code.wp Tryd.prog (nthS 2 gcElse) Q a w := by
  obtain ⟨f, rfl, e1, e6, e13, e14, e15, e16, e19, e20⟩ := hf.opened
  unfold mkB
  rw [e1, e6, e13, e14, e15, e16, e19, e20]
  clear hf e1 e6 e13 e14 e15 e16 e19 e20
  have HQ := Lib.hid hQ
  clear hQ
  have H := Lib.hid H0
  clear H0
  have ig0 : (0 : Int) ≤ (g : Int) := by omega
  have ig1 : (g : Int) < 2 := by omega
  have ic0 : (0 : Int) ≤ (c : Int) := by omega
  have ic1 : (c : Int) < 2 := by omega
  conv => arg 2; whnf
  have hlt : 66 + g * 2 + c < 86 := by omega
  have HW := Lib.hid (And.intro hL (And.intro hx (And.intro v0 hfit)))
  clear hL hx v0 hfit
  go_wp2_with fail
  go_region_held3 (fun w' => True) (trivial) ((first | (go_at_call 66; refine (H.out.drew.word (n := 3) (v := S (66 + g * 2 + c)) HW.out.1 HW.out.2.1 HW.out.2.2.1.1 HW.out.2.2.1.2 (by decide) (by decide) HW.out.2.2.2).mono ?_; rintro e w7 ⟨rfl, h7⟩; have c7 := h7.cell (66 + g * 2 + c) hlt; have f7 := h7.free (66 + g * 2 + c); have H7 := Lib.hid h7; clear h7)))
  exact HQ.out _ _ ⟨rfl, rfl, rfl, rfl, rfl, rfl, rfl, rfl, rfl, rfl⟩ (H7.out.put (66 + g * 2 + c) hlt)

set_option maxRecDepth 1000000 in
set_option maxHeartbeats 4000000 in
theorem g5_1 {w0 : World} {Z R B q p n s : Nat} {L : List Int} {S : Nat → Int} {l : List Nat} {x : Int} {g c : Nat} {z19 z20 : Value} (a : Act) (w : World) (hf : Rf x n R q p (.int .i64 g) (.int .i64 c) a) (H0 : RB w0 Z R B q p L (mixL l S) s w) (hg : g < 2) (hc : c < 2) (hv : mixL l S (26 + g * 2 + c) = 1) (Q : Exit → Act → World → Prop)
    (hQ : ∀ (a' : Act), Rf x n R q p (.int .i64 g) (.int .i64 c) a' → Code.wp Tryd.prog gcThen Q a' w) :
    Code.wp Tryd.prog (gcItem 5) Q a w := by
  obtain ⟨f, rfl, e1, e6, e13, e14, e15, e16, e19, e20⟩ := hf.opened
  unfold mkB
  rw [e1, e6, e13, e14, e15, e16, e19, e20]
  clear hf e1 e6 e13 e14 e15 e16 e19 e20
  have HQ := Lib.hid hQ
  clear hQ
  have H := Lib.hid H0
  clear H0
  have ig0 : (0 : Int) ≤ (g : Int) := by omega
  have ig1 : (g : Int) < 2 := by omega
  have ic0 : (0 : Int) ≤ (c : Int) := by omega
  have ic1 : (c : Int) < 2 := by omega
  have hlt : 26 + g * 2 + c < 86 := by omega
  have csw := H.out.cell (26 + g * 2 + c) hlt
  rw [hv] at csw
  rw [gcItem5_eq]
  obtain ⟨X, hX⟩ : ∃ X, X = gcThen := ⟨_, rfl⟩
  obtain ⟨Y, hY⟩ : ∃ Y, Y = gcElse := ⟨_, rfl⟩
  rw [← hX, ← hY]
  have HX := Lib.hid hX
  have HY := Lib.hid hY
  clear hX hY hv
  refine wp_seq_k fun K hK => ?_
  conv => arg 2; whnf
  go_wp2_with fail
  rw [HX.out]
  exact HQ.out _ ⟨rfl, rfl, rfl, rfl, rfl, rfl, rfl, rfl, rfl, rfl⟩

set_option maxRecDepth 1000000 in
set_option maxHeartbeats 4000000 in
theorem g5_0 {w0 : World} {Z R B q p n s : Nat} {L : List Int} {S : Nat → Int} {l : List Nat} {x : Int} {g c : Nat} {z19 z20 : Value} (a : Act) (w : World) (hf : Rf x n R q p (.int .i64 g) (.int .i64 c) a) (H0 : RB w0 Z R B q p L (mixL l S) s w) (hg : g < 2) (hc : c < 2) (hv : mixL l S (26 + g * 2 + c) = 0) (Q : Exit → Act → World → Prop)
    (hQ : ∀ (a' : Act), Rf x n R q p (.int .i64 g) (.int .i64 c) a' → Code.wp Tryd.prog gcElse Q a' w) :
    Code.wp Tryd.prog (gcItem 5) Q a w := by
  obtain ⟨f, rfl, e1, e6, e13, e14, e15, e16, e19, e20⟩ := hf.opened
  unfold mkB
  rw [e1, e6, e13, e14, e15, e16, e19, e20]
  clear hf e1 e6 e13 e14 e15 e16 e19 e20
  have HQ := Lib.hid hQ
  clear hQ
  have H := Lib.hid H0
  clear H0
  have ig0 : (0 : Int) ≤ (g : Int) := by omega
  have ig1 : (g : Int) < 2 := by omega
  have ic0 : (0 : Int) ≤ (c : Int) := by omega
  have ic1 : (c : Int) < 2 := by omega
  have hlt : 26 + g * 2 + c < 86 := by omega
  have csw := H.out.cell (26 + g * 2 + c) hlt
  rw [hv] at csw
  rw [gcItem5_eq]
  obtain ⟨X, hX⟩ : ∃ X, X = gcThen := ⟨_, rfl⟩
  obtain ⟨Y, hY⟩ : ∃ Y, Y = gcElse := ⟨_, rfl⟩
  rw [← hX, ← hY]
  have HX := Lib.hid hX
  have HY := Lib.hid hY
  clear hX hY hv
  refine wp_seq_k fun K hK => ?_
  conv => arg 2; whnf
  go_wp2_with fail
  rw [HY.out]
  exact HQ.out _ ⟨rfl, rfl, rfl, rfl, rfl, rfl, rfl, rfl, rfl, rfl⟩
set_option maxRecDepth 1000000 in
set_option maxHeartbeats 4000000 in
theorem gt2 {w0 : World} {Z R B q p n s : Nat} {L : List Int} {S : Nat → Int} {l : List Nat} {x : Int} {g c : Nat} {z19 z20 : Value} (a : Act) (w : World) (hf : Rf x n R q p (.int .i64 g) (.int .i64 c) a) (H0 : RB w0 Z R B q p L (mixL l S) s w) (hg : g < 2) (hc : c < 2) (hl82 : ∀ j ∈ l, j < 82) (hL : Bytes L) (hx : ∀ k, k < 2 → Has L (s + 5 * k) (S (38 + g * 6 + c * 3 + k)) 5) (v0 : ∀ k, k < 2 → 0 ≤ S (38 + g * 6 + c * 3 + k) ∧ S (38 + g * 6 + c * 3 + k) < 32) (hfit : s + 10 ≤ 8 * L.length) (Q : Exit → Act → World → Prop)
    (hQ : ∀ (l' : List Nat) (a' : Act) (w' : World), Rf x n R q p (.int .i64 g) (.int .i64 c) a' → RB w0 Z R B q p L (mixL l' S) (s + 5 * 2) w' → LK l l' (38 + g * 6 + c * 3) 2 → Q .normal a' w') :
    Code.wp Tryd.prog (nthS 2 gcThen) Q a w := by
  obtain ⟨f, rfl, e1, e6, e13, e14, e15, e16, e19, e20⟩ := hf.opened
  unfold mkB
  rw [e1, e6, e13, e14, e15, e16, e19, e20]
  clear hf e1 e6 e13 e14 e15 e16 e19 e20
  have HQ := Lib.hid hQ
  clear hQ
  have H := Lib.hid H0
  clear H0
  have ig0 : (0 : Int) ≤ (g : Int) := by omega
  have ig1 : (g : Int) < 2 := by omega
  have ic0 : (0 : Int) ≤ (c : Int) := by omega
  have ic1 : (c : Int) < 2 := by omega
  have HW := Lib.hid (And.intro hL (And.intro hx (And.intro v0 hfit)))
  clear hL hx v0 hfit
  conv => arg 2; whnf
  go_wp2_with fail
  go_loopw [21] (fun x wr => ∃ k : Nat, k ≤ 2 ∧ x = .int .i64 k ∧ ∃ l', Hid (RB w0 Z R B q p L (mixL l' S) (s + 5 * k) wr) ∧ Hid (LK l l' (38 + g * 6 + c * 3) k)) (fun x _ => 2 - (intOf x).toNat)
  case atStart => exact ⟨0, by omega, rfl, _, Lib.hid (H.out.at (by omega)), Lib.hid (LK.start _ hl82)⟩
  case round =>
    clear H
    obtain ⟨k, hk, rfl, lk, H, HLK⟩ := hrel
    by_cases hltk : k < 2
    · have d3 : decide ((k : Int) < 2) = true := decide_eq_true (by omega)
      have ik0 : (0 : Int) ≤ (k : Int) := by omega
      have ik1 : (k : Int) < 3 := by omega
      have hlt : 38 + g * 6 + c * 3 + k < 86 := by omega
      have hfk : s + 5 * k + 5 ≤ 8 * L.length := by have := HW.out.2.2.2; omega
      go_wp2_with fail
      go_region_held3 (fun w' => True) (trivial) ((first | (go_at_call 66; refine (H.out.drew.word (n := 5) (v := S (38 + g * 6 + c * 3 + k)) HW.out.1 (HW.out.2.1 k hltk) (HW.out.2.2.1 k hltk).1 (HW.out.2.2.1 k hltk).2 (by decide) (by decide) hfk).mono ?_; rintro e w7 ⟨rfl, h7⟩; have c7 := h7.cell (38 + g * 6 + c * 3 + k) hlt; have f7 := h7.free (38 + g * 6 + c * 3 + k); have H7 := Lib.hid h7; clear h7)))
      go_wp2_with fail
      exact ⟨⟨k + 1, by omega, by go_num, _, Lib.hid ((H7.out.put (38 + g * 6 + c * 3 + k) hlt).at (by omega)), Lib.hid (HLK.out.next (by omega))⟩, by simp [intOf]; omega⟩
    · obtain rfl : k = 2 := by omega
      rw [show ((2 : Nat) : Int) = 2 from rfl]
      go_wp2_with fail
      exact HQ.out _ _ _ ⟨rfl, rfl, rfl, rfl, rfl, rfl, rfl, rfl, rfl, rfl⟩ H.out HLK.out
set_option maxRecDepth 1000000 in
set_option maxHeartbeats 4000000 in
theorem gt3 {w0 : World} {Z R B q p n s : Nat} {L : List Int} {S : Nat → Int} {l : List Nat} {x : Int} {g c : Nat} {z19 z20 : Value} (a : Act) (w : World) (hf : Rf x n R q p (.int .i64 g) (.int .i64 c) a) (H0 : RB w0 Z R B q p L (mixL l S) s w) (hg : g < 2) (hc : c < 2) (hl82 : ∀ j ∈ l, j < 82) (hL : Bytes L) (hx : ∀ k, k < 3 → Has L (s + 3 * k) (S (50 + g * 6 + c * 3 + k)) 3) (v0 : ∀ k, k < 3 → 0 ≤ S (50 + g * 6 + c * 3 + k) ∧ S (50 + g * 6 + c * 3 + k) < 8) (hfit : s + 9 ≤ 8 * L.length) (Q : Exit → Act → World → Prop)
    (hQ : ∀ (l' : List Nat) (a' : Act) (w' : World), Rf x n R q p (.int .i64 g) (.int .i64 c) a' → RB w0 Z R B q p L (mixL l' S) (s + 3 * 3) w' → LK l l' (50 + g * 6 + c * 3) 3 → Q .normal a' w') :
    Code.wp Tryd.prog (nthS 3 gcThen) Q a w := by
  obtain ⟨f, rfl, e1, e6, e13, e14, e15, e16, e19, e20⟩ := hf.opened
  unfold mkB
  rw [e1, e6, e13, e14, e15, e16, e19, e20]
  clear hf e1 e6 e13 e14 e15 e16 e19 e20
  have HQ := Lib.hid hQ
  clear hQ
  have H := Lib.hid H0
  clear H0
  have ig0 : (0 : Int) ≤ (g : Int) := by omega
  have ig1 : (g : Int) < 2 := by omega
  have ic0 : (0 : Int) ≤ (c : Int) := by omega
  have ic1 : (c : Int) < 2 := by omega
  have HW := Lib.hid (And.intro hL (And.intro hx (And.intro v0 hfit)))
  clear hL hx v0 hfit
  conv => arg 2; whnf
  go_wp2_with fail
  go_loopw [22] (fun x wr => ∃ k : Nat, k ≤ 3 ∧ x = .int .i64 k ∧ ∃ l', Hid (RB w0 Z R B q p L (mixL l' S) (s + 3 * k) wr) ∧ Hid (LK l l' (50 + g * 6 + c * 3) k)) (fun x _ => 3 - (intOf x).toNat)
  case atStart => exact ⟨0, by omega, rfl, _, Lib.hid (H.out.at (by omega)), Lib.hid (LK.start _ hl82)⟩
  case round =>
    clear H
    obtain ⟨k, hk, rfl, lk, H, HLK⟩ := hrel
    by_cases hltk : k < 3
    · have d3 : decide ((k : Int) < 3) = true := decide_eq_true (by omega)
      have ik0 : (0 : Int) ≤ (k : Int) := by omega
      have ik1 : (k : Int) < 3 := by omega
      have hlt : 50 + g * 6 + c * 3 + k < 86 := by omega
      have hfk : s + 3 * k + 3 ≤ 8 * L.length := by have := HW.out.2.2.2; omega
      go_wp2_with fail
      go_region_held3 (fun w' => True) (trivial) ((first | (go_at_call 66; refine (H.out.drew.word (n := 3) (v := S (50 + g * 6 + c * 3 + k)) HW.out.1 (HW.out.2.1 k hltk) (HW.out.2.2.1 k hltk).1 (HW.out.2.2.1 k hltk).2 (by decide) (by decide) hfk).mono ?_; rintro e w7 ⟨rfl, h7⟩; have c7 := h7.cell (50 + g * 6 + c * 3 + k) hlt; have f7 := h7.free (50 + g * 6 + c * 3 + k); have H7 := Lib.hid h7; clear h7)))
      go_wp2_with fail
      exact ⟨⟨k + 1, by omega, by go_num, _, Lib.hid ((H7.out.put (50 + g * 6 + c * 3 + k) hlt).at (by omega)), Lib.hid (HLK.out.next (by omega))⟩, by simp [intOf]; omega⟩
    · obtain rfl : k = 3 := by omega
      rw [show ((3 : Nat) : Int) = 3 from rfl]
      go_wp2_with fail
      exact HQ.out _ _ _ ⟨rfl, rfl, rfl, rfl, rfl, rfl, rfl, rfl, rfl, rfl⟩ H.out HLK.out
set_option maxRecDepth 1000000 in
set_option maxHeartbeats 4000000 in
theorem ge0 {w0 : World} {Z R B q p n s : Nat} {L : List Int} {S : Nat → Int} {l : List Nat} {x : Int} {g c : Nat} {z19 z20 : Value} (a : Act) (w : World) (hf : Rf x n R q p (.int .i64 g) (.int .i64 c) a) (H0 : RB w0 Z R B q p L (mixL l S) s w) (hg : g < 2) (hc : c < 2) (hl82 : ∀ j ∈ l, j < 82) (hL : Bytes L) (hx : ∀ k, k < 3 → Has L (s + 5 * k) (S (38 + g * 6 + c * 3 + k)) 5) (v0 : ∀ k, k < 3 → 0 ≤ S (38 + g * 6 + c * 3 + k) ∧ S (38 + g * 6 + c * 3 + k) < 32) (hfit : s + 15 ≤ 8 * L.length) (Q : Exit → Act → World → Prop)
    (hQ : ∀ (l' : List Nat) (a' : Act) (w' : World), Rf x n R q p (.int .i64 g) (.int .i64 c) a' → RB w0 Z R B q p L (mixL l' S) (s + 5 * 3) w' → LK l l' (38 + g * 6 + c * 3) 3 → Q .normal a' w') :
    Code.wp Tryd.prog (nthS 0 gcElse) Q a w := by
  obtain ⟨f, rfl, e1, e6, e13, e14, e15, e16, e19, e20⟩ := hf.opened
  unfold mkB
  rw [e1, e6, e13, e14, e15, e16, e19, e20]
  clear hf e1 e6 e13 e14 e15 e16 e19 e20
  have HQ := Lib.hid hQ
  clear hQ
  have H := Lib.hid H0
  clear H0
  have ig0 : (0 : Int) ≤ (g : Int) := by omega
  have ig1 : (g : Int) < 2 := by omega
  have ic0 : (0 : Int) ≤ (c : Int) := by omega
  have ic1 : (c : Int) < 2 := by omega
  have HW := Lib.hid (And.intro hL (And.intro hx (And.intro v0 hfit)))
  clear hL hx v0 hfit
  conv => arg 2; whnf
  go_wp2_with fail
  go_loopw [23] (fun x wr => ∃ k : Nat, k ≤ 3 ∧ x = .int .i64 k ∧ ∃ l', Hid (RB w0 Z R B q p L (mixL l' S) (s + 5 * k) wr) ∧ Hid (LK l l' (38 + g * 6 + c * 3) k)) (fun x _ => 3 - (intOf x).toNat)
  case atStart => exact ⟨0, by omega, rfl, _, Lib.hid (H.out.at (by omega)), Lib.hid (LK.start _ hl82)⟩
  case round =>
    clear H
    obtain ⟨k, hk, rfl, lk, H, HLK⟩ := hrel
    by_cases hltk : k < 3
    · have d3 : decide ((k : Int) < 3) = true := decide_eq_true (by omega)
      have ik0 : (0 : Int) ≤ (k : Int) := by omega
      have ik1 : (k : Int) < 3 := by omega
      have hlt : 38 + g * 6 + c * 3 + k < 86 := by omega
      have hfk : s + 5 * k + 5 ≤ 8 * L.length := by have := HW.out.2.2.2; omega
      go_wp2_with fail
      go_region_held3 (fun w' => True) (trivial) ((first | (go_at_call 66; refine (H.out.drew.word (n := 5) (v := S (38 + g * 6 + c * 3 + k)) HW.out.1 (HW.out.2.1 k hltk) (HW.out.2.2.1 k hltk).1 (HW.out.2.2.1 k hltk).2 (by decide) (by decide) hfk).mono ?_; rintro e w7 ⟨rfl, h7⟩; have c7 := h7.cell (38 + g * 6 + c * 3 + k) hlt; have f7 := h7.free (38 + g * 6 + c * 3 + k); have H7 := Lib.hid h7; clear h7)))
      go_wp2_with fail
      exact ⟨⟨k + 1, by omega, by go_num, _, Lib.hid ((H7.out.put (38 + g * 6 + c * 3 + k) hlt).at (by omega)), Lib.hid (HLK.out.next (by omega))⟩, by simp [intOf]; omega⟩
    · obtain rfl : k = 3 := by omega
      rw [show ((3 : Nat) : Int) = 3 from rfl]
      go_wp2_with fail
      exact HQ.out _ _ _ ⟨rfl, rfl, rfl, rfl, rfl, rfl, rfl, rfl, rfl, rfl⟩ H.out HLK.out
set_option maxRecDepth 1000000 in
set_option maxHeartbeats 4000000 in
theorem gt4a {w0 : World} {Z R B q p n s : Nat} {L : List Int} {S : Nat → Int} {l : List Nat} {x : Int} {g c : Nat} {z19 z20 : Value} (a : Act) (w : World) (hf : Rf x n R q p (.int .i64 g) (.int .i64 c) a) (H0 : RB w0 Z R B q p L (mixL l S) s w) (hg : g < 2) (hc : c < 2) (bk mx : Int) (hbk : mixL l S (30 + g * 2 + c) = bk) (hmx : mixL l S (34 + g * 2 + c) = mx) (h1 : bk = 2) (h2 : mx = 0) (hr : S (62 + g * 2 + c) = 8) (Q : Exit → Act → World → Prop)
    (hQ : ∀ (a' : Act) (w' : World), Rf x n R q p (.int .i64 g) (.int .i64 c) a' → RB w0 Z R B q p L (mixL ((62 + g * 2 + c) :: l) S) s w' → Q .normal a' w') :
    Code.wp Tryd.prog (nthS 4 gcThen) Q a w := by
  obtain ⟨f, rfl, e1, e6, e13, e14, e15, e16, e19, e20⟩ := hf.opened
  unfold mkB
  rw [e1, e6, e13, e14, e15, e16, e19, e20]
  clear hf e1 e6 e13 e14 e15 e16 e19 e20
  have HQ := Lib.hid hQ
  clear hQ
  have H := Lib.hid H0
  clear H0
  have ig0 : (0 : Int) ≤ (g : Int) := by omega
  have ig1 : (g : Int) < 2 := by omega
  have ic0 : (0 : Int) ≤ (c : Int) := by omega
  have ic1 : (c : Int) < 2 := by omega
  have cbk := H.out.cell (30 + g * 2 + c) (by omega)
  have cmx := H.out.cell (34 + g * 2 + c) (by omega)
  rw [hbk] at cbk
  rw [hmx] at cmx
  have c62 := H.out.cell (62 + g * 2 + c) (by omega)
  have f62 := H.out.free (62 + g * 2 + c)
  have db : (bk == 2) = true := beq_iff_eq.2 h1
  have dm : (mx == 0) = true := beq_iff_eq.2 h2
  clear h1 h2
  have HP : Hid (RB w0 Z R B q p L (mixL ((62 + g * 2 + c) :: l) S) s (w.setCell ⟨p, 62 + g * 2 + c, none⟩ (.int .i64 8))) := Lib.hid (by have := H.out.put (62 + g * 2 + c) (by omega); rw [hr] at this; exact this)
  clear hbk hmx hr
  conv => arg 2; whnf
  go_wp2_with fail
  exact HQ.out _ _ ⟨rfl, rfl, rfl, rfl, rfl, rfl, rfl, rfl, rfl, rfl⟩ HP.out
set_option maxRecDepth 1000000 in
set_option maxHeartbeats 4000000 in
theorem gt4b {w0 : World} {Z R B q p n s : Nat} {L : List Int} {S : Nat → Int} {l : List Nat} {x : Int} {g c : Nat} {z19 z20 : Value} (a : Act) (w : World) (hf : Rf x n R q p (.int .i64 g) (.int .i64 c) a) (H0 : RB w0 Z R B q p L (mixL l S) s w) (hg : g < 2) (hc : c < 2) (bk mx : Int) (hbk : mixL l S (30 + g * 2 + c) = bk) (hmx : mixL l S (34 + g * 2 + c) = mx) (h1 : bk = 2) (h2 : ¬ mx = 0) (hr : S (62 + g * 2 + c) = 7) (Q : Exit → Act → World → Prop)
    (hQ : ∀ (a' : Act) (w' : World), Rf x n R q p (.int .i64 g) (.int .i64 c) a' → RB w0 Z R B q p L (mixL ((62 + g * 2 + c) :: l) S) s w' → Q .normal a' w') :
    Code.wp Tryd.prog (nthS 4 gcThen) Q a w := by
  obtain ⟨f, rfl, e1, e6, e13, e14, e15, e16, e19, e20⟩ := hf.opened
  unfold mkB
  rw [e1, e6, e13, e14, e15, e16, e19, e20]
  clear hf e1 e6 e13 e14 e15 e16 e19 e20
  have HQ := Lib.hid hQ
  clear hQ
  have H := Lib.hid H0
  clear H0
  have ig0 : (0 : Int) ≤ (g : Int) := by omega
  have ig1 : (g : Int) < 2 := by omega
  have ic0 : (0 : Int) ≤ (c : Int) := by omega
  have ic1 : (c : Int) < 2 := by omega
  have cbk := H.out.cell (30 + g * 2 + c) (by omega)
  have cmx := H.out.cell (34 + g * 2 + c) (by omega)
  rw [hbk] at cbk
  rw [hmx] at cmx
  have c62 := H.out.cell (62 + g * 2 + c) (by omega)
  have f62 := H.out.free (62 + g * 2 + c)
  have db : (bk == 2) = true := beq_iff_eq.2 h1
  have dm : (mx == 0) = false := beq_eq_false_iff_ne.2 h2
  clear h1 h2
  have HP : Hid (RB w0 Z R B q p L (mixL ((62 + g * 2 + c) :: l) S) s (w.setCell ⟨p, 62 + g * 2 + c, none⟩ (.int .i64 7))) := Lib.hid (by have := H.out.put (62 + g * 2 + c) (by omega); rw [hr] at this; exact this)
  clear hbk hmx hr
  conv => arg 2; whnf
  go_wp2_with fail
  exact HQ.out _ _ ⟨rfl, rfl, rfl, rfl, rfl, rfl, rfl, rfl, rfl, rfl⟩ HP.out
set_option maxRecDepth 1000000 in
set_option maxHeartbeats 4000000 in
theorem gt4c {w0 : World} {Z R B q p n s : Nat} {L : List Int} {S : Nat → Int} {l : List Nat} {x : Int} {g c : Nat} {z19 z20 : Value} (a : Act) (w : World) (hf : Rf x n R q p (.int .i64 g) (.int .i64 c) a) (H0 : RB w0 Z R B q p L (mixL l S) s w) (hg : g < 2) (hc : c < 2) (bk mx : Int) (hbk : mixL l S (30 + g * 2 + c) = bk) (hmx : mixL l S (34 + g * 2 + c) = mx) (h1 : ¬ bk = 2) (hr : S (62 + g * 2 + c) = 7) (Q : Exit → Act → World → Prop)
    (hQ : ∀ (a' : Act) (w' : World), Rf x n R q p (.int .i64 g) (.int .i64 c) a' → RB w0 Z R B q p L (mixL ((62 + g * 2 + c) :: l) S) s w' → Q .normal a' w') :
    Code.wp Tryd.prog (nthS 4 gcThen) Q a w := by
  obtain ⟨f, rfl, e1, e6, e13, e14, e15, e16, e19, e20⟩ := hf.opened
  unfold mkB
  rw [e1, e6, e13, e14, e15, e16, e19, e20]
  clear hf e1 e6 e13 e14 e15 e16 e19 e20
  have HQ := Lib.hid hQ
  clear hQ
  have H := Lib.hid H0
  clear H0
  have ig0 : (0 : Int) ≤ (g : Int) := by omega
  have ig1 : (g : Int) < 2 := by omega
  have ic0 : (0 : Int) ≤ (c : Int) := by omega
  have ic1 : (c : Int) < 2 := by omega
  have cbk := H.out.cell (30 + g * 2 + c) (by omega)
  have cmx := H.out.cell (34 + g * 2 + c) (by omega)
  rw [hbk] at cbk
  rw [hmx] at cmx
  have c62 := H.out.cell (62 + g * 2 + c) (by omega)
  have f62 := H.out.free (62 + g * 2 + c)
  have db : (bk == 2) = false := beq_eq_false_iff_ne.2 h1
  clear h1
  have HP : Hid (RB w0 Z R B q p L (mixL ((62 + g * 2 + c) :: l) S) s (w.setCell ⟨p, 62 + g * 2 + c, none⟩ (.int .i64 7))) := Lib.hid (by have := H.out.put (62 + g * 2 + c) (by omega); rw [hr] at this; exact this)
  clear hbk hmx hr
  conv => arg 2; whnf
  go_wp2_with fail
  exact HQ.out _ _ ⟨rfl, rfl, rfl, rfl, rfl, rfl, rfl, rfl, rfl, rfl⟩ HP.out
set_option maxRecDepth 1000000 in
set_option maxHeartbeats 4000000 in
theorem gt5_8 {w0 : World} {Z R B q p n s : Nat} {L : List Int} {S : Nat → Int} {l : List Nat} {x : Int} {g c : Nat} {z19 z20 : Value} (a : Act) (w : World) (hf : Rf x n R q p (.int .i64 g) (.int .i64 c) a) (H0 : RB w0 Z R B q p L (mixL l S) s w) (hg : g < 2) (hc : c < 2) (hin : (62 + g * 2 + c) ∈ l) (hr : S (62 + g * 2 + c) = 8) (hr1 : S (66 + g * 2 + c) = 20 - S (62 + g * 2 + c)) (Q : Exit → Act → World → Prop)
    (hQ : ∀ (a' : Act) (w' : World), Rf x n R q p (.int .i64 g) (.int .i64 c) a' → RB w0 Z R B q p L (mixL ((66 + g * 2 + c) :: l) S) s w' → Q .normal a' w') :
    Code.wp Tryd.prog (nthS 5 gcThen) Q a w := by
  obtain ⟨f, rfl, e1, e6, e13, e14, e15, e16, e19, e20⟩ := hf.opened
  unfold mkB
  rw [e1, e6, e13, e14, e15, e16, e19, e20]
  clear hf e1 e6 e13 e14 e15 e16 e19 e20
  have HQ := Lib.hid hQ
  clear hQ
  have H := Lib.hid H0
  clear H0
  have ig0 : (0 : Int) ≤ (g : Int) := by omega
  have ig1 : (g : Int) < 2 := by omega
  have ic0 : (0 : Int) ≤ (c : Int) := by omega
  have ic1 : (c : Int) < 2 := by omega
  have c62 := H.out.drew.cell (62 + g * 2 + c) (by omega)
  rw [mixL_in hin, hr] at c62
  have c62w := H.out.cell (62 + g * 2 + c) (by omega)
  rw [mixL_in hin, hr] at c62w
  have c66 := H.out.drew.cell (66 + g * 2 + c) (by omega)
  have f66 := H.out.drew.free (66 + g * 2 + c)
  have hne : ∀ z, (w.drew.setCell ⟨p, 66 + g * 2 + c, none⟩ z).cell? ⟨p, 62 + g * 2 + c, none⟩ = some (.int .i64 8) := fun z => by rw [cs_other (by intro e; injection e with _ e; omega)]; exact c62
  have HP : Hid (RB w0 Z R B q p L (mixL ((66 + g * 2 + c) :: l) S) s (w.drew.setCell ⟨p, 66 + g * 2 + c, none⟩ (.int .i64 12))) := Lib.hid (by have := H.out.drew.put (66 + g * 2 + c) (by omega); rw [hr1, hr] at this; exact this)
  clear hr hr1 hin
  conv => arg 2; whnf
  go_wp2_with fail
  go_region_held3 (fun w' => w'.cell? ⟨p, 62 + g * 2 + c, none⟩ = some (.int .i64 8)) ((first | exact c62 | exact c62w | exact hne _ | go_keep)) (fail)
  exact HQ.out _ _ ⟨rfl, rfl, rfl, rfl, rfl, rfl, rfl, rfl, rfl, rfl⟩ HP.out
set_option maxRecDepth 1000000 in
set_option maxHeartbeats 4000000 in
theorem gt5_7 {w0 : World} {Z R B q p n s : Nat} {L : List Int} {S : Nat → Int} {l : List Nat} {x : Int} {g c : Nat} {z19 z20 : Value} (a : Act) (w : World) (hf : Rf x n R q p (.int .i64 g) (.int .i64 c) a) (H0 : RB w0 Z R B q p L (mixL l S) s w) (hg : g < 2) (hc : c < 2) (hin : (62 + g * 2 + c) ∈ l) (hr : S (62 + g * 2 + c) = 7) (hr1 : S (66 + g * 2 + c) = 20 - S (62 + g * 2 + c)) (Q : Exit → Act → World → Prop)
    (hQ : ∀ (a' : Act) (w' : World), Rf x n R q p (.int .i64 g) (.int .i64 c) a' → RB w0 Z R B q p L (mixL ((66 + g * 2 + c) :: l) S) s w' → Q .normal a' w') :
    Code.wp Tryd.prog (nthS 5 gcThen) Q a w := by
  obtain ⟨f, rfl, e1, e6, e13, e14, e15, e16, e19, e20⟩ := hf.opened
  unfold mkB
  rw [e1, e6, e13, e14, e15, e16, e19, e20]
  clear hf e1 e6 e13 e14 e15 e16 e19 e20
  have HQ := Lib.hid hQ
  clear hQ
  have H := Lib.hid H0
  clear H0
  have ig0 : (0 : Int) ≤ (g : Int) := by omega
  have ig1 : (g : Int) < 2 := by omega
  have ic0 : (0 : Int) ≤ (c : Int) := by omega
  have ic1 : (c : Int) < 2 := by omega
  have c62 := H.out.drew.cell (62 + g * 2 + c) (by omega)
  rw [mixL_in hin, hr] at c62
  have c62w := H.out.cell (62 + g * 2 + c) (by omega)
  rw [mixL_in hin, hr] at c62w
  have c66 := H.out.drew.cell (66 + g * 2 + c) (by omega)
  have f66 := H.out.drew.free (66 + g * 2 + c)
  have hne : ∀ z, (w.drew.setCell ⟨p, 66 + g * 2 + c, none⟩ z).cell? ⟨p, 62 + g * 2 + c, none⟩ = some (.int .i64 7) := fun z => by rw [cs_other (by intro e; injection e with _ e; omega)]; exact c62
  have HP : Hid (RB w0 Z R B q p L (mixL ((66 + g * 2 + c) :: l) S) s (w.drew.setCell ⟨p, 66 + g * 2 + c, none⟩ (.int .i64 13))) := Lib.hid (by have := H.out.drew.put (66 + g * 2 + c) (by omega); rw [hr1, hr] at this; exact this)
  clear hr hr1 hin
  conv => arg 2; whnf
  go_wp2_with fail
  go_region_held3 (fun w' => w'.cell? ⟨p, 62 + g * 2 + c, none⟩ = some (.int .i64 7)) ((first | exact c62 | exact c62w | exact hne _ | go_keep)) (fail)
  exact HQ.out _ _ ⟨rfl, rfl, rfl, rfl, rfl, rfl, rfl, rfl, rfl, rfl⟩ HP.out
set_option maxRecDepth 1000000 in
set_option maxHeartbeats 4000000 in
theorem ge3 {w0 : World} {Z R B q p n s : Nat} {L : List Int} {S : Nat → Int} {l : List Nat} {x : Int} {g c : Nat} {z19 z20 : Value} (a : Act) (w : World) (hf : Rf x n R q p (.int .i64 g) (.int .i64 c) a) (H0 : RB w0 Z R B q p L (mixL l S) s w) (hg : g < 2) (hc : c < 2) (hr : S (30 + g * 2 + c) = 0) (Q : Exit → Act → World → Prop)
    (hQ : ∀ (a' : Act) (w' : World), Rf x n R q p (.int .i64 g) (.int .i64 c) a' → RB w0 Z R B q p L (mixL ((30 + g * 2 + c) :: l) S) s w' → Q .normal a' w') :
    Code.wp Tryd.prog (nthS 3 gcElse) Q a w := by
  obtain ⟨f, rfl, e1, e6, e13, e14, e15, e16, e19, e20⟩ := hf.opened
  unfold mkB
  rw [e1, e6, e13, e14, e15, e16, e19, e20]
  clear hf e1 e6 e13 e14 e15 e16 e19 e20
  have HQ := Lib.hid hQ
  clear hQ
  have H := Lib.hid H0
  clear H0
  have ig0 : (0 : Int) ≤ (g : Int) := by omega
  have ig1 : (g : Int) < 2 := by omega
  have ic0 : (0 : Int) ≤ (c : Int) := by omega
  have ic1 : (c : Int) < 2 := by omega
  have c30 := H.out.cell (30 + g * 2 + c) (by omega)
  have f30 := H.out.free (30 + g * 2 + c)
  have HP : Hid (RB w0 Z R B q p L (mixL ((30 + g * 2 + c) :: l) S) s (w.setCell ⟨p, 30 + g * 2 + c, none⟩ (.int .i64 0))) := Lib.hid (by have := H.out.put (30 + g * 2 + c) (by omega); rw [hr] at this; exact this)
  clear hr
  conv => arg 2; whnf
  go_wp2_with fail
  exact HQ.out _ _ ⟨rfl, rfl, rfl, rfl, rfl, rfl, rfl, rfl, rfl, rfl⟩ HP.out
set_option maxRecDepth 1000000 in
set_option maxHeartbeats 4000000 in
theorem ge4 {w0 : World} {Z R B q p n s : Nat} {L : List Int} {S : Nat → Int} {l : List Nat} {x : Int} {g c : Nat} {z19 z20 : Value} (a : Act) (w : World) (hf : Rf x n R q p (.int .i64 g) (.int .i64 c) a) (H0 : RB w0 Z R B q p L (mixL l S) s w) (hg : g < 2) (hc : c < 2)  (Q : Exit → Act → World → Prop)
    (hQ : ∀ (a' : Act) (w' : World), Rf x n R q p (.int .i64 g) (.int .i64 c) a' → RB w0 Z R B q p L (mixL l S) s w' → Q .normal a' w') :
    Code.wp Tryd.prog (dropT 4 gcElse) Q a w := by
  obtain ⟨f, rfl, e1, e6, e13, e14, e15, e16, e19, e20⟩ := hf.opened
  unfold mkB
  rw [e1, e6, e13, e14, e15, e16, e19, e20]
  clear hf e1 e6 e13 e14 e15 e16 e19 e20
  have HQ := Lib.hid hQ
  clear hQ
  have H := Lib.hid H0
  clear H0
  have ig0 : (0 : Int) ≤ (g : Int) := by omega
  have ig1 : (g : Int) < 2 := by omega
  have ic0 : (0 : Int) ≤ (c : Int) := by omega
  have ic1 : (c : Int) < 2 := by omega
  conv => arg 2; whnf
  go_wp2_with fail
  exact HQ.out _ _ ⟨rfl, rfl, rfl, rfl, rfl, rfl, rfl, rfl, rfl, rfl⟩ H.out
set_option maxRecDepth 1000000 in
set_option maxHeartbeats 4000000 in
theorem gh33 {w0 : World} {Z R B q p n s : Nat} {L : List Int} {S : Nat → Int} {l : List Nat} {x : Int} {g c : Nat} {z19 z20 : Value} (a : Act) (w : World) (hf : Rf x n R q p z19 z20 a) (H0 : RB w0 Z R B q p L (mixL l S) s w) (hg : g < 2) (hc : c < 2)  (Q : Exit → Act → World → Prop)
    (hQ : ∀ (a' : Act) (w' : World), Rf x n R q p (.int .i64 0) z20 a' → RB w0 Z R B q p L (mixL l S) s w' → Q .normal a' w') :
    Code.wp Tryd.prog (nthS 0 rdLoops) Q a w := by
  obtain ⟨f, rfl, e1, e6, e13, e14, e15, e16, e19, e20⟩ := hf.opened
  unfold mkB
  rw [e1, e6, e13, e14, e15, e16, e19, e20]
  clear hf e1 e6 e13 e14 e15 e16 e19 e20
  have HQ := Lib.hid hQ
  clear hQ
  have H := Lib.hid H0
  clear H0
  have ig0 : (0 : Int) ≤ (g : Int) := by omega
  have ig1 : (g : Int) < 2 := by omega
  have ic0 : (0 : Int) ≤ (c : Int) := by omega
  have ic1 : (c : Int) < 2 := by omega
  conv => arg 2; whnf
  go_wp2_with fail
  exact HQ.out _ _ ⟨rfl, rfl, rfl, rfl, rfl, rfl, rfl, rfl, rfl, rfl⟩ H.out
set_option maxRecDepth 1000000 in
set_option maxHeartbeats 4000000 in
theorem gh36 {w0 : World} {Z R B q p n s : Nat} {L : List Int} {S : Nat → Int} {l : List Nat} {x : Int} {g c : Nat} {z19 z20 : Value} (a : Act) (w : World) (hf : Rf x n R q p (.int .i64 g) z20 a) (H0 : RB w0 Z R B q p L (mixL l S) s w) (hg : g < 2) (hc : c < 2)  (Q : Exit → Act → World → Prop)
    (hQ : ∀ (a' : Act) (w' : World), Rf x n R q p (.int .i64 g) (.int .i64 0) a' → RB w0 Z R B q p L (mixL l S) s w' → Q .normal a' w') :
    Code.wp Tryd.prog (nthS 0 (blkC (nthS 1 rdL3))) Q a w := by
  obtain ⟨f, rfl, e1, e6, e13, e14, e15, e16, e19, e20⟩ := hf.opened
  unfold mkB
  rw [e1, e6, e13, e14, e15, e16, e19, e20]
  clear hf e1 e6 e13 e14 e15 e16 e19 e20
  have HQ := Lib.hid hQ
  clear hQ
  have H := Lib.hid H0
  clear H0
  have ig0 : (0 : Int) ≤ (g : Int) := by omega
  have ig1 : (g : Int) < 2 := by omega
  have ic0 : (0 : Int) ≤ (c : Int) := by omega
  have ic1 : (c : Int) < 2 := by omega
  conv => arg 2; whnf
  go_wp2_with fail
  exact HQ.out _ _ ⟨rfl, rfl, rfl, rfl, rfl, rfl, rfl, rfl, rfl, rfl⟩ H.out
set_option maxRecDepth 1000000 in
set_option maxHeartbeats 4000000 in
theorem gh38 {w0 : World} {Z R B q p n s : Nat} {L : List Int} {S : Nat → Int} {l : List Nat} {x : Int} {g c : Nat} {z19 z20 : Value} (a : Act) (w : World) (hf : Rf x n R q p (.int .i64 g) (.int .i64 c) a) (H0 : RB w0 Z R B q p L (mixL l S) s w) (hg : g < 2) (hc : c < 2)  (Q : Exit → Act → World → Prop)
    (hQ : ∀ (a' : Act) (w' : World), Rf x n R q p (.int .i64 g) (.int .i64 (c + 1 : Nat)) a' → RB w0 Z R B q p L (mixL l S) s w' → Q .normal a' w') :
    Code.wp Tryd.prog (nthS 2 rdL4) Q a w := by
  obtain ⟨f, rfl, e1, e6, e13, e14, e15, e16, e19, e20⟩ := hf.opened
  unfold mkB
  rw [e1, e6, e13, e14, e15, e16, e19, e20]
  clear hf e1 e6 e13 e14 e15 e16 e19 e20
  have HQ := Lib.hid hQ
  clear hQ
  have H := Lib.hid H0
  clear H0
  have ig0 : (0 : Int) ≤ (g : Int) := by omega
  have ig1 : (g : Int) < 2 := by omega
  have ic0 : (0 : Int) ≤ (c : Int) := by omega
  have ic1 : (c : Int) < 2 := by omega
  have n1 : IntKind.i64.wrap ((c : Int) + 1) = ((c + 1 : Nat) : Int) := by rw [IntWalk.i64_in _ (by omega)]; omega
  conv => arg 2; whnf
  go_wp2_with fail
  exact HQ.out _ _ ⟨rfl, rfl, rfl, rfl, rfl, rfl, rfl, rfl, rfl, rfl⟩ H.out
set_option maxRecDepth 1000000 in
set_option maxHeartbeats 4000000 in
theorem gh35 {w0 : World} {Z R B q p n s : Nat} {L : List Int} {S : Nat → Int} {l : List Nat} {x : Int} {g c : Nat} {z19 z20 : Value} (a : Act) (w : World) (hf : Rf x n R q p (.int .i64 g) z20 a) (H0 : RB w0 Z R B q p L (mixL l S) s w) (hg : g < 2) (hc : c < 2)  (Q : Exit → Act → World → Prop)
    (hQ : ∀ (a' : Act) (w' : World), Rf x n R q p (.int .i64 (g + 1 : Nat)) z20 a' → RB w0 Z R B q p L (mixL l S) s w' → Q .normal a' w') :
    Code.wp Tryd.prog (nthS 2 rdL3) Q a w := by
  obtain ⟨f, rfl, e1, e6, e13, e14, e15, e16, e19, e20⟩ := hf.opened
  unfold mkB
  rw [e1, e6, e13, e14, e15, e16, e19, e20]
  clear hf e1 e6 e13 e14 e15 e16 e19 e20
  have HQ := Lib.hid hQ
  clear hQ
  have H := Lib.hid H0
  clear H0
  have ig0 : (0 : Int) ≤ (g : Int) := by omega
  have ig1 : (g : Int) < 2 := by omega
  have ic0 : (0 : Int) ≤ (c : Int) := by omega
  have ic1 : (c : Int) < 2 := by omega
  have n1 : IntKind.i64.wrap ((g : Int) + 1) = ((g + 1 : Nat) : Int) := by rw [IntWalk.i64_in _ (by omega)]; omega
  conv => arg 2; whnf
  go_wp2_with fail
  exact HQ.out _ _ ⟨rfl, rfl, rfl, rfl, rfl, rfl, rfl, rfl, rfl, rfl⟩ H.out
-- the heads
set_option maxRecDepth 1000000 in
set_option maxHeartbeats 4000000 in
theorem gh34a {w0 : World} {Z R B q p n s : Nat} {L : List Int} {S : Nat → Int} {l : List Nat} {x : Int} {g c : Nat} {z19 z20 : Value} (a : Act) (w : World) (hf : Rf x n R q p (.int .i64 g) z20 a) (H0 : RB w0 Z R B q p L (mixL l S) s w) (hg : g < 2) (hc : c < 2) (h0 : 0 ≤ x) (h1 : x ≤ 4294967295) (hv : fID x = 3) (Q : Exit → Act → World → Prop)
    (hQ : ∀ (a' : Act) (w' : World), Rf x n R q p (.int .i64 g) z20 a' → RB w0 Z R B q p L (mixL l S) s w' → Q .normal a' w') :
    Code.wp Tryd.prog (nthS 0 rdL3) Q a w := by
  obtain ⟨f, rfl, e1, e6, e13, e14, e15, e16, e19, e20⟩ := hf.opened
  unfold mkB
  rw [e1, e6, e13, e14, e15, e16, e19, e20]
  clear hf e1 e6 e13 e14 e15 e16 e19 e20
  have HQ := Lib.hid hQ
  clear hQ
  have H := Lib.hid H0
  clear H0
  have ig0 : (0 : Int) ≤ (g : Int) := by omega
  have ig1 : (g : Int) < 2 := by omega
  have ic0 : (0 : Int) ≤ (c : Int) := by omega
  have ic1 : (c : Int) < 2 := by omega
  have d1 : decide ((g : Int) < 2) = true := decide_eq_true (by omega)
  conv => arg 2; whnf
  go_wp2_with (first | (go_at_call 68; refine (gran_any x h0 h1 hv _).mono ?_; rintro e w' ⟨rfl, rfl⟩))
  exact HQ.out _ _ ⟨rfl, rfl, rfl, rfl, rfl, rfl, rfl, rfl, rfl, rfl⟩ H.out
set_option maxRecDepth 1000000 in
set_option maxHeartbeats 4000000 in
theorem gh34b {w0 : World} {Z R B q p n s : Nat} {L : List Int} {S : Nat → Int} {l : List Nat} {x : Int} {g c : Nat} {z19 z20 : Value} (a : Act) (w : World) (hf : Rf x n R q p (.int .i64 2) z20 a) (H0 : RB w0 Z R B q p L (mixL l S) s w) (hg : g < 2) (hc : c < 2) (h0 : 0 ≤ x) (h1 : x ≤ 4294967295) (hv : fID x = 3) (Q : Exit → Act → World → Prop)
    (hQ : ∀ (a' : Act) (w' : World), Rf x n R q p (.int .i64 2) z20 a' → RB w0 Z R B q p L (mixL l S) s w' → Q (.exit 4) a' w') :
    Code.wp Tryd.prog (nthS 0 rdL3) Q a w := by
  obtain ⟨f, rfl, e1, e6, e13, e14, e15, e16, e19, e20⟩ := hf.opened
  unfold mkB
  rw [e1, e6, e13, e14, e15, e16, e19, e20]
  clear hf e1 e6 e13 e14 e15 e16 e19 e20
  have HQ := Lib.hid hQ
  clear hQ
  have H := Lib.hid H0
  clear H0
  have ig0 : (0 : Int) ≤ (g : Int) := by omega
  have ig1 : (g : Int) < 2 := by omega
  have ic0 : (0 : Int) ≤ (c : Int) := by omega
  have ic1 : (c : Int) < 2 := by omega
  conv => arg 2; whnf
  go_wp2_with (first | (go_at_call 68; refine (gran_any x h0 h1 hv _).mono ?_; rintro e w' ⟨rfl, rfl⟩))
  exact HQ.out _ _ ⟨rfl, rfl, rfl, rfl, rfl, rfl, rfl, rfl, rfl, rfl⟩ H.out
set_option maxRecDepth 1000000 in
set_option maxHeartbeats 4000000 in
theorem gh37a {w0 : World} {Z R B q p n s : Nat} {L : List Int} {S : Nat → Int} {l : List Nat} {x : Int} {g c : Nat} {z19 z20 : Value} (a : Act) (w : World) (hf : Rf x n R q p (.int .i64 g) (.int .i64 c) a) (H0 : RB w0 Z R B q p L (mixL l S) s w) (hg : g < 2) (hc : c < 2) (hlt : c < n) (hn2 : n ≤ 2) (Q : Exit → Act → World → Prop)
    (hQ : ∀ (a' : Act) (w' : World), Rf x n R q p (.int .i64 g) (.int .i64 c) a' → RB w0 Z R B q p L (mixL l S) s w' → Q .normal a' w') :
    Code.wp Tryd.prog (nthS 0 rdL4) Q a w := by
  obtain ⟨f, rfl, e1, e6, e13, e14, e15, e16, e19, e20⟩ := hf.opened
  unfold mkB
  rw [e1, e6, e13, e14, e15, e16, e19, e20]
  clear hf e1 e6 e13 e14 e15 e16 e19 e20
  have HQ := Lib.hid hQ
  clear hQ
  have H := Lib.hid H0
  clear H0
  have ig0 : (0 : Int) ≤ (g : Int) := by omega
  have ig1 : (g : Int) < 2 := by omega
  have ic0 : (0 : Int) ≤ (c : Int) := by omega
  have ic1 : (c : Int) < 2 := by omega
  have d1 : decide ((c : Int) < (n : Int)) = true := decide_eq_true (by omega)
  conv => arg 2; whnf
  go_wp2_with fail
  exact HQ.out _ _ ⟨rfl, rfl, rfl, rfl, rfl, rfl, rfl, rfl, rfl, rfl⟩ H.out
set_option maxRecDepth 1000000 in
set_option maxHeartbeats 4000000 in
theorem gh37b {w0 : World} {Z R B q p n s : Nat} {L : List Int} {S : Nat → Int} {l : List Nat} {x : Int} {g c : Nat} {z19 z20 : Value} (a : Act) (w : World) (hf : Rf x n R q p (.int .i64 g) (.int .i64 n) a) (H0 : RB w0 Z R B q p L (mixL l S) s w) (hg : g < 2) (hc : c < 2) (hn2 : n ≤ 2) (Q : Exit → Act → World → Prop)
    (hQ : ∀ (a' : Act) (w' : World), Rf x n R q p (.int .i64 g) (.int .i64 n) a' → RB w0 Z R B q p L (mixL l S) s w' → Q (.exit 6) a' w') :
    Code.wp Tryd.prog (nthS 0 rdL4) Q a w := by
  obtain ⟨f, rfl, e1, e6, e13, e14, e15, e16, e19, e20⟩ := hf.opened
  unfold mkB
  rw [e1, e6, e13, e14, e15, e16, e19, e20]
  clear hf e1 e6 e13 e14 e15 e16 e19 e20
  have HQ := Lib.hid hQ
  clear hQ
  have H := Lib.hid H0
  clear H0
  have ig0 : (0 : Int) ≤ (g : Int) := by omega
  have ig1 : (g : Int) < 2 := by omega
  have ic0 : (0 : Int) ≤ (c : Int) := by omega
  have ic1 : (c : Int) < 2 := by omega
  have d1 : decide ((n : Int) < (n : Int)) = false := decide_eq_false (by omega)
  conv => arg 2; whnf
  go_wp2_with fail
  exact HQ.out _ _ ⟨rfl, rfl, rfl, rfl, rfl, rfl, rfl, rfl, rfl, rfl⟩ H.out
end Go.Proofs.YtppfldobgemddaaDoor
namespace Go.Proofs.YtppfldobgemddaaDoor
open Go.RowKit
set_option linter.unusedVariables false

/-- What the loops want of the bytes and the numbers. -/
structure LoopIn (x : Int) (n : Nat) (S : Nat → Int) (L : List Int) : Prop where
  h0 : 0 ≤ x
  h1 : x ≤ 4294967295
  hv : fID x = 3
  hn : n = 1 ∨ n = 2
  hL : Bytes L
  said : SideSaid L S n
  fit : ∀ g c, g < 2 → c < n → GcFit S g c
  shape : ∀ g c, g < 2 → c < n → GcShape S g c
  room : preN n + 118 * n ≤ 8 * L.length
theorem LoopIn.n2 {x : Int} {n : Nat} {S : Nat → Int} {L : List Int} (h : LoopIn x n S L) : n ≤ 2 := by rcases h.hn with q | q <;> omega
theorem LoopIn.fits {x : Int} {n : Nat} {S : Nat → Int} {L : List Int} (h : LoopIn x n S L) {g c : Nat} (hg : g < 2) (hc : c < n) : preN n + 59 * (g * n + c) + 59 ≤ 8 * L.length := by
  have hr := h.room
  rcases h.hn with rfl | rfl <;> omega
theorem next_at {n g c : Nat} : preN n + 59 * (g * n + c) + 59 = preN n + 59 * (g * n + (c + 1)) := by omega
theorem next_row {n g : Nat} (hn : n = 1 ∨ n = 2) : preN n + 59 * (g * n + n) = preN n + 59 * ((g + 1) * n + 0) := by
  rcases hn with rfl | rfl <;> omega
section
variable {w0 : World} {Z R B q p n : Nat} {L : List Int} {S : Nat → Int} {l : List Nat} {x : Int} {g c : Nat}
set_option maxHeartbeats 2000000 in
/-- The plain granule: after its kind. -/
theorem else_any (I : LoopIn x n S L) (hg : g < 2) (hc : c < n) (b : Nat) (hb : b = preN n + 59 * (g * n + c)) (l5 : List Nat) (h82 : ∀ j ∈ l5, j < 82) (hsw : S (26 + g * 2 + c) = 0) (a : Act) (w : World) (hf : Rf x n R q p (.int .i64 g) (.int .i64 c) a) (H : RB w0 Z R B q p L (mixL l5 S) (b + 34) w) (Q : Exit → Act → World → Prop)
    (hQ : ∀ (l' : List Nat) (a' : Act) (w' : World), Rf x n R q p (.int .i64 g) (.int .i64 c) a' → RB w0 Z R B q p L (mixL l' S) (b + 56) w' → (∀ j ∈ l5, j ∈ l') → (∀ j ∈ l', j < 82) →
      (∀ j, (j = 30 + g * 2 + c ∨ j = 34 + g * 2 + c ∨ (38 + g * 6 + c * 3 ≤ j ∧ j < 38 + g * 6 + c * 3 + 3) ∨ (50 + g * 6 + c * 3 ≤ j ∧ j < 50 + g * 6 + c * 3 + 3) ∨ j = 62 + g * 2 + c ∨ j = 66 + g * 2 + c) → j ∈ l' ∨ S j = 0) → Q .normal a' w') :
    Code.wp Tryd.prog gcElse Q a w := by
  have n2 := I.n2
  have hc2 : c < 2 := by omega
  have C := chunk_has (I.said.chunk g c hg hc)
  have F := I.fit g c hg hc
  have K := I.shape g c hg hc
  have hfit := I.fits hg hc
  rw [← hb] at C hfit
  obtain ⟨p1, p2, p3⟩ := K.plain hsw
  have r1 := K.reg hsw
  rw [gcElse_eq]
  refine wp_seq ?_
  refine ge0 (z19 := undef) (z20 := undef) a w hf H hg hc2 h82 I.hL (C.tab0 hsw) (fun k hk => F.tab k hk) (by omega) _ ?_
  intro l6 a1 w1 hf1 H1 K1
  have H1' := H1.at (show b + 34 + 5 * 3 = b + 49 by omega)
  refine wp_seq ?_
  refine ge1 (z19 := undef) (z20 := undef) a1 w1 hf1 H1' hg hc2 I.hL (C.reg0 hsw) F.reg0 (by omega) _ ?_
  intro a2 w2 hf2 H2
  refine wp_seq ?_
  refine ge2 (z19 := undef) (z20 := undef) a2 w2 hf2 H2 hg hc2 I.hL (C.reg1 hsw) r1 (by omega) _ ?_
  intro a3 w3 hf3 H3
  refine wp_seq ?_
  refine ge3 (z19 := undef) (z20 := undef) a3 w3 hf3 H3 hg hc2 p1 _ ?_
  intro a4 w4 hf4 H4
  refine ge4 (z19 := undef) (z20 := undef) a4 w4 hf4 H4 hg hc2 _ ?_
  intro a5 w5 hf5 H5
  refine hQ _ a5 w5 hf5 H5 ?_ ?_ ?_
  · intro j hj
    simp only [List.mem_cons]
    simp only [K1.1 j hj, or_true]
  · exact cons82 (cons82 (cons82 K1.2.1 (by omega)) (by omega)) (by omega)
  · intro j hj
    simp only [List.mem_cons]
    rcases hj with rfl | rfl | ⟨h1, h2⟩ | ⟨h1, h2⟩ | rfl | rfl
    · exact .inl (.inl rfl)
    · exact .inr p2
    · obtain ⟨i, rfl⟩ : ∃ i, j = 38 + g * 6 + c * 3 + i := ⟨j - (38 + g * 6 + c * 3), by omega⟩
      exact .inl (.inr (.inr (.inr (K1.2.2 i (by omega)))))
    · obtain ⟨i, rfl⟩ : ∃ i, j = 50 + g * 6 + c * 3 + i := ⟨j - (50 + g * 6 + c * 3), by omega⟩
      exact .inr (p3 i (by omega))
    · exact .inl (.inr (.inr (.inl rfl)))
    · exact .inl (.inr (.inl rfl))
set_option maxHeartbeats 2000000 in
theorem then_any (I : LoopIn x n S L) (hg : g < 2) (hc : c < n) (b : Nat) (hb : b = preN n + 59 * (g * n + c)) (l5 : List Nat) (h82 : ∀ j ∈ l5, j < 82) (hsw : S (26 + g * 2 + c) = 1) (a : Act) (w : World) (hf : Rf x n R q p (.int .i64 g) (.int .i64 c) a) (H : RB w0 Z R B q p L (mixL l5 S) (b + 34) w) (Q : Exit → Act → World → Prop)
    (hQ : ∀ (l' : List Nat) (a' : Act) (w' : World), Rf x n R q p (.int .i64 g) (.int .i64 c) a' → RB w0 Z R B q p L (mixL l' S) (b + 56) w' → (∀ j ∈ l5, j ∈ l') → (∀ j ∈ l', j < 82) →
      (∀ j, (j = 30 + g * 2 + c ∨ j = 34 + g * 2 + c ∨ (38 + g * 6 + c * 3 ≤ j ∧ j < 38 + g * 6 + c * 3 + 3) ∨ (50 + g * 6 + c * 3 ≤ j ∧ j < 50 + g * 6 + c * 3 + 3) ∨ j = 62 + g * 2 + c ∨ j = 66 + g * 2 + c) → j ∈ l' ∨ S j = 0) → Q .normal a' w') :
    Code.wp Tryd.prog gcThen Q a w := by
  have n2 := I.n2
  have hc2 : c < 2 := by omega
  have C := chunk_has (I.said.chunk g c hg hc)
  have F := I.fit g c hg hc
  have K := I.shape g c hg hc
  have hfit := I.fits hg hc
  rw [← hb] at C hfit
  obtain ⟨o1, o2, o3⟩ := K.other hsw
  rw [gcThen_eq]
  refine wp_seq ?_
  refine gt0 (z19 := undef) (z20 := undef) a w hf H hg hc2 I.hL (C.block hsw) F.block (by omega) _ ?_
  intro a1 w1 hf1 H1
  refine wp_seq ?_
  refine gt1 (z19 := undef) (z20 := undef) a1 w1 hf1 H1 hg hc2 I.hL (C.mixed hsw) F.mixed (by omega) _ ?_
  intro a2 w2 hf2 H2
  have H2' := H2.at (show b + 34 + 2 + 1 = b + 37 by omega)
  refine wp_seq ?_
  refine gt2 (z19 := undef) (z20 := undef) a2 w2 hf2 H2' hg hc2 (cons82 (cons82 h82 (by omega)) (by omega)) I.hL (C.tab1 hsw) (fun k hk => F.tab k (by omega)) (by omega) _ ?_
  intro l6 a3 w3 hf3 H3 K1
  have H3' := H3.at (show b + 37 + 5 * 2 = b + 47 by omega)
  refine wp_seq ?_
  refine gt3 (z19 := undef) (z20 := undef) a3 w3 hf3 H3' hg hc2 K1.2.1 I.hL (C.sub hsw) (fun k hk => F.sub k (by omega)) (by omega) _ ?_
  intro l7 a4 w4 hf4 H4 K2
  have H4' := H4.at (show b + 47 + 3 * 3 = b + 56 by omega)
  have m30 : (30 + g * 2 + c) ∈ l7 := K2.1 _ (K1.1 _ (List.mem_cons_of_mem _ (List.mem_cons_self ..)))
  have m34 : (34 + g * 2 + c) ∈ l7 := K2.1 _ (K1.1 _ (List.mem_cons_self ..))
  have fin : ∀ (r : Int) (a5 : Act) (w5 : World), (r = 8 ∨ r = 7) → S (62 + g * 2 + c) = r → Rf x n R q p (.int .i64 g) (.int .i64 c) a5 → RB w0 Z R B q p L (mixL ((62 + g * 2 + c) :: l7) S) (b + 56) w5 → Code.wp Tryd.prog (nthS 5 gcThen) Q a5 w5 := by
    intro r a5 w5 hr e5 hf5 H5
    have fin2 : ∀ (a6 : Act) (w6 : World), Rf x n R q p (.int .i64 g) (.int .i64 c) a6 → RB w0 Z R B q p L (mixL ((66 + g * 2 + c) :: ((62 + g * 2 + c) :: l7)) S) (b + 56) w6 → Q .normal a6 w6 := by
      intro a6 w6 hf6 H6
      refine hQ _ a6 w6 hf6 H6 ?_ ?_ ?_
      · intro j hj
        simp only [List.mem_cons]
        exact .inr (.inr (K2.1 _ (K1.1 _ (List.mem_cons_of_mem _ (List.mem_cons_of_mem _ hj)))))
      · exact cons82 (cons82 K2.2.1 (by omega)) (by omega)
      · intro j hj
        simp only [List.mem_cons]
        rcases hj with rfl | rfl | ⟨h1, h2⟩ | ⟨h1, h2⟩ | rfl | rfl
        · exact .inl (.inr (.inr m30))
        · exact .inl (.inr (.inr m34))
        · obtain ⟨i, rfl⟩ : ∃ i, j = 38 + g * 6 + c * 3 + i := ⟨j - (38 + g * 6 + c * 3), by omega⟩
          by_cases hi : i < 2
          · exact .inl (.inr (.inr (K2.1 _ (K1.2.2 i hi))))
          · obtain rfl : i = 2 := by omega
            exact .inr o1
        · obtain ⟨i, rfl⟩ : ∃ i, j = 50 + g * 6 + c * 3 + i := ⟨j - (50 + g * 6 + c * 3), by omega⟩
          exact .inl (.inr (.inr (K2.2.2 i (by omega))))
        · exact .inl (.inr (.inl rfl))
        · exact .inl (.inl rfl)
    rcases hr with rfl | rfl
    · exact gt5_8 (z19 := undef) (z20 := undef) a5 w5 hf5 H5 hg hc2 (List.mem_cons_self ..) e5 o3 _ fin2
    · exact gt5_7 (z19 := undef) (z20 := undef) a5 w5 hf5 H5 hg hc2 (List.mem_cons_self ..) e5 o3 _ fin2
  refine wp_seq ?_
  by_cases h1 : S (30 + g * 2 + c) = 2
  · by_cases h2 : S (34 + g * 2 + c) = 0
    · rw [if_pos ⟨h1, h2⟩] at o2
      exact gt4a (z19 := undef) (z20 := undef) a4 w4 hf4 H4' hg hc2 _ _ (mixL_in m30) (mixL_in m34) h1 h2 o2 _ fun a5 w5 hf5 H5 => fin 8 a5 w5 (.inl rfl) o2 hf5 H5
    · rw [if_neg (fun q => h2 q.2)] at o2
      exact gt4b (z19 := undef) (z20 := undef) a4 w4 hf4 H4' hg hc2 _ _ (mixL_in m30) (mixL_in m34) h1 h2 o2 _ fun a5 w5 hf5 H5 => fin 7 a5 w5 (.inr rfl) o2 hf5 H5
  · rw [if_neg (fun q => h1 q.1)] at o2
    exact gt4c (z19 := undef) (z20 := undef) a4 w4 hf4 H4' hg hc2 _ _ (mixL_in m30) (mixL_in m34) h1 o2 _ fun a5 w5 hf5 H5 => fin 7 a5 w5 (.inr rfl) o2 hf5 H5
set_option maxHeartbeats 2000000 in
/-- A granule of a channel. -/
theorem gc_any (I : LoopIn x n S L) (hg : g < 2) (hc : c < n) (D : DoneGc S n l g c) (a : Act) (w : World) (hf : Rf x n R q p (.int .i64 g) (.int .i64 c) a) (H : RB w0 Z R B q p L (mixL l S) (preN n + 59 * (g * n + c)) w) (Q : Exit → Act → World → Prop)
    (hQ : ∀ (l' : List Nat) (a' : Act) (w' : World), Rf x n R q p (.int .i64 g) (.int .i64 c) a' → RB w0 Z R B q p L (mixL l' S) (preN n + 59 * (g * n + (c + 1))) w' → DoneGc S n l' g (c + 1) → Q .normal a' w') :
    Code.wp Tryd.prog (.seq (gcItem 0) (.seq (gcItem 1) (.seq (gcItem 2) (.seq (gcItem 3) (.seq (gcItem 4) (.seq (gcItem 5) (.seq (gcItem 6) (.seq (gcItem 7) (gcItem 8))))))))) Q a w := by
  have n2 := I.n2
  have hc2 : c < 2 := by omega
  have hfit := I.fits hg hc
  have C := chunk_has (I.said.chunk g c hg hc)
  have F := I.fit g c hg hc
  have hnx := @next_at n g c
  obtain ⟨b, hb⟩ : ∃ b, b = preN n + 59 * (g * n + c) := ⟨_, rfl⟩
  rw [← hb] at H C hfit hnx
  refine wp_seq ?_
  refine gw0 (z19 := undef) (z20 := undef) a w hf H hg hc2 I.hL C.length F.length (by omega) _ ?_
  intro a1 w1 hf1 H1
  refine wp_seq ?_
  refine gw1 (z19 := undef) (z20 := undef) a1 w1 hf1 H1 hg hc2 I.hL C.big F.big (by omega) _ ?_
  intro a2 w2 hf2 H2
  refine wp_seq ?_
  refine gw2 (z19 := undef) (z20 := undef) a2 w2 hf2 H2 hg hc2 I.hL C.gain F.gain (by omega) _ ?_
  intro a3 w3 hf3 H3
  refine wp_seq ?_
  refine gw3 (z19 := undef) (z20 := undef) a3 w3 hf3 H3 hg hc2 I.hL C.comp F.comp (by omega) _ ?_
  intro a4 w4 hf4 H4
  refine wp_seq ?_
  refine gw4 (z19 := undef) (z20 := undef) a4 w4 hf4 H4 hg hc2 I.hL C.sw F.sw (by omega) _ ?_
  intro a5 w5 hf5 H5
  obtain ⟨l5, hl5⟩ : ∃ z, z = (26 + g * 2 + c) :: (22 + g * 2 + c) :: (18 + g * 2 + c) :: (14 + g * 2 + c) :: (10 + g * 2 + c) :: l := ⟨_, rfl⟩
  rw [← hl5] at H5
  have H5' := H5.at (show b + 12 + 9 + 8 + 4 + 1 = b + 34 by omega)
  have h82 : ∀ j ∈ l5, j < 82 := hl5 ▸ cons82 (cons82 (cons82 (cons82 (cons82 D.1.1 (by omega)) (by omega)) (by omega)) (by omega)) (by omega)
  have hsub : ∀ j ∈ l, j ∈ l5 := fun j hj => by rw [hl5]; simp only [List.mem_cons, hj, or_true]
  have hm : ∀ j, (j = 10 + g * 2 + c ∨ j = 14 + g * 2 + c ∨ j = 18 + g * 2 + c ∨ j = 22 + g * 2 + c ∨ j = 26 + g * 2 + c) → j ∈ l5 := fun j hj => by
    rw [hl5]; simp only [List.mem_cons]
    rcases hj with e | e | e | e | e <;> simp only [e, true_or, or_true]
  have hv : mixL l5 S (26 + g * 2 + c) = S (26 + g * 2 + c) := mixL_in (hm _ (.inr (.inr (.inr (.inr rfl)))))
  have rest : ∀ (l' : List Nat) (a' : Act) (w' : World), Rf x n R q p (.int .i64 g) (.int .i64 c) a' → RB w0 Z R B q p L (mixL l' S) (b + 56) w' → (∀ j ∈ l5, j ∈ l') → (∀ j ∈ l', j < 82) →
      (∀ j, (j = 30 + g * 2 + c ∨ j = 34 + g * 2 + c ∨ (38 + g * 6 + c * 3 ≤ j ∧ j < 38 + g * 6 + c * 3 + 3) ∨ (50 + g * 6 + c * 3 ≤ j ∧ j < 50 + g * 6 + c * 3 + 3) ∨ j = 62 + g * 2 + c ∨ j = 66 + g * 2 + c) → j ∈ l' ∨ S j = 0) →
      Code.wp Tryd.prog (.seq (gcItem 6) (.seq (gcItem 7) (gcItem 8))) Q a' w' := by
    intro l' a' w' hf' H' s1 s2 s3
    refine wp_seq ?_
    refine gw6 (z19 := undef) (z20 := undef) a' w' hf' H' hg hc2 I.hL C.pre F.pre (by omega) _ ?_
    intro a7 w7 hf7 H7
    refine wp_seq ?_
    refine gw7 (z19 := undef) (z20 := undef) a7 w7 hf7 H7 hg hc2 I.hL C.scale F.scale (by omega) _ ?_
    intro a8 w8 hf8 H8
    refine gw8 (z19 := undef) (z20 := undef) a8 w8 hf8 H8 hg hc2 I.hL C.which F.which (by omega) _ ?_
    intro a9 w9 hf9 H9
    refine hQ _ a9 w9 hf9 (H9.at (by omega)) (D.next ?_ ?_ ?_)
    · intro j hj
      simp only [List.mem_cons]
      exact .inr (.inr (.inr (s1 j (hsub j hj))))
    · exact cons82 (cons82 (cons82 s2 (by omega)) (by omega)) (by omega)
    · intro j hj
      simp only [List.mem_cons]
      have old : j ∈ l5 → (j = 78 + g * 2 + c ∨ j = 74 + g * 2 + c ∨ j = 70 + g * 2 + c ∨ j ∈ l') ∨ S j = 0 := fun q => .inl (.inr (.inr (.inr (s1 j q))))
      have new : j ∈ l' ∨ S j = 0 → (j = 78 + g * 2 + c ∨ j = 74 + g * 2 + c ∨ j = 70 + g * 2 + c ∨ j ∈ l') ∨ S j = 0 := fun q => q.imp (fun z => .inr (.inr (.inr z))) id
      rcases hj with e | e | e | e | e | e | e | e | e | e | e | e | e | e
      · exact old (hm j (.inl e))
      · exact old (hm j (.inr (.inl e)))
      · exact old (hm j (.inr (.inr (.inl e))))
      · exact old (hm j (.inr (.inr (.inr (.inl e)))))
      · exact old (hm j (.inr (.inr (.inr (.inr e)))))
      · exact new (s3 j (.inl e))
      · exact new (s3 j (.inr (.inl e)))
      · exact new (s3 j (.inr (.inr (.inl e))))
      · exact new (s3 j (.inr (.inr (.inr (.inl e)))))
      · exact new (s3 j (.inr (.inr (.inr (.inr (.inl e))))))
      · exact new (s3 j (.inr (.inr (.inr (.inr (.inr e))))))
      · exact .inl (.inr (.inr (.inl e)))
      · exact .inl (.inr (.inl e))
      · exact .inl (.inl e)
  refine wp_seq ?_
  have hsw01 : S (26 + g * 2 + c) = 0 ∨ S (26 + g * 2 + c) = 1 := by have := F.sw; omega
  rcases hsw01 with hsw | hsw
  · exact g5_0 (z19 := undef) (z20 := undef) a5 w5 hf5 H5' hg hc2 (hv.trans hsw) _ fun a6 hf6 => else_any I hg hc b hb l5 h82 hsw a6 w5 hf6 H5' _ rest
  · exact g5_1 (z19 := undef) (z20 := undef) a5 w5 hf5 H5' hg hc2 (hv.trans hsw) _ fun a6 hf6 => then_any I hg hc b hb l5 h82 hsw a6 w5 hf6 H5' _ rest
set_option maxHeartbeats 2000000 in
/-- The channels of a granule. -/
theorem chans_loop (I : LoopIn x n S L) (hg : g < 2) (D : DoneGc S n l g 0) (a : Act) (w : World) (hf : Rf x n R q p (.int .i64 g) (.int .i64 (0 : Nat)) a) (H : RB w0 Z R B q p L (mixL l S) (preN n + 59 * (g * n + 0)) w) (Q : Exit → Act → World → Prop)
    (hQ : ∀ (l' : List Nat) (a' : Act) (w' : World), Rf x n R q p (.int .i64 g) (.int .i64 n) a' → RB w0 Z R B q p L (mixL l' S) (preN n + 59 * (g * n + n)) w' → DoneGc S n l' g n → Q (.exit 6) a' w') :
    Code.wp Tryd.prog (.loop rdL4) Q a w := by
  have n2 := I.n2
  refine wp_loop (fun a w => ∃ (c : Nat) (l : List Nat), c ≤ n ∧ Rf x n R q p (.int .i64 g) (.int .i64 c) a ∧ RB w0 Z R B q p L (mixL l S) (preN n + 59 * (g * n + c)) w ∧ DoneGc S n l g c) (fun a _ => n - (intOf (a.tmps.getD 20 undef)).toNat) ⟨0, l, Nat.zero_le _, hf, H, D⟩ ?_
  rintro a w ⟨c, l, hc, hf, H, D⟩
  rw [rdL4_eq]
  refine wp_seq ?_
  by_cases hlt : c < n
  · refine gh37a (z19 := undef) (z20 := undef) a w hf H hg (by omega) hlt n2 _ ?_
    intro a1 w1 hf1 H1
    refine wp_seq ?_
    refine wp_block ?_
    refine gc_any I hg hlt D a1 w1 hf1 H1 _ ?_
    intro l' a2 w2 hf2 H2 D2
    refine gh38 (z19 := undef) (z20 := undef) a2 w2 hf2 H2 hg (by omega) _ ?_
    intro a3 w3 hf3 H3
    exact ⟨⟨c + 1, l', by omega, hf3, H3, D2⟩, by rw [hf3.at20, hf.at20]; simp [intOf]; omega⟩
  · obtain rfl : c = n := by omega
    exact gh37b (z19 := undef) (z20 := undef) (c := 0) a w hf H hg (by decide) n2 _ fun a1 w1 hf1 H1 => hQ l a1 w1 hf1 H1 D
set_option maxHeartbeats 2000000 in
/-- The granules. -/
theorem grans_loop {z20 : Value} (I : LoopIn x n S L) (D : DoneGc S n l 0 0) (a : Act) (w : World) (hf : Rf x n R q p (.int .i64 (0 : Nat)) z20 a) (H : RB w0 Z R B q p L (mixL l S) (preN n) w) (Q : Exit → Act → World → Prop)
    (hQ : ∀ (l' : List Nat) (z : Value) (a' : Act) (w' : World), Rf x n R q p (.int .i64 2) z a' → (∃ s, RB w0 Z R B q p L (mixL l' S) s w') → DoneGc S n l' 2 0 → Q (.exit 4) a' w') :
    Code.wp Tryd.prog (.loop rdL3) Q a w := by
  have n2 := I.n2
  refine wp_loop (fun a w => ∃ (g : Nat) (l : List Nat) (z : Value), g ≤ 2 ∧ Rf x n R q p (.int .i64 g) z a ∧ RB w0 Z R B q p L (mixL l S) (preN n + 59 * (g * n + 0)) w ∧ DoneGc S n l g 0) (fun a _ => 2 - (intOf (a.tmps.getD 19 undef)).toNat) ⟨0, l, z20, by decide, hf, H.at (by omega), D⟩ ?_
  rintro a w ⟨g, l, z, hg, hf, H, D⟩
  rw [rdL3_eq]
  refine wp_seq ?_
  by_cases hlt : g < 2
  · refine gh34a (z19 := undef) (c := 0) a w hf H hlt (by decide) I.h0 I.h1 I.hv _ ?_
    intro a1 w1 hf1 H1
    refine wp_seq ?_
    refine wp_block ?_
    refine wp_seq ?_
    refine gh36 (z19 := undef) (c := 0) a1 w1 hf1 H1 hlt (by decide) _ ?_
    intro a2 w2 hf2 H2
    refine wp_block ?_
    refine chans_loop I hlt D a2 w2 hf2 H2 _ ?_
    intro l' a3 w3 hf3 H3 D3
    refine gh35 (z19 := undef) (c := 0) a3 w3 hf3 H3 hlt (by decide) _ ?_
    intro a4 w4 hf4 H4
    exact ⟨⟨g + 1, l', _, by omega, hf4, H4.at (next_row I.hn), D3.row⟩, by rw [hf4.at19, hf.at19]; simp [intOf]; omega⟩
  · obtain rfl : g = 2 := by omega
    exact gh34b (z19 := undef) (g := 0) (c := 0) a w hf H (by decide) (by decide) I.h0 I.h1 I.hv _ fun a1 w1 hf1 H1 => hQ l z a1 w1 hf1 ⟨_, H1⟩ D
set_option maxRecDepth 1000000 in
set_option maxHeartbeats 4000000 in
/-- The end. -/
theorem rdEnd {z19 z20 : Value} (a : Act) (w : World) (hf : Rf x n R q p z19 z20 a) (P : Ending → World → Prop) (hP : P (.returned (.tuple #[.pointer (some ⟨p, 0, none⟩), .nilIface])) w) :
    Code.wp Tryd.prog (dropT 19 rdBody) (bodyPost Tryd.prog Tryd.f48 P) a w := by
  obtain ⟨f, rfl, e1, e6, e13, e14, e15, e16, e19, e20⟩ := hf.opened
  unfold mkB
  rw [e1, e6, e13, e14, e15, e16, e19, e20]
  clear hf e1 e6 e13 e14 e15 e16 e19 e20
  have HP := Lib.hid hP
  clear hP
  conv => arg 2; whnf
  go_wp2_with fail
  exact HP.out
end
end Go.Proofs.YtppfldobgemddaaDoor
