/-
  The contracts of bits.New, (*bits.Bits).BitPos and impl.Words.
-/
import Derived.Test.YtppfldobgemddaaBr
import Derived.Test.YtppfldobgemddaaCl
namespace Go.Proofs.Ytppfldobgemddaa
open Go.RowKit
set_option linter.unusedVariables false

theorem Rd.kept {w w' : World} {R g cap s : Nat} {D : List Int} {row : Option Nat} (h : Rd w R g cap D s) (hg : w.grownBy w' row) (h1 : row ≠ some R) (h2 : row ≠ some g) : Rd w' R g cap D s := by
  have eR := hg.block R h.ltR (fun e => h1 e.symm)
  have eg := hg.block g h.ltg (fun e => h2 e.symm)
  have cR : ∀ j, w'.cell? ⟨R, j, none⟩ = w.cell? ⟨R, j, none⟩ := fun j => World.cell?_of_block (a := ⟨R, j, none⟩) eR
  have cg : ∀ j, w'.cell? ⟨g, j, none⟩ = w.cell? ⟨g, j, none⟩ := fun j => World.cell?_of_block (a := ⟨g, j, none⟩) eg
  have fR : ∀ j, w'.frozen? ⟨R, j, none⟩ = w.frozen? ⟨R, j, none⟩ := fun j => World.frozen?_of_block (a := ⟨R, j, none⟩) eR
  exact ⟨(cR 0).trans h.vec, (cR 1).trans h.bit, (cR 2).trans h.byt, fun j => (fR j).trans (h.free j), fun j hj => (cg j).trans (h.cells j hj), h.apart,
    Nat.lt_of_lt_of_le h.ltR hg.size, Nat.lt_of_lt_of_le h.ltg hg.size⟩
theorem Rd.alloc {w : World} {R g cap s : Nat} {D : List Int} (h : Rd w R g cap D s) (o : Obj) : Rd (w.alloc o) R g cap D s :=
  h.kept (row := none) (grown_of_below (stpA (stp0 w) o) none) (by simp) (by simp)

set_option maxHeartbeats 400000 in
theorem new_any (a : Option Addr) (n c : Nat) (w : World) :
    Calls Try.prog 26 #[.slice a n c] w fun e w' => e = .returned (.pointer (some ⟨w.heap.size, 0, none⟩)) ∧ w' = w.alloc (.cells #[.slice a n c, .int .i64 0, .int .i64 0] 71) := by
  go_enter Try.func26, Try.ntmps26
  go_wp2_with fail
  go_ret
  exact ⟨rfl, rfl⟩

set_option maxHeartbeats 400000 in
theorem bitpos_any (R s : Nat) (hs : s ≤ 100000000) (w : World) (h1 : w.cell? ⟨R, 1, none⟩ = some (.int .i64 (s % 8 : Nat))) (h2 : w.cell? ⟨R, 2, none⟩ = some (.int .i64 (s / 8 : Nat))) :
    Calls Try.prog 29 #[.pointer (some ⟨R, 0, none⟩)] w fun e w' => e = .returned (.int .i64 s) ∧ ∃ n, w' = w.drewN n := by
  obtain ⟨k, hk⟩ : ∃ k, k = s / 8 := ⟨_, rfl⟩
  obtain ⟨p, hp⟩ : ∃ p, p = s % 8 := ⟨_, rfl⟩
  rw [← hk] at h2
  rw [← hp] at h1
  have e : ((k : Int) * 8 + p) = s := by omega
  have b1 : k ≤ 100000000 := by omega
  have b2 : p ≤ 7 := by omega
  have t1 : IntKind.i64.wrap ((k : Int) * 8) = k * 8 := IntWalk.i64_in _ (by omega)
  have t2 : IntKind.i64.wrap ((k : Int) * 8 + p) = k * 8 + p := IntWalk.i64_in _ (by omega)
  have HE := Lib.hid e
  clear hk hp e
  go_enter Try.func29, Try.ntmps29
  go_wp2_with fail
  go_quiet (fail)
  go_wp2_with fail
  go_ret
  exact ⟨by rw [← HE.out]; rfl, _, rfl⟩

/-- Where a word begins, by the widths. -/
def posOf (nw : Nat → Nat) : Nat → Nat
  | 0 => 0
  | k + 1 => posOf nw k + nw k
theorem posOf_le (nw : Nat → Nat) (j : Nat) : ∀ k, j ≤ k → posOf nw j ≤ posOf nw k
  | 0, h => by have : j = 0 := by omega
               subst this; exact Nat.le_refl _
  | k + 1, h => by
    by_cases e : j = k + 1
    · subst e; exact Nat.le_refl _
    · exact Nat.le_trans (posOf_le nw j k (by omega)) (Nat.le_add_right _ _)
/-- The words by the widths. -/
def wordsOf (D : List Int) (nw : Nat → Nat) (k : Nat) : List Int := (List.range k).map fun i => V D (posOf nw i) (nw i)
theorem wordsOf_succ (D : List Int) (nw : Nat → Nat) (k : Nat) : wordsOf D nw (k + 1) = wordsOf D nw k ++ [V D (posOf nw k) (nw k)] := by
  unfold wordsOf; rw [List.range_succ, List.map_append]; rfl
theorem wordsOf_length (D : List Int) (nw : Nat → Nat) (k : Nat) : (wordsOf D nw k).length = k := by unfold wordsOf; simp

/-- What the call leaves: the words, owned, and where they end. -/
def WordsLeft (D : List Int) (nw : Nat → Nat) (m : Nat) (w : World) (e : Ending) (w' : World) : Prop :=
  ∃ v, e = .returned (.tuple #[v, .int .i64 (posOf nw m)]) ∧ w'.ownsRow w.heap.size 3 1 v m ((wordsOf D nw m).map (Value.int .i64)) ∧ Below w.heap.size w w'

theorem owned_slice {w : World} {base n : Nat} {e : TypeId} {v : Value} {xs : List Value} (h : w.ownsRow base e 1 v n xs) : ∃ a c, v = .slice a n c := by
  rcases h.2 with ⟨rfl, h0⟩ | ⟨g, cap, cur, rfl, _, _⟩
  · exact ⟨none, 0, by rw [h0]⟩
  · exact ⟨_, _, rfl⟩

theorem own_ge {w : World} {base n size : Nat} {e : TypeId} {v : Value} {xs : List Value} (h : w.ownsRow base e size v n xs) {j : Nat} (hj : v.ownBlock = some j) : base ≤ j := (h.lt j hj).1
theorem own_ne {w : World} {base n size : Nat} {e : TypeId} {v : Value} {xs : List Value} (h : w.ownsRow base e size v n xs) {r : Nat} (hr : r < base) : v.ownBlock ≠ some r := fun e => by
  have := own_ge h e; omega
theorem owns_base {w : World} {base base' : Nat} {e : TypeId} {size : Nat} {v : Value} {n : Nat} {xs : List Value} (h : w.ownsRow base e size v n xs) (hb : base' ≤ base) : w.ownsRow base' e size v n xs := by
  refine ⟨h.1, ?_⟩
  rcases h.2 with h | ⟨g, cap, cur, h1, h2, h3⟩
  · exact .inl h
  · exact .inr ⟨g, cap, cur, h1, by omega, h3⟩

set_option maxHeartbeats 1000000 in
theorem iwords_any (b off n cap : Nat) (D : List Int) (hD : Bytes D) (hn : D.length = n) (hn1 : 1 ≤ n) (lb m lcap : Nat) (nw : Nat → Nat) (hm : m ≤ 100000) (hnw : ∀ j, j < m → 1 ≤ nw j ∧ nw j ≤ 24) (hfit : posOf nw m ≤ 8 * n) (w : World)
    (hc : ∀ j, j < n → w.cell? ⟨b, off + j, none⟩ = some (.int .u8 (D.getD j 0)))
    (hl : ∀ j, j < m → w.cell? ⟨lb, j, none⟩ = some (.int .i64 (nw j))) (hlb : lb < w.heap.size) :
    Calls Try.prog 14 #[.slice (some ⟨b, off, none⟩) n cap, .slice (some ⟨lb, 0, none⟩) m lcap] w (WordsLeft D nw m w) := by
  obtain ⟨i0, hi, hz0, hz1, hz2⟩ := info_parts info3
  have L := hD.2
  go_enter Try.func14, Try.ntmps14
  go_wp2_with fail
  refine (cloneBytes_any b off n cap D hn (by omega) _ hc).mono ?_
  rintro e w1 ⟨⟨v, rfl, hown⟩, hb1⟩
  have hcell : ∃ g cap', v = .slice (some ⟨g, 0, none⟩) n cap' ∧ n ≤ cap' ∧ cap' ≤ maxLen ∧ g < w1.heap.size ∧ ∀ j, j < n → w1.cell? ⟨g, j, none⟩ = some (.int .u8 (D.getD j 0)) := by
    rcases hown.2 with ⟨_, h0⟩ | ⟨g, cap', cur, rfl, h1, h2, h3, h4, _⟩
    · omega
    · refine ⟨g, cap', rfl, h3, h4, (hown.lt g rfl).2, fun j hj => ?_⟩
      rw [hown.cellAt j (by omega), List.getD_eq_getElem?_getD]
      simp [hn, hj]
  obtain ⟨g, cap', rfl, hcap1, hcap2, hg, hgc⟩ := hcell
  have HG := Lib.hid hgc
  have HL := Lib.hid hl
  clear hgc hc hl hown
  go_wp2_with fail
  refine (new_any _ _ _ _).mono ?_
  rintro e w2 ⟨rfl, rfl⟩
  go_wp2_with fail
  have hrd0 : Rd ((w1.alloc (.cells #[.slice (some ⟨g, 0, none⟩) n cap', .int .i64 0, .int .i64 0] 71)).alloc (.cells #[] 3)) w1.heap.size g cap' D 0 := by
    refine Rd.alloc ?_ _
    refine ⟨by rw [hn]; simp, by simp, by simp, fun j => by simp, fun j hj => ?_, by omega, by simp, by simp; omega⟩
    rw [World.cell?_alloc_past _ _ _ (by exact hg)]; exact HG.out j (by omega)
  have hown0 : ((w1.alloc (.cells #[.slice (some ⟨g, 0, none⟩) n cap', .int .i64 0, .int .i64 0] 71)).alloc (.cells #[] 3)).ownsRow (w1.heap.size + 1) 3 1 (.slice (some ⟨w1.heap.size + 1, 0, none⟩) 0 0) 0 ((wordsOf D nw 0).map (Value.int .i64)) := by
    have := World.ownsRow_made (base := w1.heap.size + 1) (e := 3) (size := 1) (w1.alloc (.cells #[.slice (some ⟨g, 0, none⟩) n cap', .int .i64 0, .int .i64 0] 71)) #[] 0 (by simp) (by unfold maxLen; omega) rfl
    simpa [wordsOf] using this
  have hbel0 : Below w.heap.size w ((w1.alloc (.cells #[.slice (some ⟨g, 0, none⟩) n cap', .int .i64 0, .int .i64 0] 71)).alloc (.cells #[] 3)) := stpA (stpA hb1 _) _
  have hsz0 : w1.heap.size + 1 ≤ ((w1.alloc (.cells #[.slice (some ⟨g, 0, none⟩) n cap', .int .i64 0, .int .i64 0] 71)).alloc (.cells #[] 3)).heap.size := by simp
  have hw1 := hb1.size
  clear hb1 HG
  go_loopw [7, 16] (fun v i wr => ∃ k : Nat, k ≤ m ∧ i = .int .i64 k ∧ wr.ownsRow (w1.heap.size + 1) 3 1 v k ((wordsOf D nw k).map (Value.int .i64)) ∧ Rd wr w1.heap.size g cap' D (posOf nw k) ∧ Below w.heap.size w wr ∧ w1.heap.size + 1 ≤ wr.heap.size)
    (fun _ i _ => m - (intOf i).toNat)
  case atStart => exact ⟨0, Nat.zero_le _, rfl, hown0, hrd0, hbel0, hsz0⟩
  case round =>
    clear hown0 hrd0 hbel0 hsz0
    obtain ⟨k, hk, rfl, hown, hrd, hbel, hsz⟩ := hrel
    by_cases hlt : k < m
    · have hlk : wr.cell? ⟨lb, k, none⟩ = some (.int .i64 (nw k)) := by rw [hbel.cell (by exact hlb)]; exact HL.out k hlt
      have hq1 := (hnw k hlt).1
      have hq2 := (hnw k hlt).2
      have hq3 : posOf nw k + nw k ≤ 8 * n := Nat.le_trans (posOf_le nw (k + 1) m (by omega)) hfit
      obtain ⟨q, hq⟩ : ∃ q, q = nw k := ⟨_, rfl⟩
      rw [← hq] at hlk hq1 hq2 hq3
      have HQ := Lib.hid hq
      clear hq
      have hnw' := Lib.hid hnw
      clear hnw
      go_wp2_with fail
      refine (bits_any w1.heap.size g cap' D (posOf nw k) q hD hq1 (by omega) (by omega) (by omega) hcap2 _ hrd).mono ?_
      rintro e wb ⟨rfl, hrd2, hgr⟩
      obtain ⟨z, hz⟩ : ∃ z, z = V D (posOf nw k) q := ⟨_, rfl⟩
      rw [← hz]
      have HZ := Lib.hid hz
      have hown2 := hown.kept hgr (by
        rcases hown.2 with ⟨rfl, _⟩ | ⟨gg, _, _, rfl, hgg, _⟩
        · exact .inl rfl
        · exact .inr (by intro e; injection e with e; simp at e; omega))
      have hbel2 : Below w.heap.size w wb := hbel.grown hgr (by omega) (by intro j hj; cases hj; omega)
      have hsz2 : w1.heap.size + 1 ≤ wb.heap.size := Nat.le_trans hsz hgr.size
      clear hz hown hrd hgr hbel hsz
      go_wp2_with (at_builtin; refine wpList_append_own _ rfl _ _ 36 rfl (w1.heap.size + 1) 3 i0 (.int .i64 0) 1 8 Try.underlying36 hi hz0 hz1 hz2 rfl (by decide) _ k _ rfl (hown2.alloc _) ⟨wb.heap.size, 0, none⟩ 1 1 [.int .i64 z] rfl rfl (cell_one_new _ _ _) (by simp [Value.oneCell']) (by unfold maxLen; omega) (by omega) (by simp; omega) ?_; intro v' w3 hown3 hgr3 _)
      have hrd3 := (hrd2.alloc (.cells #[.int .i64 z] 3)).kept hgr3 (own_ne hown2 (by omega)) (own_ne hown2 (by omega))
      have hbel3 : Below w.heap.size w w3 := (stpA hbel2 (.cells #[.int .i64 z] 3)).grown hgr3 (by simp; omega) (fun j hj => Nat.le_trans (by omega) (own_ge hown2 hj))
      have hsz3 : w1.heap.size + 1 ≤ w3.heap.size := by have := hgr3.size; simp at this; omega
      refine ⟨⟨k + 1, by omega, by go_num, ?_, ?_, hbel3, hsz3⟩, by simp [intOf]; omega⟩
      · rw [wordsOf_succ, List.map_append, ← HQ.out, ← HZ.out]; exact hown3
      · show Rd w3 w1.heap.size g cap' D (posOf nw k + nw k); rw [← HQ.out]; exact hrd3
    · obtain rfl : k = m := by omega
      have hx1 := hrd.bit
      have hx2 := hrd.byt
      clear hnw
      go_wp2_with fail
      refine (bitpos_any w1.heap.size (posOf nw k) (by omega) _ hx1 hx2).mono ?_
      rintro e wf ⟨rfl, nd, rfl⟩
      go_wp2_with fail
      go_ret2
      exact ⟨_, rfl, (owns_base hown (by omega)), stpN hbel _⟩
end Go.Proofs.Ytppfldobgemddaa
