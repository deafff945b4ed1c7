/-
  The contract of (*spec.writer).factors: it ends, and how many bits it writes at most; The contracts of (*spec.writer).code and of the closures of (*spec.writer).lines; The contracts of spec.codesOf and of the closure of (*spec.writer).lines that reads a line; The contract of spec.foursOf.
-/
import Derived.Test.YtppfldobgemddaaDoorMg
import Derived.Test.YtppfldobgemddaaDoorMe
import Derived.Test.YtppfldobgemddaaDoorMq
import Derived.Test.YtppfldobgemddaaDoorGr
import Derived.Laws.FloatArith
namespace Go.Proofs.YtppfldobgemddaaDoor
open Go.RowKit
set_option linter.unusedVariables false

/-- A writer that has written so many bits, whatever they are. -/
def Wn (w : World) (W base a : Nat) : Prop := ∃ L, Wr w W base L a
theorem Wn.below {w w' : World} {W base a : Nat} (h : Wn w W base a) (hb : Below w.heap.size w w') : Wn w' W base a := by
  obtain ⟨L, hr⟩ := h
  obtain ⟨ao, c, h0, ho⟩ := hr.out
  have hW : W < w.heap.size := Nat.lt_of_lt_of_le hr.hW hr.hb
  exact ⟨L, ⟨ao, c, (hb.cell (p := ⟨W, 0, none⟩) hW).trans h0, ho.kept (grown_of_below hb none) (by cases ao <;> simp [Value.ownBlock])⟩, (hb.cell (p := ⟨W, 1, none⟩) hW).trans hr.bit, fun j => (hb.frozen (p := ⟨W, j, none⟩) hW).trans (hr.free j), hr.packed, hr.hW, Nat.le_trans hr.hb hb.size⟩
theorem Wn.lt {w : World} {W base a : Nat} (h : Wn w W base a) : W < w.heap.size := by
  obtain ⟨L, hr⟩ := h
  exact Nat.lt_of_lt_of_le hr.hW hr.hb
theorem Wn.at {w : World} {W base a : Nat} (h : Wn w W base a) : w.cell? ⟨W, 1, none⟩ = some (.int .i64 a) := by
  obtain ⟨L, hr⟩ := h
  exact hr.bit
/-- From a world on, at most so many bits more, and nothing else that matters. -/
structure Out (W base a k : Nat) (w w' : World) : Prop where
  ok : ∃ a', Wn w' W base a' ∧ a ≤ a' ∧ a' ≤ a + k
  below : Below W w w'
  away : Away W w w'
theorem Out.refl {w : World} {W base a : Nat} (h : Wn w W base a) (k : Nat) : Out W base a k w w := ⟨⟨a, h, Nat.le_refl _, Nat.le_add_right _ _⟩, Below.refl _ _, Away.refl _ _⟩
theorem Out.mono {W base a k k' : Nat} {w w' : World} (h : Out W base a k w w') (hk : k ≤ k') : Out W base a k' w w' := by
  obtain ⟨a', h1, h2, h3⟩ := h.ok
  exact ⟨⟨a', h1, h2, by omega⟩, h.below, h.away⟩
theorem Out.trans {W base a k : Nat} {w w1 : World} (h : Out W base a k w w1) {j : Nat} {w2 : World} (n : ∀ a1, Wn w1 W base a1 → a ≤ a1 → a1 ≤ a + k → Out W base a1 j w1 w2) : Out W base a (k + j) w w2 := by
  obtain ⟨a', h1, h2, h3⟩ := h.ok
  have g := n a' h1 h2 h3
  obtain ⟨a2, g1, g2, g3⟩ := g.ok
  exact ⟨⟨a2, g1, by omega, by omega⟩, h.below.trans g.below, h.away.trans g.away⟩
theorem Out.step {W base a k a1 j : Nat} {w w1 w2 : World} (h : Out W base a k w w1) (ge : a ≤ a1) (le : a1 ≤ a + k) (g : Out W base a1 j w1 w2) : Out W base a (k + j) w w2 := by
  obtain ⟨a2, g1, g2, g3⟩ := g.ok
  exact ⟨⟨a2, g1, by omega, by omega⟩, h.below.trans g.below, h.away.trans g.away⟩
theorem Away.below {W : Nat} {w w' : World} (hb : Below w.heap.size w w') : Away W w w' := fun k cs t fz _ h2 _ => hb.block k (lt_of_heap h2)
theorem Out.later {W base a k : Nat} {w w1 w2 : World} (h : Out W base a k w w1) (hb : Below w1.heap.size w1 w2) : Out W base a k w w2 := by
  obtain ⟨a', h1, h2, h3⟩ := h.ok
  exact ⟨⟨a', h1.below hb, h2, h3⟩, h.below.trans (hb.mono (Nat.le_of_lt h1.lt)), h.away.trans (Away.below hb)⟩
theorem Out.ahead {W base a k : Nat} {w w1 w2 : World} (hW : W < w.heap.size) (hb : Below w.heap.size w w1) (h : Out W base a k w1 w2) : Out W base a k w w2 :=
  ⟨h.ok, (hb.mono (Nat.le_of_lt hW)).trans h.below, (Away.below hb).trans h.away⟩
/-- A block of other than bytes is as it was. -/
theorem Out.row {W base a k : Nat} {w w1 : World} (h : Out W base a k w w1) {b : Nat} {cs : Array Value} {t : TypeId} {fz : Nat × Nat} (hc : w.heap[b]? = some (.cells cs t fz)) (hb : b ≠ W) (ht : t ≠ 5) : w1.heap[b]? = some (.cells cs t fz) := (h.away b cs t fz hb hc ht).trans hc
theorem word_n (W base a n : Nat) (v : Int) (h0 : 0 ≤ v) (h1 : v ≤ 1000000) (hn : n ≤ 20) (ha : a ≤ 100000) (w : World) (h : Wn w W base a) :
    Calls Tryd.prog 33 #[.pointer (some ⟨W, 0, none⟩), .int .i64 v, .int .i64 n] w fun e w' => e = .returned (.tuple #[]) ∧ Out W base a n w w' := by
  obtain ⟨L, hr⟩ := h
  refine (word_any' W base a n v L h0 h1 hn ha w hr).mono ?_
  rintro e w' ⟨rfl, h1, h2, h3⟩
  exact ⟨rfl, ⟨⟨a + n, ⟨_, h1⟩, Nat.le_add_right _ _, Nat.le_refl _⟩, h2, h3⟩⟩
theorem part_nat : ∀ q : Fin 21, partL.getD q.val 0 = ((partL.getD q.val 0).toNat : Int) ∧ (partL.getD q.val 0).toNat < 4 := by decide
set_option maxRecDepth 100000 in
set_option maxHeartbeats 4000000 in
theorem factors_gen (W base a : Nat) (S M : Nat → Int) (mm : Array Value) (g c : Nat) (hg : g < 2) (hok : g = 0 ∨ shortB S g c = true) (hc : c < 2) (x0 : 0 ≤ S (22 + g * 2 + c)) (x1 : S (22 + g * 2 + c) ≤ 15) (hmm : ∀ j, j < 244 → mm[j]? = some (.int .i64 (M j))) (hM : ∀ j, j < 244 → 0 ≤ M j ∧ M j ≤ 15) (ha : a ≤ 50000) (w : World) (h : Wn w W base a) :
    Calls Tryd.prog 29 #[.pointer (some ⟨W, 0, none⟩), .agg (numL 86 S).toArray, .agg mm, .int .i64 g, .int .i64 c] w fun e w' => e = .returned (.tuple #[]) ∧ Out W base a 200 w w' := by
  obtain ⟨w2, hw2⟩ : ∃ w2, w2 = (w.alloc (.cells (numL 86 S).toArray 47)).alloc (.cells mm 58) := ⟨_, rfl⟩
  have hW := h.lt
  have hb2 : Below w.heap.size w w2 := hw2 ▸ stpA (stpA (stp0 w) _) _
  have k1 : w2.heap[w.heap.size]? = some (.cells (numL 86 S).toArray 47 (0, 0)) := by rw [hw2, heap_alloc_old _ _ (by simp), heap_alloc_last]
  have k2 : w2.heap[w.heap.size + 1]? = some (.cells mm 58 (0, 0)) := by rw [hw2]; have := heap_alloc_last (w.alloc (.cells (numL 86 S).toArray 47)) (.cells mm 58); simpa using this
  have cS : ∀ wr, Out W base a 200 w2 wr → ∀ j, j < 86 → wr.cell? ⟨w.heap.size, j, none⟩ = some (.int .i64 (S j)) := fun wr ho j hj => by
    rw [cell_of_row wr _ j _ _ _ (ho.row k1 (by omega) (by decide)), List.getElem?_toArray]; exact numL_at 86 S j hj
  have cM : ∀ wr, Out W base a 200 w2 wr → ∀ j, j < 244 → wr.cell? ⟨w.heap.size + 1, j, none⟩ = some (.int .i64 (M j)) := fun wr ho j hj => by
    rw [cell_of_row wr _ j _ _ _ (ho.row k2 (by omega) (by decide))]; exact hmm j hj
  have o2 : Out W base a 200 w2 w2 := Out.refl (h.below hb2) 200
  have c22 := cS w2 o2 (22 + g * 2 + c) (by omega)
  have fin : ∀ wr, Out W base a 200 w2 wr → Out W base a 200 w wr := fun wr ho => Out.ahead hW hb2 ho
  obtain ⟨x, hx⟩ : ∃ x, x = S (22 + g * 2 + c) := ⟨_, rfl⟩
  rw [← hx] at c22 x0 x1
  obtain ⟨l1, l2⟩ := lens_le x x0 x1
  have H2 := Lib.hid (h.below hb2)
  have HS := Lib.hid cS
  have HM := Lib.hid cM
  have HF := Lib.hid fin
  have HB := Lib.hid hM
  have ig0 : (0 : Int) ≤ (g : Int) := by omega
  have ig1 : (g : Int) < 2 := by omega
  have ic0 : (0 : Int) ≤ (c : Int) := by omega
  have ic1 : (c : Int) < 2 := by omega
  have HK := Lib.hid k1
  rw [hw2] at c22
  have HW2 := Lib.hid hw2
  clear hw2 hb2 k1 k2 cS cM o2 fin h hx hM hmm
  go_enter Tryd.func29, Tryd.ntmps29
  go_wp2_with fail
  rw [← HW2.out]
  clear c22
  refine (lens_any x x0 x1 _).mono ?_
  rintro e w3 ⟨rfl, hb3⟩
  have O3 := Lib.hid ((Out.refl H2.out 0).later hb3)
  have HR := Lib.hid (show w3.rangeAt w.heap.size 0 (numL 86 S) from numL_range fun j hj => by rw [Nat.zero_add]; exact HS.out w3 (O3.out.mono (by omega)) j hj)
  clear hb3
  go_wp2_with (refine wpList_load_mid rfl 47 (.tmp 6) rfl w.heap.size 0 rfl (numL 86 S) _ HR.out Tryd.underlying47 rfl (by rw [numL_len]; kernel_rfl) ?_)
  refine (short_any S g c hg hc _).mono ?_
  rintro e w4 ⟨rfl, hb4⟩
  have O4 := Lib.hid (O3.out.later hb4)
  clear hb4 HR O3
  have c34 := HS.out w4 (O4.out.mono (by omega)) (34 + g * 2 + c) (by omega)
  obtain ⟨la, hla⟩ : ∃ la : Nat, la = lenA x := ⟨_, rfl⟩
  obtain ⟨lb, hlb⟩ : ∃ lb : Nat, lb = lenB x := ⟨_, rfl⟩
  rw [← hla] at l1 ⊢
  rw [← hlb] at l2 ⊢
  clear hla hlb
  cases hs : shortB S g c
  · have hg0 : g = 0 := by
      rcases hok with q | q
      · exact q
      · rw [hs] at q; cases q
    have DG := Lib.hid (show ((g : Int) == 1) = false from beq_eq_false_iff_ne.2 (by omega))
    clear hg0 hok
    go_wp2_with fail
    clear c34
    go_loopw [91] (fun x wr => ∃ q : Nat, q ≤ 21 ∧ x = .int .i64 q ∧ Hid (Out W base a (4 * q) w2 wr)) (fun x _ => 21 - (intOf x).toNat)
    case atStart => exact ⟨0, by omega, rfl, O4⟩
    case round =>
      clear O4
      obtain ⟨q, hq, rfl, H5⟩ := hrel
      by_cases hlt3 : q < 21
      · have d3 : decide ((q : Int) < 21) = true := decide_eq_true (by omega)
        have iq0 : (0 : Int) ≤ (q : Int) := by omega
        have iq1 : (q : Int) < 21 := by omega
        have iq2 : (q : Int) < 22 := by omega
        have cp := part_cell wr q hlt3
        obtain ⟨pn, hpn⟩ : ∃ pn, pn = (partL.getD q 0).toNat := ⟨_, rfl⟩
        have pq := part_nat ⟨q, hlt3⟩
        simp only [] at pq
        rw [← hpn] at pq
        rw [pq.1] at cp
        have ip0 : (0 : Int) ≤ (pn : Int) := by omega
        have ip1 : (pn : Int) < 4 := by omega
        have ip2 := pq.2
        clear pq hpn
        have H6 := Lib.hid (H5.out.later (stpA (stp0 wr) (.cells #[.int .i64 0, .int .i64 0, .int .i64 0, .int .i64 0, .int .i64 0, .int .i64 0, .int .i64 1, .int .i64 1, .int .i64 1, .int .i64 1, .int .i64 1, .int .i64 2, .int .i64 2, .int .i64 2, .int .i64 2, .int .i64 2, .int .i64 3, .int .i64 3, .int .i64 3, .int .i64 3, .int .i64 3] 3)))
        clear H5
        have dg := DG.out
        by_cases h11 : q < 11
        · have i11 : (q : Int) < 11 := by omega
          have cv := HM.out _ (H6.out.mono (by omega)) (g * 44 + c * 22 + q) (by omega)
          obtain ⟨v, hv⟩ : ∃ v, v = M (g * 44 + c * 22 + q) := ⟨_, rfl⟩
          have vb := HB.out (g * 44 + c * 22 + q) (by omega)
          rw [← hv] at cv vb
          obtain ⟨v0, v1⟩ := vb
          clear hv
          obtain ⟨a1, hw1, ge1, le1⟩ := H6.out.ok
          have HW1 := Lib.hid hw1
          clear hw1
          go_wp2_with fail
          refine (word_n W base a1 la v v0 (by omega) (by omega) (by omega) _ HW1.out).mono ?_
          rintro e w7 ⟨rfl, ho7⟩
          have H7 := Lib.hid (H6.out.step ge1 le1 ho7)
          clear ho7 cv
          go_wp2_with fail
          exact ⟨⟨q + 1, by omega, by go_num, Lib.hid (H7.out.mono (by omega))⟩, by simp [intOf]; omega⟩
        · have i11 : (11 : Int) ≤ (q : Int) := by omega
          have cv := HM.out _ (H6.out.mono (by omega)) (g * 44 + c * 22 + q) (by omega)
          obtain ⟨v, hv⟩ : ∃ v, v = M (g * 44 + c * 22 + q) := ⟨_, rfl⟩
          have vb := HB.out (g * 44 + c * 22 + q) (by omega)
          rw [← hv] at cv vb
          obtain ⟨v0, v1⟩ := vb
          clear hv
          obtain ⟨a1, hw1, ge1, le1⟩ := H6.out.ok
          have HW1 := Lib.hid hw1
          clear hw1
          go_wp2_with fail
          refine (word_n W base a1 lb v v0 (by omega) (by omega) (by omega) _ HW1.out).mono ?_
          rintro e w7 ⟨rfl, ho7⟩
          have H7 := Lib.hid (H6.out.step ge1 le1 ho7)
          clear ho7 cv
          go_wp2_with fail
          exact ⟨⟨q + 1, by omega, by go_num, Lib.hid (H7.out.mono (by omega))⟩, by simp [intOf]; omega⟩
      · obtain rfl : q = 21 := by omega
        rw [show ((21 : Nat) : Int) = 21 from rfl]
        go_wp2_with fail
        go_returns
        exact ⟨rfl, HF.out _ (H5.out.mono (by omega))⟩
  · obtain ⟨mx, hmx⟩ : ∃ mx, mx = S (34 + g * 2 + c) := ⟨_, rfl⟩
    rw [← hmx] at c34
    clear hmx
    by_cases hm1 : mx = 1
    · have dm : (mx == 1) = true := beq_iff_eq.2 hm1
      clear hm1
      go_wp2_with fail
      clear c34
      go_loopw [39] (fun x wr => ∃ q : Nat, q ≤ 8 ∧ x = .int .i64 q ∧ Hid (Out W base a (4 * q) w2 wr)) (fun x _ => 8 - (intOf x).toNat)
      case atStart => exact ⟨0, by omega, rfl, O4⟩
      case round =>
        clear O4
        obtain ⟨q, hq, rfl, H5⟩ := hrel
        by_cases hlt3 : q < 8
        · have d3 : decide ((q : Int) < 8) = true := decide_eq_true (by omega)
          have iq0 : (0 : Int) ≤ (q : Int) := by omega
          have iq2 : (q : Int) < 22 := by omega
          have cv := HM.out _ (H5.out.mono (by omega)) (g * 44 + c * 22 + q) (by omega)
          obtain ⟨v, hv⟩ : ∃ v, v = M (g * 44 + c * 22 + q) := ⟨_, rfl⟩
          have vb := HB.out (g * 44 + c * 22 + q) (by omega)
          rw [← hv] at cv vb
          obtain ⟨v0, v1⟩ := vb
          clear hv
          obtain ⟨a1, hw1, ge1, le1⟩ := H5.out.ok
          have HW1 := Lib.hid hw1
          clear hw1
          go_wp2_with fail
          refine (word_n W base a1 la v v0 (by omega) (by omega) (by omega) _ HW1.out).mono ?_
          rintro e w7 ⟨rfl, ho7⟩
          have H7 := Lib.hid (H5.out.step ge1 le1 ho7)
          clear ho7 cv
          go_wp2_with fail
          exact ⟨⟨q + 1, by omega, by go_num, Lib.hid (H7.out.mono (by omega))⟩, by simp [intOf]; omega⟩
        · obtain rfl : q = 8 := by omega
          rw [show ((8 : Nat) : Int) = 8 from rfl]
          have O4 := H5
          clear H5
          go_wp2_with fail
          go_loopw [14] (fun x wr => ∃ k : Nat, 3 ≤ k ∧ k ≤ 12 ∧ x = .int .i64 k ∧ Hid (Out W base a (32 + 12 * (k - 3)) w2 wr)) (fun x _ => 12 - (intOf x).toNat)
          case atStart => exact ⟨3, by omega, by omega, rfl, Lib.hid (O4.out.mono (by omega))⟩
          case round =>
            clear O4
            obtain ⟨k, hk0, hk, rfl, H5⟩ := hrel
            by_cases hlt : k < 12
            · have d1 : decide ((k : Int) < 12) = true := decide_eq_true (by omega)
              have ik0 : (0 : Int) ≤ (k : Int) := by omega
              have ik1 : (k : Int) < 13 := by omega
              go_wp2_with fail
              go_loopw [59] (fun x wr => ∃ y : Nat, y ≤ 3 ∧ x = .int .i64 y ∧ Hid (Out W base a (32 + 12 * (k - 3) + 4 * y) w2 wr)) (fun x _ => 3 - (intOf x).toNat)
              case atStart => exact ⟨0, by omega, rfl, H5⟩
              case round =>
                clear H5
                obtain ⟨y, hy, rfl, H6⟩ := hrel
                by_cases hlt2 : y < 3
                · have d2 : decide ((y : Int) < 3) = true := decide_eq_true (by omega)
                  have iy0 : (0 : Int) ≤ (y : Int) := by omega
                  have iy1 : (y : Int) < 3 := by omega
                  by_cases h6 : k < 6
                  · have i6 : (k : Int) < 6 := by omega
                    have cv := HM.out _ (H6.out.mono (by omega)) (88 + g * 78 + c * 39 + k * 3 + y) (by omega)
                    obtain ⟨v, hv⟩ : ∃ v, v = M (88 + g * 78 + c * 39 + k * 3 + y) := ⟨_, rfl⟩
                    have vb := HB.out (88 + g * 78 + c * 39 + k * 3 + y) (by omega)
                    rw [← hv] at cv vb
                    obtain ⟨v0, v1⟩ := vb
                    clear hv
                    obtain ⟨a1, hw1, ge1, le1⟩ := H6.out.ok
                    have HW1 := Lib.hid hw1
                    clear hw1
                    go_wp2_with fail
                    refine (word_n W base a1 la v v0 (by omega) (by omega) (by omega) _ HW1.out).mono ?_
                    rintro e w7 ⟨rfl, ho7⟩
                    have H7 := Lib.hid (H6.out.step ge1 le1 ho7)
                    clear ho7 cv
                    go_wp2_with fail
                    exact ⟨⟨y + 1, by omega, by go_num, Lib.hid (H7.out.mono (by omega))⟩, by simp [intOf]; omega⟩
                  · have i6 : (6 : Int) ≤ (k : Int) := by omega
                    have cv := HM.out _ (H6.out.mono (by omega)) (88 + g * 78 + c * 39 + k * 3 + y) (by omega)
                    obtain ⟨v, hv⟩ : ∃ v, v = M (88 + g * 78 + c * 39 + k * 3 + y) := ⟨_, rfl⟩
                    have vb := HB.out (88 + g * 78 + c * 39 + k * 3 + y) (by omega)
                    rw [← hv] at cv vb
                    obtain ⟨v0, v1⟩ := vb
                    clear hv
                    obtain ⟨a1, hw1, ge1, le1⟩ := H6.out.ok
                    have HW1 := Lib.hid hw1
                    clear hw1
                    go_wp2_with fail
                    refine (word_n W base a1 lb v v0 (by omega) (by omega) (by omega) _ HW1.out).mono ?_
                    rintro e w7 ⟨rfl, ho7⟩
                    have H7 := Lib.hid (H6.out.step ge1 le1 ho7)
                    clear ho7 cv
                    go_wp2_with fail
                    exact ⟨⟨y + 1, by omega, by go_num, Lib.hid (H7.out.mono (by omega))⟩, by simp [intOf]; omega⟩
                · obtain rfl : y = 3 := by omega
                  rw [show ((3 : Nat) : Int) = 3 from rfl]
                  go_wp2_with fail
                  exact ⟨⟨k + 1, by omega, by omega, by go_num, Lib.hid (H6.out.mono (by omega))⟩, by simp [intOf]; omega⟩
            · obtain rfl : k = 12 := by omega
              rw [show ((12 : Nat) : Int) = 12 from rfl]
              go_wp2_with fail
              go_returns
              exact ⟨rfl, HF.out _ (H5.out.mono (by omega))⟩
    · have dm : (mx == 1) = false := beq_eq_false_iff_ne.2 hm1
      clear hm1
      go_wp2_with fail
      clear c34
      go_loopw [14] (fun x wr => ∃ k : Nat, 0 ≤ k ∧ k ≤ 12 ∧ x = .int .i64 k ∧ Hid (Out W base a (0 + 12 * (k - 0)) w2 wr)) (fun x _ => 12 - (intOf x).toNat)
      case atStart => exact ⟨0, by omega, by omega, rfl, Lib.hid (O4.out.mono (by omega))⟩
      case round =>
        clear O4
        obtain ⟨k, hk0, hk, rfl, H5⟩ := hrel
        by_cases hlt : k < 12
        · have d1 : decide ((k : Int) < 12) = true := decide_eq_true (by omega)
          have ik0 : (0 : Int) ≤ (k : Int) := by omega
          have ik1 : (k : Int) < 13 := by omega
          go_wp2_with fail
          go_loopw [59] (fun x wr => ∃ y : Nat, y ≤ 3 ∧ x = .int .i64 y ∧ Hid (Out W base a (0 + 12 * (k - 0) + 4 * y) w2 wr)) (fun x _ => 3 - (intOf x).toNat)
          case atStart => exact ⟨0, by omega, rfl, H5⟩
          case round =>
            clear H5
            obtain ⟨y, hy, rfl, H6⟩ := hrel
            by_cases hlt2 : y < 3
            · have d2 : decide ((y : Int) < 3) = true := decide_eq_true (by omega)
              have iy0 : (0 : Int) ≤ (y : Int) := by omega
              have iy1 : (y : Int) < 3 := by omega
              by_cases h6 : k < 6
              · have i6 : (k : Int) < 6 := by omega
                have cv := HM.out _ (H6.out.mono (by omega)) (88 + g * 78 + c * 39 + k * 3 + y) (by omega)
                obtain ⟨v, hv⟩ : ∃ v, v = M (88 + g * 78 + c * 39 + k * 3 + y) := ⟨_, rfl⟩
                have vb := HB.out (88 + g * 78 + c * 39 + k * 3 + y) (by omega)
                rw [← hv] at cv vb
                obtain ⟨v0, v1⟩ := vb
                clear hv
                obtain ⟨a1, hw1, ge1, le1⟩ := H6.out.ok
                have HW1 := Lib.hid hw1
                clear hw1
                go_wp2_with fail
                refine (word_n W base a1 la v v0 (by omega) (by omega) (by omega) _ HW1.out).mono ?_
                rintro e w7 ⟨rfl, ho7⟩
                have H7 := Lib.hid (H6.out.step ge1 le1 ho7)
                clear ho7 cv
                go_wp2_with fail
                exact ⟨⟨y + 1, by omega, by go_num, Lib.hid (H7.out.mono (by omega))⟩, by simp [intOf]; omega⟩
              · have i6 : (6 : Int) ≤ (k : Int) := by omega
                have cv := HM.out _ (H6.out.mono (by omega)) (88 + g * 78 + c * 39 + k * 3 + y) (by omega)
                obtain ⟨v, hv⟩ : ∃ v, v = M (88 + g * 78 + c * 39 + k * 3 + y) := ⟨_, rfl⟩
                have vb := HB.out (88 + g * 78 + c * 39 + k * 3 + y) (by omega)
                rw [← hv] at cv vb
                obtain ⟨v0, v1⟩ := vb
                clear hv
                obtain ⟨a1, hw1, ge1, le1⟩ := H6.out.ok
                have HW1 := Lib.hid hw1
                clear hw1
                go_wp2_with fail
                refine (word_n W base a1 lb v v0 (by omega) (by omega) (by omega) _ HW1.out).mono ?_
                rintro e w7 ⟨rfl, ho7⟩
                have H7 := Lib.hid (H6.out.step ge1 le1 ho7)
                clear ho7 cv
                go_wp2_with fail
                exact ⟨⟨y + 1, by omega, by go_num, Lib.hid (H7.out.mono (by omega))⟩, by simp [intOf]; omega⟩
            · obtain rfl : y = 3 := by omega
              rw [show ((3 : Nat) : Int) = 3 from rfl]
              go_wp2_with fail
              exact ⟨⟨k + 1, by omega, by omega, by go_num, Lib.hid (H6.out.mono (by omega))⟩, by simp [intOf]; omega⟩
        · obtain rfl : k = 12 := by omega
          rw [show ((12 : Nat) : Int) = 12 from rfl]
          go_wp2_with fail
          go_returns
          exact ⟨rfl, HF.out _ (H5.out.mono (by omega))⟩
set_option maxRecDepth 100000 in
set_option maxHeartbeats 4000000 in
theorem factors_one (W base a : Nat) (S M : Nat → Int) (mm : Array Value) (c : Nat) (hc : c < 2) (hs1 : shortB S 1 c = false) (x0 : 0 ≤ S (24 + c)) (x1 : S (24 + c) ≤ 15) (hmm : ∀ j, j < 244 → mm[j]? = some (.int .i64 (M j))) (hM : ∀ j, j < 244 → 0 ≤ M j ∧ M j ≤ 15) (ha : a ≤ 50000) (w : World) (h : Wn w W base a) :
    Calls Tryd.prog 29 #[.pointer (some ⟨W, 0, none⟩), .agg (numL 86 S).toArray, .agg mm, .int .i64 1, .int .i64 c] w fun e w' => e = .returned (.tuple #[]) ∧ Out W base a 200 w w' := by
  obtain ⟨w2, hw2⟩ : ∃ w2, w2 = (w.alloc (.cells (numL 86 S).toArray 47)).alloc (.cells mm 58) := ⟨_, rfl⟩
  have hW := h.lt
  have hb2 : Below w.heap.size w w2 := hw2 ▸ stpA (stpA (stp0 w) _) _
  have k1 : w2.heap[w.heap.size]? = some (.cells (numL 86 S).toArray 47 (0, 0)) := by rw [hw2, heap_alloc_old _ _ (by simp), heap_alloc_last]
  have k2 : w2.heap[w.heap.size + 1]? = some (.cells mm 58 (0, 0)) := by rw [hw2]; have := heap_alloc_last (w.alloc (.cells (numL 86 S).toArray 47)) (.cells mm 58); simpa using this
  have cS : ∀ wr, Out W base a 200 w2 wr → ∀ j, j < 86 → wr.cell? ⟨w.heap.size, j, none⟩ = some (.int .i64 (S j)) := fun wr ho j hj => by
    rw [cell_of_row wr _ j _ _ _ (ho.row k1 (by omega) (by decide)), List.getElem?_toArray]; exact numL_at 86 S j hj
  have cM : ∀ wr, Out W base a 200 w2 wr → ∀ j, j < 244 → wr.cell? ⟨w.heap.size + 1, j, none⟩ = some (.int .i64 (M j)) := fun wr ho j hj => by
    rw [cell_of_row wr _ j _ _ _ (ho.row k2 (by omega) (by decide))]; exact hmm j hj
  have o2 : Out W base a 200 w2 w2 := Out.refl (h.below hb2) 200
  have c22 := cS w2 o2 (24 + c) (by omega)
  have fin : ∀ wr, Out W base a 200 w2 wr → Out W base a 200 w wr := fun wr ho => Out.ahead hW hb2 ho
  obtain ⟨x, hx⟩ : ∃ x, x = S (24 + c) := ⟨_, rfl⟩
  rw [← hx] at c22 x0 x1
  obtain ⟨l1, l2⟩ := lens_le x x0 x1
  have H2 := Lib.hid (h.below hb2)
  have HS := Lib.hid cS
  have HM := Lib.hid cM
  have HF := Lib.hid fin
  have HB := Lib.hid hM
  have ic0 : (0 : Int) ≤ (c : Int) := by omega
  have ic1 : (c : Int) < 2 := by omega
  have HK := Lib.hid k1
  rw [hw2] at c22
  have HW2 := Lib.hid hw2
  clear hw2 hb2 k1 k2 cS cM o2 fin h hx hM hmm
  go_enter Tryd.func29, Tryd.ntmps29
  go_wp2_with fail
  rw [← HW2.out]
  clear c22
  refine (lens_any x x0 x1 _).mono ?_
  rintro e w3 ⟨rfl, hb3⟩
  have O3 := Lib.hid ((Out.refl H2.out 0).later hb3)
  have HR := Lib.hid (show w3.rangeAt w.heap.size 0 (numL 86 S) from numL_range fun j hj => by rw [Nat.zero_add]; exact HS.out w3 (O3.out.mono (by omega)) j hj)
  clear hb3
  go_wp2_with (refine wpList_load_mid rfl 47 (.tmp 6) rfl w.heap.size 0 rfl (numL 86 S) _ HR.out Tryd.underlying47 rfl (by rw [numL_len]; kernel_rfl) ?_)
  refine (short_any S 1 c (by decide) hc _).mono ?_
  rintro e w4 ⟨rfl, hb4⟩
  have O4 := Lib.hid (O3.out.later hb4)
  clear hb4 HR O3
  have c34 := HS.out w4 (O4.out.mono (by omega)) (36 + c) (by omega)
  obtain ⟨la, hla⟩ : ∃ la : Nat, la = lenA x := ⟨_, rfl⟩
  obtain ⟨lb, hlb⟩ : ∃ lb : Nat, lb = lenB x := ⟨_, rfl⟩
  rw [← hla] at l1 ⊢
  rw [← hlb] at l2 ⊢
  clear hla hlb
  rw [hs1]
  go_wp2_with fail
  clear c34
  go_loopw [91] (fun x wr => ∃ q : Nat, q ≤ 21 ∧ x = .int .i64 q ∧ Hid (Out W base a (4 * q) w2 wr)) (fun x _ => 21 - (intOf x).toNat)
  case atStart => exact ⟨0, by omega, rfl, O4⟩
  case round =>
    clear O4
    obtain ⟨q, hq, rfl, H5⟩ := hrel
    by_cases hlt3 : q < 21
    · have d3 : decide ((q : Int) < 21) = true := decide_eq_true (by omega)
      have iq0 : (0 : Int) ≤ (q : Int) := by omega
      have iq1 : (q : Int) < 21 := by omega
      have iq2 : (q : Int) < 22 := by omega
      have cp := part_cell wr q hlt3
      obtain ⟨pn, hpn⟩ : ∃ pn, pn = (partL.getD q 0).toNat := ⟨_, rfl⟩
      have pq := part_nat ⟨q, hlt3⟩
      simp only [] at pq
      rw [← hpn] at pq
      rw [pq.1] at cp
      have ip0 : (0 : Int) ≤ (pn : Int) := by omega
      have ip1 : (pn : Int) < 4 := by omega
      have ip2 := pq.2
      clear pq hpn
      have H6 := Lib.hid (H5.out.later (stpA (stp0 wr) (.cells #[.int .i64 0, .int .i64 0, .int .i64 0, .int .i64 0, .int .i64 0, .int .i64 0, .int .i64 1, .int .i64 1, .int .i64 1, .int .i64 1, .int .i64 1, .int .i64 2, .int .i64 2, .int .i64 2, .int .i64 2, .int .i64 2, .int .i64 3, .int .i64 3, .int .i64 3, .int .i64 3, .int .i64 3] 3)))
      clear H5
      have cz := HS.out _ (H6.out.mono (by omega)) (2 + c * 4 + pn) (by omega)
      obtain ⟨z, hz⟩ : ∃ z, z = S (2 + c * 4 + pn) := ⟨_, rfl⟩
      rw [← hz] at cz
      clear hz
      by_cases hz1 : z = 1
      · have dz : (z == 1) = true := beq_iff_eq.2 hz1
        clear hz1
        go_wp2_with fail
        exact ⟨⟨q + 1, by omega, by go_num, Lib.hid (H6.out.mono (by omega))⟩, by simp [intOf]; omega⟩
      · have dz : (z == 1) = false := beq_eq_false_iff_ne.2 hz1
        clear hz1
        by_cases h11 : q < 11
        · have i11 : (q : Int) < 11 := by omega
          have cv := HM.out _ (H6.out.mono (by omega)) (44 + c * 22 + q) (by omega)
          obtain ⟨v, hv⟩ : ∃ v, v = M (44 + c * 22 + q) := ⟨_, rfl⟩
          have vb := HB.out (44 + c * 22 + q) (by omega)
          rw [← hv] at cv vb
          obtain ⟨v0, v1⟩ := vb
          clear hv
          obtain ⟨a1, hw1, ge1, le1⟩ := H6.out.ok
          have HW1 := Lib.hid hw1
          clear hw1
          go_wp2_with fail
          refine (word_n W base a1 la v v0 (by omega) (by omega) (by omega) _ HW1.out).mono ?_
          rintro e w7 ⟨rfl, ho7⟩
          have H7 := Lib.hid (H6.out.step ge1 le1 ho7)
          clear ho7 cv
          go_wp2_with fail
          exact ⟨⟨q + 1, by omega, by go_num, Lib.hid (H7.out.mono (by omega))⟩, by simp [intOf]; omega⟩
        · have i11 : (11 : Int) ≤ (q : Int) := by omega
          have cv := HM.out _ (H6.out.mono (by omega)) (44 + c * 22 + q) (by omega)
          obtain ⟨v, hv⟩ : ∃ v, v = M (44 + c * 22 + q) := ⟨_, rfl⟩
          have vb := HB.out (44 + c * 22 + q) (by omega)
          rw [← hv] at cv vb
          obtain ⟨v0, v1⟩ := vb
          clear hv
          obtain ⟨a1, hw1, ge1, le1⟩ := H6.out.ok
          have HW1 := Lib.hid hw1
          clear hw1
          go_wp2_with fail
          refine (word_n W base a1 lb v v0 (by omega) (by omega) (by omega) _ HW1.out).mono ?_
          rintro e w7 ⟨rfl, ho7⟩
          have H7 := Lib.hid (H6.out.step ge1 le1 ho7)
          clear ho7 cv
          go_wp2_with fail
          exact ⟨⟨q + 1, by omega, by go_num, Lib.hid (H7.out.mono (by omega))⟩, by simp [intOf]; omega⟩
    · obtain rfl : q = 21 := by omega
      rw [show ((21 : Nat) : Int) = 21 from rfl]
      go_wp2_with fail
      go_returns
      exact ⟨rfl, HF.out _ (H5.out.mono (by omega))⟩
theorem factors_any (W base a : Nat) (S M : Nat → Int) (mm : Array Value) (g c : Nat) (hg : g < 2) (hc : c < 2) (x0 : 0 ≤ S (22 + g * 2 + c)) (x1 : S (22 + g * 2 + c) ≤ 15) (hmm : ∀ j, j < 244 → mm[j]? = some (.int .i64 (M j))) (hM : ∀ j, j < 244 → 0 ≤ M j ∧ M j ≤ 15) (ha : a ≤ 50000) (w : World) (h : Wn w W base a) :
    Calls Tryd.prog 29 #[.pointer (some ⟨W, 0, none⟩), .agg (numL 86 S).toArray, .agg mm, .int .i64 g, .int .i64 c] w fun e w' => e = .returned (.tuple #[]) ∧ Out W base a 200 w w' := by
  by_cases hok : g = 0 ∨ shortB S g c = true
  · exact factors_gen W base a S M mm g c hg hok hc x0 x1 hmm hM ha w h
  · obtain rfl : g = 1 := by omega
    exact factors_one W base a S M mm c hc (by cases q : shortB S 1 c; rfl; exact absurd (.inr q) hok) (by rw [show 24 + c = 22 + 1 * 2 + c by omega]; exact x0) (by rw [show 24 + c = 22 + 1 * 2 + c by omega]; exact x1) hmm hM ha w h
end Go.Proofs.YtppfldobgemddaaDoor
namespace Go.Proofs.YtppfldobgemddaaDoor
open Go.RowKit
set_option linter.unusedVariables false

/-- A string of at most so many noughts and ones. -/
def BitsS (n : Nat) (s : ByteArray) : Prop := s.size ≤ n ∧ ∀ i (h : i < s.size), (s[i]).toNat = 48 ∨ (s[i]).toNat = 49
set_option maxRecDepth 100000 in
set_option maxHeartbeats 1000000 in
theorem code_any (W base a n : Nat) (s : ByteArray) (hs : BitsS n s) (hn : n ≤ 20) (ha : a ≤ 90000) (w : World) (h : Wn w W base a) :
    Calls Tryd.prog 46 #[.pointer (some ⟨W, 0, none⟩), .string s] w fun e w' => e = .returned (.tuple #[]) ∧ Out W base a n w w' := by
  have H := Lib.hid (Out.refl h 0)
  obtain ⟨m, hm⟩ : ∃ m, m = s.size := ⟨_, rfl⟩
  have hmn : m ≤ n := hm ▸ hs.1
  have hidx : ∀ k, k < m → ∃ z : Int, (z = 0 ∨ z = 1) ∧ ∀ w, (Instr.index 9 (.string s) (.int .i64 (k : Int))).run Tryd.prog w = .ok (.int .u8 (48 + z)) w := by
    intro k hk
    have hk' : k < s.size := by omega
    have key : ∀ w, (Instr.index 9 (.string s) (.int .i64 (k : Int))).run Tryd.prog w = .ok (.int .u8 ((s[k]'hk').toNat : Int)) w := by
      intro w
      rw [run_index_string w 9 s .i64 _ Tryd.underlying9, dif_pos ⟨by omega, by omega⟩]
      simp only [Int.toNat_natCast]
    rcases hs.2 k hk' with e | e
    · exact ⟨0, .inl rfl, fun w => by rw [key, e]; rfl⟩
    · exact ⟨1, .inr rfl, fun w => by rw [key, e]; rfl⟩
  have HI := Lib.hid hidx
  have HL := Lib.hid hm
  clear hidx hs h
  go_enter Tryd.func46, Tryd.ntmps46
  go_wp2_with fail
  rw [← hm]
  clear hm
  go_loopw [7] (fun x wr => ∃ k : Nat, k ≤ m ∧ x = .int .i64 k ∧ Hid (Out W base a k w wr)) (fun x _ => m - (intOf x).toNat)
  case atStart => exact ⟨0, by omega, rfl, H⟩
  case round =>
    clear H
    obtain ⟨k, hk, rfl, H⟩ := hrel
    by_cases hlt : k < m
    · have d1 : decide ((k : Int) < (m : Int)) = true := decide_eq_true (by omega)
      obtain ⟨z, hz, hix⟩ := HI.out k hlt
      have z0 : 0 ≤ z := by omega
      have z1 : z ≤ 1 := by omega
      have n1 : IntKind.u8.wrap (48 + z - 48) = z := by rcases hz with rfl | rfl <;> rfl
      obtain ⟨a1, hw1, ge1, le1⟩ := H.out.ok
      have HW1 := Lib.hid hw1
      clear hw1 hz
      go_wp2_with fail
      refine (word_n W base a1 1 z z0 (by omega) (by omega) (by omega) _ HW1.out).mono ?_
      rintro e w7 ⟨rfl, ho7⟩
      have H7 := Lib.hid (H.out.step ge1 le1 ho7)
      clear ho7
      go_wp2_with fail
      exact ⟨⟨k + 1, by omega, by go_num, H7⟩, by simp [intOf]; omega⟩
    · obtain rfl : k = m := by omega
      have d1 : decide ((k : Int) < (k : Int)) = false := decide_eq_false (by omega)
      go_wp2_with fail
      go_returns
      exact ⟨rfl, H.out.mono (by omega)⟩
set_option maxRecDepth 100000 in
set_option maxHeartbeats 1000000 in
/-- The sign of a number. -/
theorem sign_any (W base a p : Nat) (v : Int) (v0 : -100 ≤ v) (v1 : v ≤ 100) (ha : a ≤ 90000) (w : World) (h : Wn w W base a) (hp : w.cell? ⟨p, 0, none⟩ = some (.pointer (some ⟨W, 0, none⟩))) :
    Calls Tryd.prog 44 #[.int .i64 v, .pointer (some ⟨p, 0, none⟩)] w fun e w' => e = .returned (.tuple #[]) ∧ Out W base a 1 w w' := by
  have H := Lib.hid h
  by_cases h1 : v < 0
  · have d1 : decide (v < 0) = true := decide_eq_true h1
    clear h1
    go_enter Tryd.func44, Tryd.ntmps44
    go_wp2_with fail
    refine (word_n W base a 1 1 (by decide) (by decide) (by omega) (by omega) _ H.out).mono ?_
    rintro e w7 ⟨rfl, ho7⟩
    have H7 := Lib.hid ho7
    clear ho7
    go_wp2_with fail
    go_returns
    exact ⟨rfl, H7.out⟩
  · have d1 : decide (v < 0) = false := decide_eq_false h1
    by_cases h2 : 0 < v
    · have d2 : decide (0 < v) = true := decide_eq_true h2
      clear h1 h2
      go_enter Tryd.func44, Tryd.ntmps44
      go_wp2_with fail
      refine (word_n W base a 1 0 (by decide) (by decide) (by omega) (by omega) _ H.out).mono ?_
      rintro e w7 ⟨rfl, ho7⟩
      have H7 := Lib.hid ho7
      clear ho7
      go_wp2_with fail
      go_returns
      exact ⟨rfl, H7.out⟩
    · have d2 : decide (0 < v) = false := decide_eq_false h2
      clear h1 h2
      go_enter Tryd.func44, Tryd.ntmps44
      go_wp2_with fail
      go_returns
      exact ⟨rfl, Out.refl H.out 1⟩
end Go.Proofs.YtppfldobgemddaaDoor
namespace Go.Proofs.YtppfldobgemddaaDoor
open Go.RowKit
set_option linter.unusedVariables false

/-- Is it a string of noughts and ones? -/
def chkS (n : Nat) : Value → Bool
  | .string s => decide (s.size ≤ n) && s.data.all (fun b => b.toNat == 48 || b.toNat == 49)
  | _ => false
theorem chk_bits {n : Nat} {cs : Array Value} (h : cs.all (chkS n) = true) (j : Nat) (hj : j < cs.size) : ∃ s, cs[j]? = some (.string s) ∧ BitsS n s := by
  have hv := (Array.all_eq_true_iff_forall_mem.1 h) cs[j] (Array.getElem_mem hj)
  rw [Array.getElem?_eq_getElem hj]
  cases hc : cs[j] with
  | string s =>
    rw [hc] at hv
    simp only [chkS, Bool.and_eq_true, decide_eq_true_eq, Array.all_eq_true_iff_forall_mem] at hv
    refine ⟨s, rfl, hv.1, fun i hi => ?_⟩
    have this : s.data[i].toNat = 48 ∨ s.data[i].toNat = 49 := by simpa using hv.2 s.data[i] (Array.getElem_mem hi)
    exact this
  | _ => rw [hc] at hv; cases hv
/-- Codes in a block of the call's own. -/
def Codes (w : World) (lo : Nat) (k : Nat) (v : Value) : Prop :=
  ∃ b cap, v = .slice (some ⟨b, 0, none⟩) k cap ∧ lo ≤ b ∧ ∃ cs, w.heap[b]? = some (.cells cs 9 (0, 0)) ∧ ∀ j, j < k → ∃ s, cs[j]? = some (.string s) ∧ BitsS 12 s
theorem codes_new (w : World) (cs : Array Value) (k : Nat) (hk : cs.size = k) (h : cs.all (chkS 12) = true) : Codes (w.alloc (.cells cs 9)) w.heap.size k (.slice (some ⟨w.heap.size, 0, none⟩) k k) :=
  ⟨w.heap.size, k, rfl, Nat.le_refl _, cs, heap_alloc_last _ _, fun j hj => chk_bits h j (by omega)⟩
set_option maxRecDepth 100000 in
set_option maxHeartbeats 2000000 in
theorem codes_any (T : Int) (hT : TabOk T) (w : World) :
    Calls Tryd.prog 45 #[.int .i64 T] w fun e w' => ∃ v k, e = .returned (.tuple #[v, .int .i64 (topOf T + 1)]) ∧ Below w.heap.size w w' ∧ (∃ a n c, v = .slice a n c ∧ n = k) ∧ (k = 0 ∨ (k : Int) = (topOf T + 1) * (topOf T + 1) ∧ Codes w' w.heap.size k v) := by
  rcases hT with rfl | rfl | rfl | rfl | rfl | rfl | rfl
  · go_enter Tryd.func45, Tryd.ntmps45
    go_wp2_with fail
    go_ret2
    exact ⟨_, 0, rfl, stp0 w, ⟨_, _, _, rfl, rfl⟩, .inl rfl⟩
  · go_enter Tryd.func45, Tryd.ntmps45
    go_wp2_with fail
    go_ret2
    exact ⟨_, 4, rfl, stpA (stp0 w) _, ⟨_, _, _, rfl, rfl⟩, .inr ⟨rfl, codes_new w _ 4 rfl (by decide +kernel)⟩⟩
  · go_enter Tryd.func45, Tryd.ntmps45
    go_wp2_with fail
    go_ret2
    exact ⟨_, 9, rfl, stpA (stp0 w) _, ⟨_, _, _, rfl, rfl⟩, .inr ⟨rfl, codes_new w _ 9 rfl (by decide +kernel)⟩⟩
  · go_enter Tryd.func45, Tryd.ntmps45
    go_wp2_with fail
    go_ret2
    exact ⟨_, 9, rfl, stpA (stp0 w) _, ⟨_, _, _, rfl, rfl⟩, .inr ⟨rfl, codes_new w _ 9 rfl (by decide +kernel)⟩⟩
  · go_enter Tryd.func45, Tryd.ntmps45
    go_wp2_with fail
    go_ret2
    exact ⟨_, 16, rfl, stpA (stp0 w) _, ⟨_, _, _, rfl, rfl⟩, .inr ⟨rfl, codes_new w _ 16 rfl (by decide +kernel)⟩⟩
  · go_enter Tryd.func45, Tryd.ntmps45
    go_wp2_with fail
    go_ret2
    exact ⟨_, 16, rfl, stpA (stp0 w) _, ⟨_, _, _, rfl, rfl⟩, .inr ⟨rfl, codes_new w _ 16 rfl (by decide +kernel)⟩⟩
  · go_enter Tryd.func45, Tryd.ntmps45
    go_wp2_with fail
    go_ret2
    exact ⟨_, 36, rfl, stpA (stp0 w) _, ⟨_, _, _, rfl, rfl⟩, .inr ⟨rfl, codes_new w _ 36 rfl (by decide +kernel)⟩⟩
set_option maxRecDepth 100000 in
theorem back_val : ∀ i : Fin 11, floatToIntVal .f32 (floatOfInt .f32 ((i.val : Int) - 5)) .i64 = some ((i.val : Int) - 5) := by decide +kernel
theorem back_int (z : Int) (h0 : -5 ≤ z) (h1 : z ≤ 5) (w : World) : (convert 72 3 (.float .f32 (floatOfInt .f32 z))).run Tryd.prog w = .ok (.int .i64 z) w := by
  have h := back_val ⟨(z + 5).toNat, by omega⟩
  rw [show (((z + 5).toNat : Nat) : Int) - 5 = z by omega] at h
  exact run_convert_float_int w 72 3 .f32 .i64 _ z (by kernel_rfl) Tryd.underlying3 h
set_option maxRecDepth 100000 in
set_option maxHeartbeats 1000000 in
theorem at_any (p lb k n : Nat) (hk : k ≤ 1000) (hn : n ≤ 576) (top : Nat → Int) (htop : ∀ j, j < n → top j ≤ 5) (w : World) (hl : LinR w lb top n) (hp : w.cell? ⟨p, 0, none⟩ = some (.slice (some ⟨lb, 0, none⟩) 576 576)) :
    Calls Tryd.prog 43 #[.int .i64 k, .pointer (some ⟨p, 0, none⟩)] w fun e w' => w = w' ∧ ∃ z : Int, e = .returned (.int .i64 z) ∧ -5 ≤ z ∧ z ≤ 5 ∧ (k < n → -top k ≤ z ∧ z ≤ top k) ∧ (n ≤ k → z = 0) := by
  by_cases h5 : k < 576
  · obtain ⟨cs, hb, hs, hc⟩ := hl
    obtain ⟨z, hz, z1, z2⟩ := hc k h5
    have cz : w.cell? ⟨lb, k, none⟩ = some (.float .f32 (floatOfInt .f32 z)) := by rw [cell_of_row w lb k cs _ _ hb]; exact hz
    have zb : -5 ≤ z ∧ z ≤ 5 := by
      by_cases q : k < n
      · have := z1 q; have := htop k q; omega
      · have := z2 (by omega); omega
    have hbk := fun w => back_int z zb.1 zb.2 w
    obtain ⟨f, hf⟩ : ∃ f, f = floatOfInt .f32 z := ⟨_, rfl⟩
    rw [← hf] at cz hbk
    have d1 : decide ((k : Int) < 576) = true := decide_eq_true (by omega)
    have i1 : (k : Int) < 576 := by omega
    have HZ := Lib.hid (And.intro zb (And.intro z1 z2))
    clear hf hc hz hb hs z1 z2 zb htop
    go_enter Tryd.func43, Tryd.ntmps43
    go_wp2_with fail
    go_ret
    exact ⟨rfl, z, rfl, HZ.out.1.1, HZ.out.1.2, HZ.out.2.1, HZ.out.2.2⟩
  · have d1 : decide ((k : Int) < 576) = false := decide_eq_false (by omega)
    clear hl
    go_enter Tryd.func43, Tryd.ntmps43
    go_wp2_with fail
    go_ret
    exact ⟨rfl, 0, rfl, by decide, by decide, fun q => by omega, fun _ => rfl⟩
end Go.Proofs.YtppfldobgemddaaDoor
namespace Go.Proofs.YtppfldobgemddaaDoor
open Go.RowKit
set_option linter.unusedVariables false

theorem bits_add {n : Nat} {s t : ByteArray} (h : BitsS n s) (ht : t.size = 1) (hb : ∀ i (q : i < t.size), (t[i]).toNat = 48 ∨ (t[i]).toNat = 49) : BitsS (n + 1) (s ++ t) := by
  refine ⟨by rw [ByteArray.size_append]; have := h.1; omega, fun i hi => ?_⟩
  rw [ByteArray.size_append] at hi
  by_cases q : i < s.size
  · rw [ByteArray.getElem_append_left q]; exact h.2 i q
  · rw [ByteArray.getElem_append_right (by omega)]; exact hb _ _
theorem info9 : (Tryd.prog.info? 9).map (fun i => (i.zero, i.size, i.bytes)) = some (some (.string ⟨#[]⟩), 1, 16) := by kernel_rfl
theorem enc48 : Utf8.encode 48 = ⟨#[48]⟩ := by decide +kernel
theorem conv48 (w : World) : (convert 21 9 (.int .i32 48)).run Tryd.prog w = .ok (.string ⟨#[48]⟩) w := by
  simp [convert, run_underlying Tryd.underlying21, run_underlying Tryd.underlying9, Conv.intToString, enc48]
theorem enc49 : Utf8.encode 49 = ⟨#[49]⟩ := by decide +kernel
theorem conv49 (w : World) : (convert 21 9 (.int .i32 49)).run Tryd.prog w = .ok (.string ⟨#[49]⟩) w := by
  simp [convert, run_underlying Tryd.underlying21, run_underlying Tryd.underlying9, Conv.intToString, enc49]
/-- Strings of noughts and ones in a row of the call's own. -/
def AllBits (n : Nat) (xs : List Value) : Prop := ∀ (j : Nat) (v : Value), xs[j]? = some v → ∃ s, v = Value.string s ∧ BitsS n s
theorem AllBits.snoc {n : Nat} {xs : List Value} (h : AllBits n xs) {s : ByteArray} (hs : BitsS n s) : AllBits n (xs ++ [.string s]) := by
  intro j v hv
  by_cases q : j < xs.length
  · rw [List.getElem?_append_left q] at hv; exact h j v hv
  · rw [List.getElem?_append_right (by omega)] at hv
    cases r : j - xs.length with
    | zero => rw [r] at hv; exact ⟨s, (Option.some.inj hv).symm, hs⟩
    | succ m => rw [r] at hv; simp at hv
theorem ownedGeT {w : World} {base n size : Nat} {e : TypeId} {v : Value} {xs : List Value} (h : w.ownsRow base e size v n xs) {j : Nat} (hj : v.ownBlock = some j) : base ≤ j := (h.lt j hj).1
theorem ownedSliceT {w : World} {base n : Nat} {T : TypeId} {v : Value} {xs : List Value} (h : w.ownsRow base T 1 v n xs) : ∃ a c, v = .slice a n c := by
  rcases h.2 with ⟨rfl, rfl⟩ | ⟨g, cap, cur, rfl, _⟩
  · exact ⟨_, _, rfl⟩
  · exact ⟨_, _, rfl⟩
theorem codes_own {w : World} {base k : Nat} {v : Value} {xs : List Value} (hk : 0 < k) (h : w.ownsRow base 9 1 v k xs) (hx : AllBits 4 xs) : Codes w base k v := by
  rcases h.2 with ⟨_, q⟩ | ⟨g, cap, cur, rfl, hb, hc, h1, h2, h3, h4⟩
  · omega
  refine ⟨g, cap, rfl, hb, cur, hc, fun j hj => ?_⟩
  have hl : xs.length = k := by have := h.1; omega
  have h4' : cur.toList.take k = xs := by rw [← h4, Nat.mul_one]
  have e : cur[j]? = xs[j]? := by
    rw [← h4', List.getElem?_take, if_pos (by omega), Array.getElem?_toList]
  obtain ⟨s, hs, hs2⟩ := hx j _ (List.getElem?_eq_getElem (by omega))
  exact ⟨s, by rw [e, List.getElem?_eq_getElem (by omega), hs], ⟨Nat.le_trans hs2.1 (by decide), hs2.2⟩⟩
set_option maxRecDepth 100000 in
set_option maxHeartbeats 2000000 in
theorem fours_any (b : Bool) (w : World) :
    Calls Tryd.prog 47 #[.bool b] w fun e w' => ∃ v, e = .returned v ∧ Below w.heap.size w w' ∧ (∃ a c, v = .slice a 16 c) ∧ Codes w' w.heap.size 16 v := by
  cases b
  · go_enter Tryd.func47, Tryd.ntmps47
    go_wp2_with fail
    go_ret
    exact ⟨_, rfl, stpA (stp0 w) _, ⟨_, _, rfl⟩, codes_new w _ 16 rfl (by decide +kernel)⟩
  · have c48 := conv48
    have c49 := conv49
    obtain ⟨i0, hi, hz0, hz1, hz2⟩ := info_parts info9
    have H0 : (w.alloc (.cells #[] 9)).ownsRow w.heap.size 9 1 (.slice (some ⟨w.heap.size, 0, none⟩) 0 0) 0 [] := World.ownsRow_made w #[] 0 (Nat.le_refl _) (by unfold maxLen; omega) rfl
    have HO := Lib.hid H0
    have HB := Lib.hid (stpA (stp0 w) (.cells #[] 9))
    have HX : Hid (AllBits 4 []) := Lib.hid (by intro j v h; simp at h)
    clear H0
    go_enter Tryd.func47, Tryd.ntmps47
    go_wp2_with fail
    go_loopw [3, 4] (fun x3 x4 wr => ∃ i : Nat, i ≤ 16 ∧ x4 = .int .i64 (15 - (i : Int)) ∧ ∃ xs, Hid (wr.ownsRow w.heap.size 9 1 x3 i xs) ∧ Hid (AllBits 4 xs) ∧ Hid (Below w.heap.size w wr)) (fun _ x4 _ => (intOf x4 + 1).toNat)
    case atStart => exact ⟨0, by omega, rfl, [], HO, HX, HB⟩
    case round =>
      clear HO HX HB
      obtain ⟨i, hi16, rfl, xs, HO, HX, HB⟩ := hrel
      obtain ⟨a3, c3, rfl⟩ := ownedSliceT HO.out
      by_cases hlt : i < 16
      · obtain ⟨vn, hvn⟩ : ∃ vn : Nat, (15 : Int) - i = vn := ⟨15 - i, by omega⟩
        rw [hvn]
        have HVN := Lib.hid hvn
        clear hvn
        have d1 : decide ((0 : Int) ≤ (vn : Int)) = true := decide_eq_true (by omega)
        have n7 : IntKind.i64.wrap ((vn : Int) - 1) = (vn : Int) - 1 := IntWalk.i64_in _ (by have := HVN.out; omega)
        go_wp2_with fail
        go_loopw [5, 6] (fun x5 x6 wq => ∃ j : Nat, j ≤ 4 ∧ x6 = .int .i64 (3 - (j : Int)) ∧ ∃ s, x5 = .string s ∧ Hid (BitsS j s) ∧ wq = wr) (fun _ x6 _ => (intOf x6 + 1).toNat)
        case atStart => exact ⟨0, by omega, rfl, ⟨#[]⟩, rfl, Lib.hid ⟨by decide, fun i hi => by exact absurd hi (Nat.not_lt_zero _)⟩, rfl⟩
        case round =>
          obtain ⟨j, hj, rfl, s, rfl, HS, rfl⟩ := hrel
          by_cases hlt2 : j < 4
          · obtain ⟨kn, hkn⟩ : ∃ kn : Nat, (3 : Int) - j = kn := ⟨3 - j, by omega⟩
            rw [hkn]
            have HKN := Lib.hid hkn
            have d2 : decide ((0 : Int) ≤ (kn : Int)) = true := decide_eq_true (by omega)
            have m1 : min kn 64 = kn := by omega
            have sz : ¬ (9223372036854775807 < s.size + 1) := by have := HS.out.1; omega
            have n8 : IntKind.i64.wrap ((kn : Int) - 1) = (kn : Int) - 1 := IntWalk.i64_in _ (by omega)
            obtain ⟨b, hb⟩ : ∃ b, b = (vn : Int) / 2 ^ kn % 2 := ⟨_, rfl⟩
            have n2 : bits .and .i64 ((vn : Int) / 2 ^ kn) 1 = b := by rw [i64_and1, hb]
            have hb01 : b = 0 ∨ b = 1 := by omega
            clear hb hkn
            rcases hb01 with rfl | rfl
            · go_wp2_with fail
              exact ⟨⟨j + 1, by omega, by rw [← HKN.out]; congr 1; omega, _, rfl, Lib.hid (bits_add HS.out rfl (by decide)), trivial⟩, by simp [intOf]⟩
            · go_wp2_with fail
              exact ⟨⟨j + 1, by omega, by rw [← HKN.out]; congr 1; omega, _, rfl, Lib.hid (bits_add HS.out rfl (by decide)), trivial⟩, by simp [intOf]⟩
          · obtain rfl : j = 4 := by omega
            rw [show (3 : Int) - ((4 : Nat) : Int) = -1 by rfl]
            go_wp2_with (at_builtin; go_loud (refine wpList_append_own _ rfl _ _ 123 rfl w.heap.size 9 i0 (.string ⟨#[]⟩) 1 16 Tryd.underlying123 hi hz0 hz1 hz2 rfl (by decide) (.slice a3 i c3) i xs rfl (HO.out.alloc _) ⟨wr.heap.size, 0, none⟩ 1 1 [.string s] rfl rfl (cell_one_new _ _ _) (by simp [Value.oneCell']) (by unfold maxLen; omega) (by omega) (by have := HB.out.size; simp; omega) ?_); intro v3 w3 ho3 hgr3 _; (have HO3 := Lib.hid ho3); (have HG := Lib.hid hgr3); clear ho3 hgr3)
            refine ⟨⟨i + 1, by omega, by rw [← HVN.out]; congr 1; omega, _, HO3, Lib.hid (HX.out.snoc HS.out), Lib.hid ?_⟩, by simp [intOf]⟩
            refine (stpA HB.out _).grown HG.out ?_ ?_
            · have := HB.out.size; simp; omega
            · intro j hj; exact ownedGeT HO.out hj
      · obtain rfl : i = 16 := by omega
        rw [show (15 : Int) - ((16 : Nat) : Int) = -1 by rfl]
        go_wp2_with fail
        go_ret
        exact ⟨_, rfl, HB.out, ⟨_, _, rfl⟩, codes_own (by decide) HO.out HX.out⟩
end Go.Proofs.YtppfldobgemddaaDoor
