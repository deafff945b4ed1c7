/-
  The body of the inner loop of laws.frameOf: what it makes of the frame; The outer loops of laws.frameOf; The outer loops of laws.frameOf: all granules of all channels are made.
-/
import Derived.Test.YtppfldobgemddaaDoorHb
import Derived.Test.YtppfldobgemddaaDoorHc
import Derived.Test.YtppfldobgemddaaDoorHe
import Derived.Test.YtppfldobgemddaaDoorHh
import Derived.LoopN
namespace Go.Proofs.YtppfldobgemddaaDoor
open Go.RowKit
set_option linter.unusedVariables false

theorem lin_lt {w : World} {lb : Nat} {top : Nat → Int} {n : Nat} (h : LinR w lb top n) : lb < w.heap.size := by
  obtain ⟨u, hu⟩ := h.cell 0 (by decide)
  exact block_lt_of_cell hu
set_option maxRecDepth 100000 in
theorem frBlock_eq : frBlock = .block 3 (.seq (frItem 0) (.seq (frItem 1) (.seq (frItem 2) (.seq (frItem 3) (.seq (frItem 4) (.seq (frItem 5) (.seq (frItem 6) (.seq (frItem 7) (.seq (frItem 8) (.seq (frItem 9) (.seq (frItem 10) (.seq (frItem 11) (.seq (frItem 12) (.seq (frItem 13) (.seq (frItem 14) (.seq (frItem 15) (.seq (frItem 16) (.seq (frItem 17) (frItem 18))))))))))))))))))) := by
  kernel_rfl
/-- The cells of a granule of a channel, but for the length. -/
def Off (j g c : Nat) : Prop := j < 93 ∧ j ≠ 21 + g * 2 + c ∧ j ≠ 25 + g * 2 + c ∧ j ≠ 29 + g * 2 + c ∧ j ≠ 33 + g * 2 + c ∧ j ≠ 37 + g * 2 + c ∧ j ≠ 41 + g * 2 + c ∧ (j < 45 + g * 6 + c * 3 ∨ 45 + g * 6 + c * 3 + 3 ≤ j) ∧ (j < 57 + g * 6 + c * 3 ∨ 57 + g * 6 + c * 3 + 3 ≤ j) ∧ j ≠ 69 + g * 2 + c ∧ j ≠ 73 + g * 2 + c ∧ j ≠ 77 + g * 2 + c ∧ j ≠ 81 + g * 2 + c ∧ j ≠ 85 + g * 2 + c ∧ j ≠ 89 + g * 2 + c
/-- What a granule of a channel tells. -/
structure GcOk (S : Nat → Int) (g c : Nat) : Prop where
  big : 0 ≤ S (21 + g * 2 + c) ∧ S (21 + g * 2 + c) ≤ 29
  gain : 160 ≤ S (25 + g * 2 + c) ∧ S (25 + g * 2 + c) ≤ 191
  comp : 0 ≤ S (29 + g * 2 + c) ∧ S (29 + g * 2 + c) ≤ 15
  kind : Kind S g c
  tab : ∀ i, i < 3 → TabOk (S (45 + g * 6 + c * 3 + i))
  tab2 : S (33 + g * 2 + c) = 1 → S (45 + g * 6 + c * 3 + 2) = 0
  sub : ∀ i, i < 3 → 0 ≤ S (57 + g * 6 + c * 3 + i) ∧ S (57 + g * 6 + c * 3 + i) ≤ 3
  sub0 : S (33 + g * 2 + c) = 0 → ∀ i, i < 3 → S (57 + g * 6 + c * 3 + i) = 0
  reg : (S (33 + g * 2 + c) = 0 ∧ 0 ≤ S (69 + g * 2 + c) ∧ S (69 + g * 2 + c) ≤ 11 ∧ 0 ≤ S (73 + g * 2 + c) ∧ S (73 + g * 2 + c) ≤ 7) ∨ (S (33 + g * 2 + c) = 1 ∧ S (69 + g * 2 + c) = (if S (37 + g * 2 + c) = 2 ∧ S (41 + g * 2 + c) = 0 then 8 else 7) ∧ S (73 + g * 2 + c) = 20 - S (69 + g * 2 + c))
  pre : 0 ≤ S (77 + g * 2 + c) ∧ S (77 + g * 2 + c) ≤ 1
  scale : 0 ≤ S (81 + g * 2 + c) ∧ S (81 + g * 2 + c) ≤ 1
  which : 0 ≤ S (85 + g * 2 + c) ∧ S (85 + g * 2 + c) ≤ 1
  count : 0 ≤ S (89 + g * 2 + c) ∧ S (89 + g * 2 + c) ≤ 78
/-- Nothing is told yet. -/
def GcZero (S : Nat → Int) (g c : Nat) : Prop := ∀ j, j < 93 → ¬ Off j g c → S j = 0
/-- The lines of a granule of a channel. -/
def topsOf (S : Nat → Int) (hR : Int) (g c : Nat) : Nat → Int := topAt (S (45 + g * 6 + c * 3)) (S (45 + g * 6 + c * 3 + 1)) (S (45 + g * 6 + c * 3 + 2)) (reg1 (fun i => S (7 + i)) hR g c) (reg2 (fun i => S (7 + i)) hR g c) (S (21 + g * 2 + c))
theorem shortB_val {S : Nat → Int} {g c : Nat} {x y : Int} (e1 : S (26 + g * 2 + c) = x) (e2 : S (30 + g * 2 + c) = y) : shortB S g c = (decide (x = 1) && decide (y = 2)) := by
  unfold shortB; rw [e1, e2]
theorem shortB_side (S : Nat → Int) (g c : Nat) : shortB (fun i => S (7 + i)) g c = (decide (S (33 + g * 2 + c) = 1) && decide (S (37 + g * 2 + c) = 2)) :=
  shortB_val (show S (7 + (26 + g * 2 + c)) = _ by rw [show 7 + (26 + g * 2 + c) = 33 + g * 2 + c by omega]) (show S (7 + (30 + g * 2 + c)) = _ by rw [show 7 + (30 + g * 2 + c) = 37 + g * 2 + c by omega])
theorem shortB_same {S S' : Nat → Int} {g c : Nat} (hg : g < 2) (hc : c < 2) (e : ∀ j, j < 93 → S' j = S j) : shortB (fun i => S' (7 + i)) g c = shortB (fun i => S (7 + i)) g c := by
  rw [shortB_side, shortB_side, e _ (by omega), e _ (by omega)]
theorem topsOf_same {S S' : Nat → Int} {hR : Int} {g c : Nat} (hg : g < 2) (hc : c < 2) (e : ∀ j, j < 93 → S' j = S j) : topsOf S' hR g c = topsOf S hR g c := by
  unfold topsOf reg1 reg2; simp only []; rw [shortB_same hg hc e, e _ (by omega), e _ (by omega), e _ (by omega), e (7 + (62 + g * 2 + c)) (by omega), e (7 + (66 + g * 2 + c)) (by omega), e (21 + g * 2 + c) (by omega)]
theorem short_ways {S : Nat → Int} {g c : Nat} (h : Kind S g c) : shortB (fun i => S (7 + i)) g c = false ∨ (shortB (fun i => S (7 + i)) g c = true ∧ (S (41 + g * 2 + c) = 0 ∨ S (41 + g * 2 + c) = 1)) := by
  rw [shortB_side]
  rcases h with ⟨h1, h2, h3⟩ | ⟨h1, h2, h3⟩ | ⟨h1, h2, h3⟩ | ⟨h1, h2, h3⟩ | ⟨h1, h2, h3⟩ <;> rw [h1, h2, h3] <;> decide
theorem GcOk.same {S S' : Nat → Int} {g c : Nat} (h : GcOk S g c) (hg : g < 2) (hc : c < 2) (e : ∀ j, ¬ Off j g c → j < 93 → S' j = S j) : GcOk S' g c := by
  unfold Off at e
  have e21 := e (21 + g * 2 + c) (by omega) (by omega)
  have e25 := e (25 + g * 2 + c) (by omega) (by omega)
  have e29 := e (29 + g * 2 + c) (by omega) (by omega)
  have e33 := e (33 + g * 2 + c) (by omega) (by omega)
  have e37 := e (37 + g * 2 + c) (by omega) (by omega)
  have e41 := e (41 + g * 2 + c) (by omega) (by omega)
  have e69 := e (69 + g * 2 + c) (by omega) (by omega)
  have e73 := e (73 + g * 2 + c) (by omega) (by omega)
  have e77 := e (77 + g * 2 + c) (by omega) (by omega)
  have e81 := e (81 + g * 2 + c) (by omega) (by omega)
  have e85 := e (85 + g * 2 + c) (by omega) (by omega)
  have e89 := e (89 + g * 2 + c) (by omega) (by omega)
  refine ⟨by rw [e21]; exact h.big, by rw [e25]; exact h.gain, by rw [e29]; exact h.comp, ?_, ?_, ?_, ?_, ?_, ?_, by rw [e77]; exact h.pre, by rw [e81]; exact h.scale, by rw [e85]; exact h.which, by rw [e89]; exact h.count⟩
  · have := h.kind
    unfold Kind at this ⊢; rw [e33, e37, e41]; exact this
  · intro i hi
    rw [e _ (by omega) (by omega)]; exact h.tab i hi
  · intro hs
    rw [e33] at hs
    rw [e _ (by omega) (by omega)]; exact h.tab2 hs
  · intro i hi
    rw [e _ (by omega) (by omega)]; exact h.sub i hi
  · intro hs i hi
    rw [e33] at hs
    rw [e _ (by omega) (by omega)]; exact h.sub0 hs i hi
  · rw [e33, e69, e73, e37, e41]; exact h.reg
/-- A later start of what is kept, and the way back. -/
theorem FM.fresh {w0 : Origin} {N : Nat} {h7 : Array Value} {va : Option Addr} {vl vc t : Nat} {S : Nat → Int} {L : Nat → Value} {w : World} (h : FM w0 N h7 va vl vc t S L w) : FM ⟨w0.w, w.heap.size, w⟩ N h7 va vl vc t S L w :=
  ⟨h.below, h.size, Nat.le_refl _, fun _ _ _ => rfl, h.head, h.vals, h.res, h.frame, h.count, h.came⟩
theorem FM.back {w0 : Origin} {N : Nat} {h7 : Array Value} {va : Option Addr} {vl vc t t' : Nat} {S S' : Nat → Int} {L L' : Nat → Value} {w w' : World} (h : FM w0 N h7 va vl vc t S L w) (h' : FM ⟨w0.w, w.heap.size, w⟩ N h7 va vl vc t' S' L' w') : FM w0 N h7 va vl vc t' S' L' w' :=
  ⟨h'.below, h'.size, Nat.le_trans h.more h'.more, fun b b1 b2 => (h'.keep b b1 (Nat.lt_of_lt_of_le b2 h.more)).trans (h.keep b b1 b2), h'.head, h'.vals, h'.res, h'.frame, h'.count, h'.came⟩
/-- The items from the lengths on. -/
theorem tail13 {w0 : Origin} {N : Nat} {h7 : Array Value} {va : Option Addr} {vl vc t : Nat} {S : Nat → Int} {L : Nat → Value} (na : Option Addr) (nl nc : Nat) (n : Int) (g c : Nat) (hg : g < 2) (hc : c < 2) (hB hR hP hM hJ hV hK : Int) (r0 : 0 ≤ hR) (r1 : hR ≤ 2) (hh7 : h7 = #[.int .i64 hB, .int .i64 hR, .int .i64 hP, .int .i64 hM, .int .i64 hJ, .int .i64 hV, .int .i64 hK])
    {x15 x18 x19 x25 x26 x27 x40 x41 x44 x45 x46 : Value} (a : Act) (w : World) (hf : Fr N na nl nc (.int .i64 g) (.int .i64 c) (.int .u32 n) x15 x18 x19 x25 x26 x27 x40 x41 x44 x45 x46 a) (h : FM w0 N h7 va vl vc t S L w) (ok : GcOk S g c) (hmain : MainB S) (ht : t ≤ 800000) (hvl : vl ≤ 1000) (Q : Exit → Act → World → Prop)
    (hQ : ∀ (y18 y19 y25 y26 y27 : Value) (S' : Nat → Int) (t' lb : Nat) (a' : Act) (w' : World), Fr N na nl nc (.int .i64 g) (.int .i64 c) (.int .u32 n) x15 y18 y19 y25 y26 y27 x40 x41 x44 x45 x46 a' →
      FM w0 N h7 va vl vc t' S' (upd L (g * 2 + c) (.slice (some ⟨lb, 0, none⟩) 576 576)) w' → t' ≤ t + 150 → MainB S' → (∀ j, j < 93 → S' j = S j) → N + 4 < lb → w0.M ≤ lb → LinR w' lb (topsOf S' hR g c) (S' (89 + g * 2 + c)).toNat → Q .normal a' w') :
    Code.wp Tryd.prog (.seq (frItem 13) (.seq (frItem 14) (.seq (frItem 15) (.seq (frItem 16) (.seq (frItem 17) (frItem 18)))))) Q a w := by
  obtain ⟨l1, l2⟩ := lens_le _ ok.comp.1 ok.comp.2
  refine wp_seq ?_
  refine it13w na nl nc n g c hg hc _ ok.comp.1 ok.comp.2 rfl a w hf h _ ?_
  intro a1 w1 hf1 h1
  have h14 : Code.wp Tryd.prog (frItem 14) (Exit.then (Code.wp Tryd.prog (.seq (frItem 15) (.seq (frItem 16) (.seq (frItem 17) (frItem 18)))) Q) Q) a1 w1 := by
    have go : ∀ (S' : Nat → Int) (t' : Nat) (a' : Act) (w' : World), Fr N na nl nc (.int .i64 g) (.int .i64 c) (.int .u32 n) x15 (.int .i64 (lenA (S (29 + g * 2 + c)))) (.int .i64 (lenB (S (29 + g * 2 + c)))) x25 x26 x27 x40 x41 x44 x45 x46 a' → (FM w0 N h7 va vl vc t' S' L w' ∧ FacR S S' ∧ t' ≤ t + 50) → Code.wp Tryd.prog (.seq (frItem 15) (.seq (frItem 16) (.seq (frItem 17) (frItem 18)))) Q a' w' := by
      rintro S' t' a2 w2 hf2 ⟨h2, ⟨hm2, he2⟩, ht2⟩
      have hr := ok.reg
      have e69 := he2 (69 + g * 2 + c) (by omega)
      have e73 := he2 (73 + g * 2 + c) (by omega)
      have b69 : 0 ≤ S (69 + g * 2 + c) ∧ S (69 + g * 2 + c) ≤ 100 ∧ 0 ≤ S (73 + g * 2 + c) ∧ S (73 + g * 2 + c) ≤ 100 := by
        rcases hr with ⟨-, q1, q2, q3, q4⟩ | ⟨-, q1, q2⟩
        · omega
        · split at q1 <;> omega
      refine wp_seq ?_
      refine it15w na nl nc n g c hg hc hB hR hP hM hJ hV hK r0 r1 hh7 ?_ ?_ ?_ ?_ a2 w2 hf2 h2 _ ?_
      · rw [show 7 + (62 + g * 2 + c) = 69 + g * 2 + c by omega, e69]; exact b69.1
      · rw [show 7 + (62 + g * 2 + c) = 69 + g * 2 + c by omega, e69]; exact b69.2.1
      · rw [show 7 + (66 + g * 2 + c) = 73 + g * 2 + c by omega, e73]; exact b69.2.2.1
      · rw [show 7 + (66 + g * 2 + c) = 73 + g * 2 + c by omega, e73]; exact b69.2.2.2
      intro a3 w3 hf3 h3
      refine wp_seq ?_
      refine it16w na nl nc n g c hg hc a3 w3 hf3 h3 _ ?_
      rintro a4 w4 hf4 ⟨h4, rfl⟩
      have hlb : N + 4 < w3.heap.size ∧ w0.M ≤ w3.heap.size := ⟨h3.size, h3.more⟩
      refine wp_seq ?_
      have e21 := he2 (21 + g * 2 + c) (by omega)
      have e89 := he2 (89 + g * 2 + c) (by omega)
      have e45 := he2 (45 + g * 6 + c * 3) (by omega)
      have e46 := he2 (45 + g * 6 + c * 3 + 1) (by omega)
      have e47 := he2 (45 + g * 6 + c * 3 + 2) (by omega)
      refine it17w na nl nc n g c hg hc (S' (21 + g * 2 + c)) (S' (89 + g * 2 + c)) _ _ _ (reg1 (fun i => S' (7 + i)) hR g c) (reg2 (fun i => S' (7 + i)) hR g c) w3.heap.size (by rw [e21]; exact ok.big.1) (by rw [e21]; exact ok.big.2) (by rw [e89]; exact ok.count.1) (by rw [e89]; have := ok.count.2; omega) rfl rfl rfl rfl rfl (by rw [e45]; exact ok.tab 0 (by decide)) (by rw [e46]; exact ok.tab 1 (by decide)) (by rw [e47]; exact ok.tab 2 (by decide)) (by omega) hvl hlb a4 _ hf4 h4 (linR_new w3 _) _ ?_
      rintro t5 a5 w5 hf5 ⟨h5, ht5, hl5⟩
      refine it18w na nl nc n g c hg hc w3.heap.size a5 w5 hf5 h5.fresh Q ?_
      intro a6 w6 hf6 h6
      have hlt := lin_lt hl5
      exact hQ _ _ _ _ _ S' t5 w3.heap.size a6 w6 hf6 (h5.back h6) (by omega) hm2 he2 hlb.1 hlb.2 (hl5.same (h6.keep _ hlb.1 hlt))
    rcases short_ways ok.kind with hs | ⟨hs, hm | hm⟩
    · exact it14aw na nl nc n g c hg hc _ _ l1 l2 (by omega) hvl hmain hs a1 w1 hf1 h1 _ go
    · exact it14bw na nl nc n g c hg hc _ _ l1 l2 (by omega) hvl hmain hs hm a1 w1 hf1 h1 _ go
    · exact it14cw na nl nc n g c hg hc _ _ l1 l2 (by omega) hvl hmain hs hm a1 w1 hf1 h1 _ go
  exact wp_seq h14
/-- The items from the regions on. -/
theorem tail10 {w0 : Origin} {N : Nat} {h7 : Array Value} {va : Option Addr} {vl vc t : Nat} {S : Nat → Int} {L : Nat → Value} (na : Option Addr) (nl nc : Nat) (n : Int) (g c : Nat) (hg : g < 2) (hc : c < 2) (n0 : 0 ≤ n) (n1 : n ≤ 4294967295) (hB hR hP hM hJ hV hK : Int) (r0 : 0 ≤ hR) (r1 : hR ≤ 2) (hh7 : h7 = #[.int .i64 hB, .int .i64 hR, .int .i64 hP, .int .i64 hM, .int .i64 hJ, .int .i64 hV, .int .i64 hK])
    {x18 x19 x25 x26 x27 x40 x41 x44 x45 x46 : Value} (a : Act) (w : World) (hf : Fr N na nl nc (.int .i64 g) (.int .i64 c) (.int .u32 n) (.int .i64 3) x18 x19 x25 x26 x27 x40 x41 x44 x45 x46 a) (h : FM w0 N h7 va vl vc t S L w)
    (big : 0 ≤ S (21 + g * 2 + c) ∧ S (21 + g * 2 + c) ≤ 29) (gain : 160 ≤ S (25 + g * 2 + c) ∧ S (25 + g * 2 + c) ≤ 191) (comp : 0 ≤ S (29 + g * 2 + c) ∧ S (29 + g * 2 + c) ≤ 15) (kind : Kind S g c) (tabs : S (45 + g * 6 + c * 3 + 2) = 0) (subs : ∀ i, i < 3 → S (57 + g * 6 + c * 3 + i) = 0)
    (pre : 0 ≤ S (77 + g * 2 + c) ∧ S (77 + g * 2 + c) ≤ 1) (scale : 0 ≤ S (81 + g * 2 + c) ∧ S (81 + g * 2 + c) ≤ 1) (which : 0 ≤ S (85 + g * 2 + c) ∧ S (85 + g * 2 + c) ≤ 1) (count : 0 ≤ S (89 + g * 2 + c) ∧ S (89 + g * 2 + c) ≤ 78)
    (hmain : MainB S) (ht : t ≤ 800000) (hvl : vl ≤ 1000) (Q : Exit → Act → World → Prop)
    (hQ : ∀ (y15 y18 y19 y25 y26 y27 : Value) (S' : Nat → Int) (t' lb : Nat) (a' : Act) (w' : World), Fr N na nl nc (.int .i64 g) (.int .i64 c) (.int .u32 n) y15 y18 y19 y25 y26 y27 x40 x41 x44 x45 x46 a' →
      FM w0 N h7 va vl vc t' S' (upd L (g * 2 + c) (.slice (some ⟨lb, 0, none⟩) 576 576)) w' → t' ≤ t + 150 → MainB S' → GcOk S' g c → (∀ j, Off j g c → S' j = S j) → N + 4 < lb → w0.M ≤ lb → LinR w' lb (topsOf S' hR g c) (S' (89 + g * 2 + c)).toNat → Q .normal a' w') :
    Code.wp Tryd.prog (.seq (frItem 10) (.seq (frItem 11) (.seq (frItem 12) (.seq (frItem 13) (.seq (frItem 14) (.seq (frItem 15) (.seq (frItem 16) (.seq (frItem 17) (frItem 18))))))))) Q a w := by
  have go : ∀ (m : Nat) (S1 : Nat → Int) (a1 : Act) (w1 : World), (m = 3 ∨ m = 2 ∧ S (33 + g * 2 + c) = 1) → Fr N na nl nc (.int .i64 g) (.int .i64 c) (.int .u32 n) (.int .i64 m) x18 x19 x25 x26 x27 x40 x41 x44 x45 x46 a1 → FM w0 N h7 va vl vc t S1 L w1 →
      (∀ i, i < 3 → 0 ≤ S1 (57 + g * 6 + c * 3 + i) ∧ S1 (57 + g * 6 + c * 3 + i) ≤ 3) → (S (33 + g * 2 + c) = 0 → ∀ i, i < 3 → S1 (57 + g * 6 + c * 3 + i) = 0) → (S (33 + g * 2 + c) = 1 → m = 2) →
      ((S (33 + g * 2 + c) = 0 ∧ 0 ≤ S1 (69 + g * 2 + c) ∧ S1 (69 + g * 2 + c) ≤ 11 ∧ 0 ≤ S1 (73 + g * 2 + c) ∧ S1 (73 + g * 2 + c) ≤ 7) ∨ (S (33 + g * 2 + c) = 1 ∧ S1 (69 + g * 2 + c) = (if S (37 + g * 2 + c) = 2 ∧ S (41 + g * 2 + c) = 0 then 8 else 7) ∧ S1 (73 + g * 2 + c) = 20 - S1 (69 + g * 2 + c))) →
      (∀ j, (j < 57 + g * 6 + c * 3 ∨ 57 + g * 6 + c * 3 + 3 ≤ j) → j ≠ 69 + g * 2 + c → j ≠ 73 + g * 2 + c → S1 j = S j) →
      Code.wp Tryd.prog (.seq (frItem 11) (.seq (frItem 12) (.seq (frItem 13) (.seq (frItem 14) (.seq (frItem 15) (.seq (frItem 16) (.seq (frItem 17) (frItem 18)))))))) Q a1 w1 := by
    intro m S1 a1 w1 hm hf1 h1 sb sb0 hm2 rg e1
    refine wp_seq ?_
    refine it11w na nl nc n g c hg hc a1 w1 hf1 h1 _ ?_
    rintro S2 a2 w2 hf2 ⟨h2, e2, p2⟩
    refine wp_seq ?_
    refine wp_onN (K := Code.wp Tryd.prog (.seq (frItem 13) (.seq (frItem 14) (.seq (frItem 15) (.seq (frItem 16) (.seq (frItem 17) (frItem 18)))))) Q) ?_ (fun _ _ hh => hh)
    refine it12w na nl nc n g c hg hc n0 n1 m (by omega) a2 w2 hf2 h2 _ ?_
    rintro S3 a3 w3 hf3 ⟨h3, t3, e3⟩
    have e : ∀ j, (j < 45 + g * 6 + c * 3 ∨ 45 + g * 6 + c * 3 + m ≤ j) → (j < 57 + g * 6 + c * 3 ∨ 57 + g * 6 + c * 3 + 3 ≤ j) → j ≠ 69 + g * 2 + c → j ≠ 73 + g * 2 + c → j ≠ 77 + g * 2 + c → S3 j = S j := fun j q1 q2 q3 q4 q5 => (e3 j q1).trans ((e2 j q5).trans (e1 j q2 q3 q4))
    have es : ∀ j, 45 + g * 6 + c * 3 + m ≤ j → j ≠ 77 + g * 2 + c → S3 j = S1 j := fun j q1 q5 => (e3 j (.inr q1)).trans (e2 j q5)
    have m3 : m ≤ 3 := by omega
    have e77 : S3 (77 + g * 2 + c) = S2 (77 + g * 2 + c) := e3 _ (by omega)
    have e177 : S1 (77 + g * 2 + c) = S (77 + g * 2 + c) := e1 _ (by omega) (by omega) (by omega)
    have e33 := e (33 + g * 2 + c) (by omega) (by omega) (by omega) (by omega) (by omega)
    have e37 := e (37 + g * 2 + c) (by omega) (by omega) (by omega) (by omega) (by omega)
    have e41 := e (41 + g * 2 + c) (by omega) (by omega) (by omega) (by omega) (by omega)
    have e21 := e (21 + g * 2 + c) (by omega) (by omega) (by omega) (by omega) (by omega)
    have e25 := e (25 + g * 2 + c) (by omega) (by omega) (by omega) (by omega) (by omega)
    have e29 := e (29 + g * 2 + c) (by omega) (by omega) (by omega) (by omega) (by omega)
    have e81 := e (81 + g * 2 + c) (by omega) (by omega) (by omega) (by omega) (by omega)
    have e85 := e (85 + g * 2 + c) (by omega) (by omega) (by omega) (by omega) (by omega)
    have e89 := e (89 + g * 2 + c) (by omega) (by omega) (by omega) (by omega) (by omega)
    have e69 := es (69 + g * 2 + c) (by omega) (by omega)
    have e73 := es (73 + g * 2 + c) (by omega) (by omega)
    have ok : GcOk S3 g c := by
      refine ⟨by rw [e21]; exact big, by rw [e25]; exact gain, by rw [e29]; exact comp, ?_, ?_, ?_, ?_, ?_, ?_, ?_, by rw [e81]; exact scale, by rw [e85]; exact which, by rw [e89]; exact count⟩
      · unfold Kind at kind ⊢; rw [e33, e37, e41]; exact kind
      · intro i hi
        by_cases hlt : i < m
        · exact t3 i hlt
        · have : S3 (45 + g * 6 + c * 3 + i) = S (45 + g * 6 + c * 3 + 2) := by
            have : i = 2 := by omega
            subst this
            exact e _ (by omega) (by omega) (by omega) (by omega) (by omega)
          rw [this, tabs]; exact .inl rfl
      · intro hs
        rw [e33] at hs
        have := hm2 hs
        rw [e _ (by omega) (by omega) (by omega) (by omega) (by omega)]; exact tabs
      · intro i hi
        rw [es _ (by omega) (by omega)]; exact sb i hi
      · intro hs i hi
        rw [e33] at hs
        rw [es _ (by omega) (by omega)]; exact sb0 hs i hi
      · rw [e33, e69, e73, e37, e41]; exact rg
      · rw [e77]
        rcases p2 with q | q
        · rw [q]; decide
        · rw [q, e177]; exact pre
    have hmain3 : MainB S3 := fun j j0 j1 => by rw [e j (by omega) (by omega) (by omega) (by omega) (by omega)]; exact hmain j j0 j1
    refine tail13 na nl nc n g c hg hc hB hR hP hM hJ hV hK r0 r1 hh7 a3 w3 hf3 h3 ok hmain3 ht hvl Q ?_
    intro y18 y19 y25 y26 y27 S4 t4 lb a4 w4 hf4 h4 ht4 hm4 e4 b1 b2 l4
    refine hQ (.int .i64 m) y18 y19 y25 y26 y27 S4 t4 lb a4 w4 hf4 h4 ht4 hm4 (ok.same hg hc fun j _ hj => e4 j hj) ?_ b1 b2 l4
    intro j hj
    unfold Off at hj
    rw [e4 j hj.1]
    exact e j (by omega) (by omega) (by omega) (by omega) (by omega)
  refine wp_seq ?_
  have hsw : S (33 + g * 2 + c) = 0 ∨ S (33 + g * 2 + c) = 1 := by
    rcases kind with ⟨q, -⟩ | ⟨q, -⟩ | ⟨q, -⟩ | ⟨q, -⟩ | ⟨q, -⟩ <;> omega
  rcases hsw with hsw | hsw
  · refine it10bw na nl nc n g c hg hc n0 n1 hsw a w hf h _ ?_
    intro a1 w1 hf1 h1
    have u69 : ∀ j, j ≠ 69 + g * 2 + c → j ≠ 73 + g * 2 + c → upd (upd S (69 + g * 2 + c) (n / 33554432 % 12)) (73 + g * 2 + c) (n / 8192 % 8) j = S j := fun j q1 q2 => by rw [upd_not _ _ _ _ q2, upd_not _ _ _ _ q1]
    refine go 3 _ a1 w1 (.inl rfl) hf1 h1 ?_ ?_ ?_ ?_ ?_
    · intro i hi
      rw [u69 _ (by omega) (by omega), subs i hi]; decide
    · intro _ i hi
      rw [u69 _ (by omega) (by omega), subs i hi]
    · intro hs; omega
    · refine .inl ⟨hsw, ?_⟩
      rw [upd_at, upd_not _ _ _ _ (by omega), upd_at]
      omega
    · intro j _ q1 q2
      exact u69 j q1 q2
  · refine it10aw na nl nc n g c hg hc n0 n1 hsw a w hf h _ ?_
    rintro S1 a1 w1 hf1 ⟨h1, sb, q1, q2, e1⟩
    refine go 2 S1 a1 w1 (.inr ⟨rfl, hsw⟩) hf1 h1 sb ?_ (fun _ => rfl) (.inr ⟨hsw, q1, q2⟩) e1
    intro hs; omega
/-- The body. -/
theorem body_any {w0 : Origin} {N : Nat} {h7 : Array Value} {va : Option Addr} {vl vc t : Nat} {S : Nat → Int} {L : Nat → Value} (na : Option Addr) (nl nc : Nat) (g c : Nat) (hg : g < 2) (hc : c < 2) (hB hR hP hM hJ hV hK : Int) (r0 : 0 ≤ hR) (r1 : hR ≤ 2) (hh7 : h7 = #[.int .i64 hB, .int .i64 hR, .int .i64 hP, .int .i64 hM, .int .i64 hJ, .int .i64 hV, .int .i64 hK])
    {x13 x14 x15 x18 x19 x25 x26 x27 x40 x41 x44 x46 : Value} (a : Act) (w : World) (hf : Fr N na nl nc (.int .i64 g) x13 x14 x15 x18 x19 x25 x26 x27 x40 x41 x44 (.int .i64 c) x46 a) (h : FM w0 N h7 va vl vc t S L w)
    (hnum : nl = 0 ∨ ∃ nb no, na = some ⟨nb, no, none⟩ ∧ nb < N ∧ ∀ j, j < nl → ∃ z : Int, 0 ≤ z ∧ z ≤ 4294967295 ∧ w0.w.cell? ⟨nb, no + j, none⟩ = some (.int .u32 z))
    (hz : GcZero S g c) (hmain : MainB S) (ht : t ≤ 800000) (hvl : vl ≤ 1000) (Q : Exit → Act → World → Prop)
    (hQ : ∀ (y14 y15 y18 y19 y25 y26 y27 : Value) (S' : Nat → Int) (t' lb : Nat) (a' : Act) (w' : World), Fr N na nl nc (.int .i64 g) (.int .i64 c) y14 y15 y18 y19 y25 y26 y27 x40 x41 x44 (.int .i64 c) x46 a' →
      FM w0 N h7 va vl vc t' S' (upd L (g * 2 + c) (.slice (some ⟨lb, 0, none⟩) 576 576)) w' → t' ≤ t + 150 → MainB S' → GcOk S' g c → (∀ j, Off j g c → S' j = S j) → N + 4 < lb → w0.M ≤ lb → LinR w' lb (topsOf S' hR g c) (S' (89 + g * 2 + c)).toNat → Q .normal a' w') :
    Code.wp Tryd.prog frBlock Q a w := by
  have z : ∀ j, j < 93 → ¬ Off j g c → S j = 0 := hz
  unfold Off at z
  rw [frBlock_eq]
  refine wp_block ?_
  refine wp_seq ?_
  refine it0w na nl nc 0 g c hg hc a w hf h _ ?_
  intro a1 w1 hf1 h1
  refine wp_seq ?_
  refine it1w na nl nc 0 g c hg hc a1 w1 hf1 h1 _ ?_
  intro a2 w2 hf2 h2
  refine wp_seq ?_
  refine it2w na nl nc 0 g c hg hc a2 w2 hf2 h2 hnum _ ?_
  rintro n a3 w3 hf3 ⟨n0, n1, h3⟩
  refine wp_seq ?_
  refine it3w na nl nc n g c hg hc n0 n1 ⟨z _ (by omega) (by omega), z _ (by omega) (by omega), z _ (by omega) (by omega)⟩ a3 w3 hf3 h3 _ ?_
  rintro S4 a4 w4 hf4 ⟨h4, kind, e4⟩
  refine wp_seq ?_
  refine it4w na nl nc n g c hg hc n0 n1 a4 w4 hf4 h4 _ ?_
  intro a5 w5 hf5 h5
  refine wp_seq ?_
  refine it5w na nl nc n g c hg hc n0 n1 _ (by omega) (by omega) (upd_at _ _ _) a5 w5 hf5 h5 _ ?_
  intro a6 w6 hf6 h6
  refine wp_seq ?_
  refine it6w na nl nc n g c hg hc n0 n1 a6 w6 hf6 h6 _ ?_
  intro a7 w7 hf7 h7'
  refine wp_seq ?_
  refine it7w na nl nc n g c hg hc n0 n1 a7 w7 hf7 h7' _ ?_
  intro a8 w8 hf8 h8
  refine wp_seq ?_
  refine it8w na nl nc n g c hg hc n0 n1 a8 w8 hf8 h8 _ ?_
  intro a9 w9 hf9 h9
  refine wp_seq ?_
  refine it9w na nl nc n g c hg hc a9 w9 hf9 h9 _ ?_
  intro a10 w10 hf10 h10
  obtain ⟨S5, hS5⟩ : ∃ S5, S5 = upd (upd (upd (upd (upd (upd (upd S4 (21 + g * 2 + c) (n / 8 % 30)) (89 + g * 2 + c) (2 * (n / 8 % 30) + 4 * (n / 256 % 6))) (25 + g * 2 + c) (160 + n / 2048 % 32)) (29 + g * 2 + c) (n / 65536 % 16)) (81 + g * 2 + c) (n / 1048576 % 2)) (77 + g * 2 + c) (n / 2097152 % 2)) (85 + g * 2 + c) (n / 4194304 % 2) := ⟨_, rfl⟩
  rw [← hS5] at h10
  have e5 : ∀ j, j ≠ 21 + g * 2 + c → j ≠ 89 + g * 2 + c → j ≠ 25 + g * 2 + c → j ≠ 29 + g * 2 + c → j ≠ 81 + g * 2 + c → j ≠ 77 + g * 2 + c → j ≠ 85 + g * 2 + c → S5 j = S4 j := by
    intro j q1 q2 q3 q4 q5 q6 q7
    rw [hS5, upd_not _ _ _ _ q7, upd_not _ _ _ _ q6, upd_not _ _ _ _ q5, upd_not _ _ _ _ q4, upd_not _ _ _ _ q3, upd_not _ _ _ _ q2, upd_not _ _ _ _ q1]
  have f21 : S5 (21 + g * 2 + c) = n / 8 % 30 := by
    rw [hS5, upd_not _ _ _ _ (by omega), upd_not _ _ _ _ (by omega), upd_not _ _ _ _ (by omega), upd_not _ _ _ _ (by omega), upd_not _ _ _ _ (by omega), upd_not _ _ _ _ (by omega), upd_at]
  have f89 : S5 (89 + g * 2 + c) = 2 * (n / 8 % 30) + 4 * (n / 256 % 6) := by
    rw [hS5, upd_not _ _ _ _ (by omega), upd_not _ _ _ _ (by omega), upd_not _ _ _ _ (by omega), upd_not _ _ _ _ (by omega), upd_not _ _ _ _ (by omega), upd_at]
  have f25 : S5 (25 + g * 2 + c) = 160 + n / 2048 % 32 := by
    rw [hS5, upd_not _ _ _ _ (by omega), upd_not _ _ _ _ (by omega), upd_not _ _ _ _ (by omega), upd_not _ _ _ _ (by omega), upd_at]
  have f29 : S5 (29 + g * 2 + c) = n / 65536 % 16 := by
    rw [hS5, upd_not _ _ _ _ (by omega), upd_not _ _ _ _ (by omega), upd_not _ _ _ _ (by omega), upd_at]
  have f81 : S5 (81 + g * 2 + c) = n / 1048576 % 2 := by
    rw [hS5, upd_not _ _ _ _ (by omega), upd_not _ _ _ _ (by omega), upd_at]
  have f77 : S5 (77 + g * 2 + c) = n / 2097152 % 2 := by
    rw [hS5, upd_not _ _ _ _ (by omega), upd_at]
  have f85 : S5 (85 + g * 2 + c) = n / 4194304 % 2 := by rw [hS5, upd_at]
  clear hS5
  have k33 := e5 (33 + g * 2 + c) (by omega) (by omega) (by omega) (by omega) (by omega) (by omega) (by omega)
  have k37 := e5 (37 + g * 2 + c) (by omega) (by omega) (by omega) (by omega) (by omega) (by omega) (by omega)
  have k41 := e5 (41 + g * 2 + c) (by omega) (by omega) (by omega) (by omega) (by omega) (by omega) (by omega)
  have eS : ∀ j, j ≠ 21 + g * 2 + c → j ≠ 89 + g * 2 + c → j ≠ 25 + g * 2 + c → j ≠ 29 + g * 2 + c → j ≠ 81 + g * 2 + c → j ≠ 77 + g * 2 + c → j ≠ 85 + g * 2 + c → j ≠ 33 + g * 2 + c → j ≠ 37 + g * 2 + c → j ≠ 41 + g * 2 + c → S5 j = S j := fun j q1 q2 q3 q4 q5 q6 q7 q8 q9 q10 => (e5 j q1 q2 q3 q4 q5 q6 q7).trans (e4 j q8 q9 q10)
  refine tail10 na nl nc n g c hg hc n0 n1 hB hR hP hM hJ hV hK r0 r1 hh7 a10 w10 hf10 h10 (by omega) (by omega) (by omega) (by unfold Kind at kind ⊢; rw [k33, k37, k41]; exact kind) ?_ ?_ (by omega) (by omega) (by omega) (by omega) ?_ ht hvl _ ?_
  · rw [eS _ (by omega) (by omega) (by omega) (by omega) (by omega) (by omega) (by omega) (by omega) (by omega) (by omega)]
    exact z _ (by omega) (by omega)
  · intro i hi
    rw [eS _ (by omega) (by omega) (by omega) (by omega) (by omega) (by omega) (by omega) (by omega) (by omega) (by omega)]
    exact z _ (by omega) (by omega)
  · intro j j0 j1
    rw [eS _ (by omega) (by omega) (by omega) (by omega) (by omega) (by omega) (by omega) (by omega) (by omega) (by omega)]
    exact hmain j j0 j1
  intro y15 y18 y19 y25 y26 y27 S' t' lb a' w' hf' h' ht' hm' ok' e' b1 b2 l'
  refine hQ (.int .u32 n) y15 y18 y19 y25 y26 y27 S' t' lb a' w' ?_ h' ht' hm' ok' ?_ b1 b2 l'
  · exact hf'
  · intro j hj
    have hj' := hj
    unfold Off at hj'
    rw [e' j hj]
    exact eS _ (by omega) (by omega) (by omega) (by omega) (by omega) (by omega) (by omega) (by omega) (by omega) (by omega)
end Go.Proofs.YtppfldobgemddaaDoor
namespace Go.Proofs.YtppfldobgemddaaDoor
open Go.RowKit
set_option linter.unusedVariables false

theorem topsOf_same' {S S' : Nat → Int} {hR : Int} {g c : Nat} (hg : g < 2) (hc : c < 2) (e : ∀ j, ¬ Off j g c → j < 93 → S' j = S j) : topsOf S' hR g c = topsOf S hR g c := by
  unfold Off at e
  unfold topsOf reg1 reg2; simp only []; rw [shortB_side, shortB_side, e (33 + g * 2 + c) (by omega) (by omega), e (37 + g * 2 + c) (by omega) (by omega), e (45 + g * 6 + c * 3) (by omega) (by omega), e (45 + g * 6 + c * 3 + 1) (by omega) (by omega), e (45 + g * 6 + c * 3 + 2) (by omega) (by omega), e (7 + (62 + g * 2 + c)) (by omega) (by omega), e (7 + (66 + g * 2 + c)) (by omega) (by omega), e (21 + g * 2 + c) (by omega) (by omega)]
/-- Cells of different granules of channels are apart. -/
theorem off_of {g c g' c' j : Nat} (hg : g < 2) (hc : c < 2) (hg' : g' < 2) (hc' : c' < 2) (hne : g ≠ g' ∨ c ≠ c') (hj : j < 93) (h : ¬ Off j g' c') : Off j g c := by
  unfold Off at h ⊢
  have e1 : g = 0 ∨ g = 1 := by omega
  have e2 : c = 0 ∨ c = 1 := by omega
  have e3 : g' = 0 ∨ g' = 1 := by omega
  have e4 : c' = 0 ∨ c' = 1 := by omega
  rcases e1 with rfl | rfl <;> rcases e2 with rfl | rfl <;> rcases e3 with rfl | rfl <;> rcases e4 with rfl | rfl <;> first | (exfalso; omega) | (simp only [Nat.zero_mul, Nat.one_mul, Nat.add_zero] at h ⊢; omega)
/-- The frame on the way: what is told of the granules of channels that are done. -/
structure FS (w0 : World) (N : Nat) (h7 : Array Value) (va : Option Addr) (vl vc : Nat) (hR : Int) (Z : Nat → Int) (done : Nat → Nat → Prop) (t : Nat) (S : Nat → Int) (L : Nat → Value) (w : World) : Prop where
  fm : FM ⟨w0, 0, w0⟩ N h7 va vl vc t S L w
  main : MainB S
  ok : ∀ g c, g < 2 → c < 2 → done g c → GcOk S g c ∧ ∃ lb, N + 4 < lb ∧ L (g * 2 + c) = .slice (some ⟨lb, 0, none⟩) 576 576 ∧ LinR w lb (topsOf S hR g c) (S (89 + g * 2 + c)).toNat
  zero : ∀ g c, g < 2 → c < 2 → ¬ done g c → GcZero S g c
  early : ∀ j, j < 21 → S j = Z j
  lin : ∀ j, j < 4 → ∃ a n c, L j = .slice a n c
theorem FM.any {w0 w1 : Origin} {N : Nat} {h7 : Array Value} {va : Option Addr} {vl vc t : Nat} {S : Nat → Int} {L : Nat → Value} {w : World} (h : FM w0 N h7 va vl vc t S L w) (e : w1.w = w0.w) (e1 : w1.M = 0) : FM w1 N h7 va vl vc t S L w := by
  refine ⟨by rw [e]; exact h.below, h.size, by omega, fun b _ hb => by omega, h.head, h.vals, h.res, h.frame, h.count, ?_⟩
  rw [e]; exact h.came
/-- Nothing but numbers and the world's later part has changed. -/
theorem FS.same {w0 : World} {N : Nat} {h7 : Array Value} {va : Option Addr} {vl vc : Nat} {hR : Int} {Z : Nat → Int} {done : Nat → Nat → Prop} {t t' : Nat} {S : Nat → Int} {L : Nat → Value} {w w' : World} (h : FS w0 N h7 va vl vc hR Z done t S L w) (h' : FM ⟨w0, w.heap.size, w⟩ N h7 va vl vc t' S L w') : FS w0 N h7 va vl vc hR Z done t' S L w' := by
  refine ⟨h'.any rfl rfl, h.main, fun g c hg hc hd => ?_, h.zero, h.early, h.lin⟩
  obtain ⟨k, lb, b1, b2, b3⟩ := h.ok g c hg hc hd
  exact ⟨k, lb, b1, b2, b3.same (h'.keep lb b1 (lin_lt b3))⟩
/-- One more granule of a channel is done. -/
theorem FS.next {w0 : World} {N : Nat} {h7 : Array Value} {va : Option Addr} {vl vc : Nat} {hR : Int} {Z : Nat → Int} {done done' : Nat → Nat → Prop} {t t' : Nat} {S S' : Nat → Int} {L : Nat → Value} {w w' : World} (h : FS w0 N h7 va vl vc hR Z done t S L w) (g c lb : Nat) (hg : g < 2) (hc : c < 2)
    (h' : FM ⟨w0, w.heap.size, w⟩ N h7 va vl vc t' S' (upd L (g * 2 + c) (.slice (some ⟨lb, 0, none⟩) 576 576)) w') (hm : MainB S') (ok : GcOk S' g c) (e : ∀ j, Off j g c → S' j = S j) (hb : N + 4 < lb) (hl : LinR w' lb (topsOf S' hR g c) (S' (89 + g * 2 + c)).toNat)
    (hd : ∀ g' c', done' g' c' ↔ (done g' c' ∨ (g' = g ∧ c' = c))) : FS w0 N h7 va vl vc hR Z done' t' S' (upd L (g * 2 + c) (.slice (some ⟨lb, 0, none⟩) 576 576)) w' := by
  refine ⟨h'.any rfl rfl, hm, fun g' c' hg' hc' hd' => ?_, fun g' c' hg' hc' hd' => ?_, fun j hj => ?_, fun j hj => ?_⟩
  · by_cases eq : g' = g ∧ c' = c
    · obtain ⟨rfl, rfl⟩ := eq
      exact ⟨ok, lb, hb, upd_at _ _ _, hl⟩
    · have hd2 : done g' c' := by rcases (hd g' c').1 hd' with q | q; exact q; exact absurd q eq
      have hne : g ≠ g' ∨ c ≠ c' := by omega
      obtain ⟨k, lb', b1, b2, b3⟩ := h.ok g' c' hg' hc' hd2
      have es : ∀ j, ¬ Off j g' c' → j < 93 → S' j = S j := fun j hj hlt => e j (off_of hg hc hg' hc' hne hlt hj)
      refine ⟨k.same hg' hc' es, lb', b1, by rw [upd_not _ _ _ _ (by omega)]; exact b2, ?_⟩
      rw [topsOf_same' hg' hc' es, es (89 + g' * 2 + c') (by unfold Off; omega) (by omega)]
      exact b3.same (h'.keep lb' b1 (lin_lt b3))
  · intro j hj ho
    have hne : g ≠ g' ∨ c ≠ c' := by
      by_cases q : g = g' ∧ c = c'
      · exact absurd ((hd g' c').2 (.inr ⟨q.1.symm, q.2.symm⟩)) hd'
      · omega
    rw [e j (off_of hg hc hg' hc' hne hj ho)]
    exact h.zero g' c' hg' hc' (fun q => hd' ((hd g' c').2 (.inl q))) j hj ho
  · rw [e j (by unfold Off; omega)]; exact h.early j hj
  · by_cases q : j = g * 2 + c
    · subst q; exact ⟨_, _, _, upd_at _ _ _⟩
    · rw [upd_not _ _ _ _ q]; exact h.lin j hj
end Go.Proofs.YtppfldobgemddaaDoor
namespace Go.Proofs.YtppfldobgemddaaDoor
open Go.RowKit
set_option linter.unusedVariables false

/-- What is done: the granules ahead, and the channels ahead of this one. -/
def dn (g c m : Nat) (g' c' : Nat) : Prop := (g' < g ∧ c' < m) ∨ (g' = g ∧ c' < c)
theorem FS.iff {w0 : World} {N : Nat} {h7 : Array Value} {va : Option Addr} {vl vc : Nat} {hR : Int} {Z : Nat → Int} {done done' : Nat → Nat → Prop} {t : Nat} {S : Nat → Int} {L : Nat → Value} {w : World} (h : FS w0 N h7 va vl vc hR Z done t S L w) (hd : ∀ g c, done' g c ↔ done g c) : FS w0 N h7 va vl vc hR Z done' t S L w :=
  ⟨h.fm, h.main, fun g c hg hc q => h.ok g c hg hc ((hd g c).1 q), fun g c hg hc q => h.zero g c hg hc (fun r => q ((hd g c).2 r)), h.early, h.lin⟩
section
variable {w0 : World} {N : Nat} {h7 : Array Value} {va : Option Addr} {vl vc : Nat} {Z : Nat → Int} {na : Option Addr} {nl nc : Nat} {hB hR hP hM hJ hV hK : Int} {x12 x13 x14 x15 x18 x19 x25 x26 x27 x40 x41 x44 x45 x46 : Value}
/-- What stays the same all the way. -/
structure Given (w0 : World) (N : Nat) (h7 : Array Value) (vl : Nat) (na : Option Addr) (nl : Nat) (hB hR hP hM hJ hV hK : Int) (m : Nat) : Prop where
  r0 : 0 ≤ hR
  r1 : hR ≤ 2
  hh7 : h7 = #[.int .i64 hB, .int .i64 hR, .int .i64 hP, .int .i64 hM, .int .i64 hJ, .int .i64 hV, .int .i64 hK]
  hnum : nl = 0 ∨ ∃ nb no, na = some ⟨nb, no, none⟩ ∧ nb < N ∧ ∀ j, j < nl → ∃ z : Int, 0 ≤ z ∧ z ≤ 4294967295 ∧ w0.cell? ⟨nb, no + j, none⟩ = some (.int .u32 z)
  hvl : vl ≤ 1000
  hm : chans hM = m
  m1 : 1 ≤ m
  m2 : m ≤ 2
theorem inner_round {m : Nat} (G : Given w0 N h7 vl na nl hB hR hP hM hJ hV hK m) (g c : Nat) (hg : g < 2) (hc : c < m) {t : Nat} {S : Nat → Int} {L : Nat → Value} (a : Act) (w : World)
    (hf : Fr N na nl nc (.int .i64 g) x13 x14 x15 x18 x19 x25 x26 x27 x40 x41 (.int .i64 m) (.int .i64 c) x46 a) (fs : FS w0 N h7 va vl vc hR Z (dn g c m) t S L w) (ht : t ≤ 700000) (K : Act → World → Prop) (Q : Exit → Act → World → Prop)
    (hQ' : ∀ (y13 y14 y15 y18 y19 y25 y26 y27 y46 : Value) (t' : Nat) (S' : Nat → Int) (L' : Nat → Value) (a' : Act) (w' : World), Fr N na nl nc (.int .i64 g) y13 y14 y15 y18 y19 y25 y26 y27 x40 x41 (.int .i64 m) (.int .i64 (c + 1 : Nat)) y46 a' → FS w0 N h7 va vl vc hR Z (dn g (c + 1) m) t' S' L' w' → t' ≤ t + 150 → K a' w') :
    Code.wp Tryd.prog frLoop1 (Exit.then K Q) a w := by
  have m2 := G.m2
  rw [frLoop1_eq]
  refine wp_seq ?_
  refine hr9w na nl nc 0 0 0 (by decide) (by decide) c m a w hf fs.fm.fresh _ ?_
  intro a1 w1 hf1 h1
  have fs1 := fs.same h1
  refine wp_seq ?_
  refine wp_cond_true ?_ ?_
  · show a1.tmps.getD 46 undef = _
    rw [hf1.at46, decide_eq_true (show (c : Int) < (m : Int) by omega)]
  refine wp_skip ?_
  refine wp_seq ?_
  refine body_any na nl nc g c hg (by omega) hB hR hP hM hJ hV hK G.r0 G.r1 G.hh7 a1 w1 hf1 fs1.fm.fresh G.hnum (fs1.zero g c hg (by omega) (by unfold dn; omega)) fs1.main (by omega) G.hvl _ ?_
  intro y14 y15 y18 y19 y25 y26 y27 S2 t2 lb a2 w2 hf2 h2 ht2 hm2 ok2 e2 b1 b2 l2
  have fs2 := fs1.next (done' := dn g (c + 1) m) g c lb hg (by omega) h2 hm2 ok2 e2 b1 l2 (by intro g' c'; unfold dn; omega)
  refine hr92w na nl nc 0 0 0 (by decide) (by decide) c (by omega) a2 w2 hf2 fs2.fm.fresh _ ?_
  intro a3 w3 hf3 h3
  exact hQ' _ _ _ _ _ _ _ _ _ t2 S2 _ a3 w3 hf3 (fs2.same h3) ht2
theorem inner_exit {m : Nat} (g : Nat) {t : Nat} {S : Nat → Int} {L : Nat → Value} (a : Act) (w : World)
    (hf : Fr N na nl nc (.int .i64 g) x13 x14 x15 x18 x19 x25 x26 x27 x40 x41 (.int .i64 m) (.int .i64 m) x46 a) (fs : FS w0 N h7 va vl vc hR Z (dn g m m) t S L w) (Q : Exit → Act → World → Prop)
    (hQ : ∀ (y46 : Value) (a' : Act) (w' : World), Fr N na nl nc (.int .i64 g) x13 x14 x15 x18 x19 x25 x26 x27 x40 x41 (.int .i64 m) (.int .i64 m) y46 a' → FS w0 N h7 va vl vc hR Z (dn g m m) t S L w' → Q (.exit 2) a' w') :
    Code.wp Tryd.prog frLoop1 Q a w := by
  rw [frLoop1_eq]
  refine wp_seq ?_
  refine hr9w na nl nc 0 0 0 (by decide) (by decide) m m a w hf fs.fm.fresh _ ?_
  intro a1 w1 hf1 h1
  have fs1 := fs.same h1
  refine wp_seq ?_
  refine wp_cond_false ?_ ?_
  · show a1.tmps.getD 46 undef = _
    rw [hf1.at46, decide_eq_false (show ¬ (m : Int) < (m : Int) by omega)]
  refine wp_exit ?_
  exact hQ _ a1 w1 hf1 fs1
theorem inner_all {m : Nat} (G : Given w0 N h7 vl na nl hB hR hP hM hJ hV hK m) (g : Nat) (hg : g < 2) {t : Nat} {S : Nat → Int} {L : Nat → Value} (a : Act) (w : World)
    (hf : Fr N na nl nc (.int .i64 g) x13 x14 x15 x18 x19 x25 x26 x27 x40 x41 (.int .i64 m) (.int .i64 (0 : Nat)) x46 a) (fs : FS w0 N h7 va vl vc hR Z (dn g 0 m) t S L w) (ht : t ≤ 600000) (Q : Exit → Act → World → Prop)
    (hQ : ∀ (y13 y14 y15 y18 y19 y25 y26 y27 y45 y46 : Value) (t' : Nat) (S' : Nat → Int) (L' : Nat → Value) (a' : Act) (w' : World), Fr N na nl nc (.int .i64 g) y13 y14 y15 y18 y19 y25 y26 y27 x40 x41 (.int .i64 m) y45 y46 a' → FS w0 N h7 va vl vc hR Z (dn g m m) t' S' L' w' → t' ≤ t + 300 → Q .normal a' w') :
    Code.wp Tryd.prog (.block 2 (.loop frLoop1)) Q a w := by
  refine wp_block ?_
  have m1 := G.m1
  have m2 := G.m2
  have hm : m = 1 ∨ m = 2 := by omega
  rcases hm with rfl | rfl
  · refine wp_loop_rounds 2 ?_
    rw [rounds_succ]
    refine inner_round G g 0 hg (by decide) a w hf fs (by omega) _ _ ?_
    intro y13 y14 y15 y18 y19 y25 y26 y27 y46 t1 S1 L1 a1 w1 hf1 fs1 ht1
    rw [rounds_succ]
    refine inner_exit g a1 w1 hf1 fs1 _ ?_
    intro y46 a2 w2 hf2 fs2
    exact hQ _ _ _ _ _ _ _ _ _ _ t1 S1 L1 a2 w2 hf2 fs2 (by omega)
  · refine wp_loop_rounds 3 ?_
    rw [rounds_succ]
    refine inner_round G g 0 hg (by decide) a w hf fs (by omega) _ _ ?_
    intro y13 y14 y15 y18 y19 y25 y26 y27 y46 t1 S1 L1 a1 w1 hf1 fs1 ht1
    rw [rounds_succ]
    refine inner_round G g 1 hg (by decide) a1 w1 hf1 fs1 (by omega) _ _ ?_
    intro y13 y14 y15 y18 y19 y25 y26 y27 y46 t2 S2 L2 a2 w2 hf2 fs2 ht2
    rw [rounds_succ]
    refine inner_exit g a2 w2 hf2 fs2 _ ?_
    intro y46 a3 w3 hf3 fs3
    exact hQ _ _ _ _ _ _ _ _ _ _ t2 S2 L2 a3 w3 hf3 fs3 (by omega)
theorem outer_round {m : Nat} (G : Given w0 N h7 vl na nl hB hR hP hM hJ hV hK m) (g : Nat) (hg : g < 2) {t : Nat} {S : Nat → Int} {L : Nat → Value} (a : Act) (w : World)
    (hf : Fr N na nl nc x12 x13 x14 x15 x18 x19 x25 x26 x27 (.int .i64 g) x41 x44 x45 x46 a) (fs : FS w0 N h7 va vl vc hR Z (dn g 0 m) t S L w) (ht : t ≤ 500000) (K : Act → World → Prop) (Q : Exit → Act → World → Prop)
    (hQ' : ∀ (y12 y13 y14 y15 y18 y19 y25 y26 y27 y41 y44 y45 y46 : Value) (t' : Nat) (S' : Nat → Int) (L' : Nat → Value) (a' : Act) (w' : World), Fr N na nl nc y12 y13 y14 y15 y18 y19 y25 y26 y27 (.int .i64 (g + 1 : Nat)) y41 y44 y45 y46 a' → FS w0 N h7 va vl vc hR Z (dn (g + 1) 0 m) t' S' L' w' → t' ≤ t + 300 → K a' w') :
    Code.wp Tryd.prog frLoop0 (Exit.then K Q) a w := by
  rw [frLoop0_eq]
  refine wp_seq ?_
  refine hr6w na nl nc 0 0 0 (by decide) (by decide) g a w hf fs.fm.fresh _ ?_
  intro a1 w1 hf1 h1
  have fs1 := fs.same h1
  refine wp_seq ?_
  refine wp_cond_true ?_ ?_
  · show a1.tmps.getD 41 undef = _
    rw [hf1.at41, decide_eq_true (show (g : Int) < 2 by omega)]
  refine wp_skip ?_
  refine wp_seq ?_
  refine wp_block ?_
  refine wp_seq ?_
  refine hr7w na nl nc 0 0 0 (by decide) (by decide) g a1 w1 hf1 fs1.fm.fresh _ ?_
  intro a2 w2 hf2 h2
  have fs2 := fs1.same h2
  refine wp_seq ?_
  refine hr8w na nl nc 0 0 0 (by decide) (by decide) hB hR hP hM hJ hV hK G.hh7 a2 w2 hf2 fs2.fm.fresh _ ?_
  intro a3 w3 hf3 h3
  have fs3 := fs2.same h3
  rw [G.hm] at hf3
  refine inner_all G g hg a3 w3 hf3 fs3 (by omega) _ ?_
  intro y13 y14 y15 y18 y19 y25 y26 y27 y45 y46 t4 S4 L4 a4 w4 hf4 fs4 ht4
  refine hr93w na nl nc 0 0 0 (by decide) (by decide) g (by omega) a4 w4 hf4 fs4.fm.fresh _ ?_
  intro a5 w5 hf5 h5
  exact hQ' _ _ _ _ _ _ _ _ _ _ _ _ _ t4 S4 L4 a5 w5 hf5 ((fs4.same h5).iff (by intro g' c'; unfold dn; omega)) ht4
theorem outer_exit {m : Nat} {t : Nat} {S : Nat → Int} {L : Nat → Value} (a : Act) (w : World)
    (hf : Fr N na nl nc x12 x13 x14 x15 x18 x19 x25 x26 x27 (.int .i64 (2 : Nat)) x41 x44 x45 x46 a) (fs : FS w0 N h7 va vl vc hR Z (dn 2 0 m) t S L w) (Q : Exit → Act → World → Prop)
    (hQ : ∀ (y41 : Value) (a' : Act) (w' : World), Fr N na nl nc x12 x13 x14 x15 x18 x19 x25 x26 x27 (.int .i64 (2 : Nat)) y41 x44 x45 x46 a' → FS w0 N h7 va vl vc hR Z (dn 2 0 m) t S L w' → Q (.exit 0) a' w') :
    Code.wp Tryd.prog frLoop0 Q a w := by
  rw [frLoop0_eq]
  refine wp_seq ?_
  refine hr6w na nl nc 0 0 0 (by decide) (by decide) 2 a w hf fs.fm.fresh _ ?_
  intro a1 w1 hf1 h1
  have fs1 := fs.same h1
  refine wp_seq ?_
  refine wp_cond_false ?_ ?_
  · show a1.tmps.getD 41 undef = _
    rw [hf1.at41]; rfl
  refine wp_exit ?_
  exact hQ _ a1 w1 hf1 fs1
theorem outer_all {m : Nat} (G : Given w0 N h7 vl na nl hB hR hP hM hJ hV hK m) {t : Nat} {S : Nat → Int} {L : Nat → Value} (a : Act) (w : World)
    (hf : Fr N na nl nc x12 x13 x14 x15 x18 x19 x25 x26 x27 x40 x41 x44 x45 x46 a) (fs : FS w0 N h7 va vl vc hR Z (dn 0 0 m) t S L w) (ht : t ≤ 100000) (Q : Exit → Act → World → Prop)
    (hQ : ∀ (y12 y13 y14 y15 y18 y19 y25 y26 y27 y40 y41 y44 y45 y46 : Value) (t' : Nat) (S' : Nat → Int) (L' : Nat → Value) (a' : Act) (w' : World), Fr N na nl nc y12 y13 y14 y15 y18 y19 y25 y26 y27 y40 y41 y44 y45 y46 a' → FS w0 N h7 va vl vc hR Z (dn 2 0 m) t' S' L' w' → t' ≤ t + 600 → Q .normal a' w') :
    Code.wp Tryd.prog (.seq fr5 (.block 0 (.loop frLoop0))) Q a w := by
  refine wp_seq ?_
  refine hr5w na nl nc 0 0 0 (by decide) (by decide) a w hf fs.fm.fresh _ ?_
  intro a0 w0' hf0 h0
  have fs0 := fs.same h0
  refine wp_block ?_
  refine wp_loop_rounds 3 ?_
  rw [rounds_succ]
  refine outer_round G 0 (by decide) a0 w0' hf0 fs0 (by omega) _ _ ?_
  intro y12 y13 y14 y15 y18 y19 y25 y26 y27 y41 y44 y45 y46 t1 S1 L1 a1 w1 hf1 fs1 ht1
  rw [rounds_succ]
  refine outer_round G 1 (by decide) a1 w1 hf1 fs1 (by omega) _ _ ?_
  intro y12 y13 y14 y15 y18 y19 y25 y26 y27 y41 y44 y45 y46 t2 S2 L2 a2 w2 hf2 fs2 ht2
  rw [rounds_succ]
  refine outer_exit a2 w2 hf2 fs2 _ ?_
  intro y41 a3 w3 hf3 fs3
  exact hQ _ _ _ _ _ _ _ _ _ _ _ _ _ _ t2 S2 L2 a3 w3 hf3 fs3 (by omega)
end
end Go.Proofs.YtppfldobgemddaaDoor
