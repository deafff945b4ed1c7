/-
  The contracts of sideinfo.ZZRead and impl.SideInfo; What a frame tells: that its side information can be written and read. Plain law.
-/
import Derived.Test.YtppfldobgemddaaDoorMm
import Derived.Test.YtppfldobgemddaaDoorYh
import Derived.Test.YtppfldobgemddaaDoorYc
import Derived.Test.YtppfldobgemddaaDoorMf
import Derived.Test.YtppfldobgemddaaDoorHt
namespace Go.Proofs.YtppfldobgemddaaDoor
open Go.RowKit
set_option linter.unusedVariables false

/-- Bytes that hold side information. -/
structure SideIn (x : Int) (n : Nat) (S : Nat → Int) (L : List Int) : Prop where
  h0 : 0 ≤ x
  h1 : x ≤ 4294967295
  hv : fID x = 3
  hl : fLayer x = 1
  hs : fSF x ≤ 2
  hp : fProt x = 1
  hm : (n = 1 ∧ fMode x = 3 ∧ L.length = 17) ∨ (n = 2 ∧ ¬ fMode x = 3 ∧ L.length = 32)
  hL : Bytes L
  said : SideSaid L S n
  fit : ∀ g c, g < 2 → c < n → GcFit S g c
  shape : ∀ g c, g < 2 → c < n → GcShape S g c
  s0 : 0 ≤ S 0 ∧ S 0 < 512
  s1 : 0 ≤ S 1 ∧ S 1 < 8
  sc : ∀ j, 2 ≤ j → j < 10 → 0 ≤ S j ∧ S j < 2
  gone : ∀ j, 2 ≤ j → j < 82 → (∀ c k, c < n → k < 4 → j ≠ 2 + c * 4 + k) → (∀ g c, g < 2 → c < n → ¬ GcCell g c j) → S j = 0
theorem side_read {x : Int} {n : Nat} {S : Nat → Int} {L : List Int} (h : SideIn x n S L) (tl : List Int) (cap Z X : Nat) (w : World) (hz : Zz w Z X cap (L ++ tl) 0) (tab : BitsTab w) (hZ2 : 2 < Z) :
    Calls Tryd.prog 48 #[.iface 129 (.pointer (some ⟨Z, 0, none⟩)), .int .u32 x] w fun e w' => ∃ p T, e = .returned (.tuple #[.pointer (some ⟨p, 0, none⟩), .nilIface]) ∧ w'.heap[p]? = some (.cells (numL 86 T).toArray 133 (0, 0)) ∧ (∀ j, j < 82 → T j = S j) ∧ (∀ j, 82 ≤ j → T j = 0) ∧ Below Z w w' := by
  rcases h.hm with ⟨rfl, hm, hK⟩ | ⟨rfl, hm, hK⟩
  · exact read_1 x h.h0 h.h1 h.hv h.hl h.hs h.hp hm S L tl cap Z X hK h.hL h.said h.fit h.shape h.s0 h.s1 h.sc h.gone w hz tab hZ2
  · exact read_2 x h.h0 h.h1 h.hv h.hl h.hs h.hp hm S L tl cap Z X hK h.hL h.said h.fit h.shape h.s0 h.s1 h.sc h.gone w hz tab hZ2
set_option maxHeartbeats 1000000 in
theorem zzSide_any {x : Int} {n : Nat} {S : Nat → Int} {L : List Int} (h : SideIn x n S L) (tl : List Int) (m X cap : Nat) (hm : (L ++ tl).length = m) (hsm : m ≤ 1000000) (hcap : m ≤ cap) (hcap2 : cap ≤ maxLen) (w : World) (hX : X < w.heap.size)
    (hc : ∀ j, j < m → w.cell? ⟨X, j, none⟩ = some (.int .u8 ((L ++ tl).getD j 0))) (tab : BitsTab w) (h2 : 2 < w.heap.size) :
    Calls Tryd.prog 31 #[.slice (some ⟨X, 0, none⟩) m cap, .int .u32 x] w fun e w' => ∃ p T, e = .returned (.tuple #[.pointer (some ⟨p, 0, none⟩), .nilIface]) ∧ w'.heap[p]? = some (.cells (numL 86 T).toArray 133 (0, 0)) ∧ (∀ j, j < 82 → T j = S j) ∧ (∀ j, 82 ≤ j → T j = 0) ∧ Below w.heap.size w w' := by
  have HC := Lib.hid hc
  have H := Lib.hid h
  have HT := Lib.hid tab
  have HM := Lib.hid hm
  clear hc h tab hm
  go_enter Tryd.func31, Tryd.ntmps31
  go_wp2_with fail
  have hz : Zz (w.alloc (.cells #[.slice (some ⟨X, 0, none⟩) m cap] 131)) w.heap.size X cap (L ++ tl) 0 := by
    refine ⟨⟨some ⟨X, 0, none⟩, by simp [HM.out], fun _ => rfl⟩, fun j => by simp, fun j hj => ?_, by rw [HM.out]; exact hsm, by rw [HM.out]; exact hcap, hcap2, hX, by simp⟩
    rw [World.cell?_alloc_past _ _ _ (by exact hX)]; exact HC.out j (by rw [HM.out] at hj; exact hj)
  have hb0 : Below w.heap.size w (w.alloc (.cells #[.slice (some ⟨X, 0, none⟩) m cap] 131)) := stpA (stp0 w) _
  refine (side_read H.out tl cap w.heap.size X _ hz (HT.out.below h2 hb0) h2).mono ?_
  rintro e w1 ⟨p, T, rfl, hr, h1, h3, hb1⟩
  have HR := Lib.hid (And.intro hr (And.intro h1 (And.intro h3 (hb0.trans hb1))))
  clear hz hb0 hr h1 h3 hb1
  go_wp2_with fail
  go_ret2
  exact ⟨p, T, rfl, HR.out.1, HR.out.2.1, HR.out.2.2.1, HR.out.2.2.2⟩
attribute [local go_sem ↓] bigStore47
set_option maxRecDepth 1000000 in
set_option maxHeartbeats 4000000 in
theorem implSide_any {x : Int} {n : Nat} {S : Nat → Int} {L : List Int} (h : SideIn x n S L) (tl : List Int) (b m cap : Nat) (hm : (L ++ tl).length = m) (hsm : m ≤ 1000000) (w : World)
    (hc : ∀ j, j < m → w.cell? ⟨b, j, none⟩ = some (.int .u8 ((L ++ tl).getD j 0))) (tab : BitsTab w) :
    Calls Tryd.prog 14 #[.slice (some ⟨b, 0, none⟩) m cap, .int .u32 x] w fun e w' => ∃ T, e = .returned (.tuple #[.agg (numL 86 T).toArray, .bool true]) ∧ (∀ j, j < 82 → T j = S j) ∧ Below w.heap.size w w' := by
  have hz := (zero_of_info zero47').1
  have h2 : 2 < w.heap.size := block_lt_of_cell tab.b0
  have hbm : 0 < m := by rw [← hm, List.length_append]; rcases h.hm with q | q <;> omega
  obtain ⟨w0, hw0⟩ : ∃ w0, w0 = w.alloc (.cells (numL 86 (fun _ => 0)).toArray 47) := ⟨_, rfl⟩
  have hb0 : Below w.heap.size w w0 := hw0 ▸ stpA (stp0 w) _
  have hbl : b < w.heap.size := block_lt_of_cell (hc 0 hbm)
  have hc0 : ∀ j, j < m → w0.cell? ⟨b, 0 + j, none⟩ = some (.int .u8 ((L ++ tl).getD j 0)) := fun j hj => by
    rw [Nat.zero_add, hb0.cell (p := ⟨b, j, none⟩) hbl]; exact hc j hj
  have hrow : w0.heap[w.heap.size]? = some (.cells (numL 86 (fun _ => 0)).toArray 47 (0, 0)) := by rw [hw0, heap_alloc_last]
  have hs0 : w0.heap.size = w.heap.size + 1 := by rw [hw0]; simp
  have H := Lib.hid h
  have HM := Lib.hid hm
  have HC0 := Lib.hid hc0
  have HW0 := Lib.hid hw0
  have HB0 := Lib.hid hb0
  have HT := Lib.hid (tab.below h2 hb0)
  have HROW := Lib.hid hrow
  have HS0 := Lib.hid hs0
  have HI47 : Hid (∀ S, (Tryd.prog.info? 47).map (·.size) = some (numL 86 S).toArray.size) := Lib.hid (fun S => by rw [List.size_toArray, numL_len]; kernel_rfl)
  clear h hm hc0 hw0 hb0 tab hrow hc hs0
  go_enter Tryd.func14, Tryd.ntmps14
  go_wp2_with fail
  rw [← HW0.out]
  refine (cloneBytes_any b 0 m cap (L ++ tl) HM.out hsm w0 HC0.out).mono ?_
  rintro e w1 ⟨⟨v, rfl, hown⟩, hb1⟩
  have hcell : ∃ g cap', v = .slice (some ⟨g, 0, none⟩) m cap' ∧ m ≤ cap' ∧ cap' ≤ maxLen ∧ g < w1.heap.size ∧ ∀ j, j < m → w1.cell? ⟨g, j, none⟩ = some (.int .u8 ((L ++ tl).getD j 0)) := by
    rcases hown.2 with ⟨_, h0⟩ | ⟨g, cap', cur, rfl, h1, h2, h3, h4, _⟩
    · omega
    · refine ⟨g, cap', rfl, h3, h4, (hown.lt g rfl).2, fun j hj => ?_⟩
      rw [hown.cellAt j (by omega), List.getD_eq_getElem?_getD, List.getElem?_map, List.getElem?_eq_getElem (by rw [HM.out]; exact hj)]; rfl
  obtain ⟨g, cap', rfl, hcap1, hcap2, hg, hgc⟩ := hcell
  have HG := Lib.hid hgc
  have HB1 := Lib.hid (stp HB0.out hb1)
  clear hgc hown
  go_wp2_with fail
  refine (zzSide_any H.out tl m g cap' HM.out hsm hcap1 hcap2 w1 hg HG.out (HT.out.below (by rw [HS0.out]; omega) hb1) (by have := HB1.out.size; omega)).mono ?_
  rintro e w2 ⟨p, T, rfl, hr, h1, h3, hb2⟩
  have HB2 := Lib.hid (stp HB1.out hb2)
  have HROW2 : Hid (w2.heap[w.heap.size]? = some (.cells (numL 86 (fun _ => 0)).toArray 47 (0, 0))) := Lib.hid (by
    rw [hb2.block _ (by have := hb1.size; have := HS0.out; omega), hb1.block _ (by have := HS0.out; omega)]; exact HROW.out)
  have H1 := Lib.hid h1
  have HS1 := Lib.hid (show w.heap.size < w2.heap.size from lt_of_heap HROW2.out)
  clear hb1 hb2 h1 h3
  go_wp2_with fail
  refine (told_any p T _ hr).mono ?_
  rintro e w3 ⟨rfl, hb3⟩
  have HROW3 : Hid (w3.heap[w.heap.size]? = some (.cells (numL 86 (fun _ => 0)).toArray 47 (0, 0))) := Lib.hid (by
    rw [hb3.block _ HS1.out]; exact HROW2.out)
  have HB3 := Lib.hid (stp HB2.out hb3)
  clear hr hb3
  go_wp2_with (refine wpList_store_rowTo rfl 47 (.tmp 4) (.tmp 19) rfl rfl w.heap.size (numL 86 T).toArray rfl rfl 47 _ HROW3.out (HI47.out T) (by rw [List.size_toArray, List.size_toArray, numL_len, numL_len]) (numL_one 86 T) ?_)
  exact ⟨rfl, _, results_cell_tmp rfl _ _ w.heap.size 47 (numL 86 T).toArray (0, 0) _ rfl (setRow_heap w3 w.heap.size _ _ 47 (0, 0) HROW3.out) Tryd.underlying47 rfl (HI47.out T), T, rfl, H1.out, below_setRow HB3.out (Nat.le_refl _) _⟩
end Go.Proofs.YtppfldobgemddaaDoor
namespace Go.Proofs.YtppfldobgemddaaDoor
open Go.RowKit
set_option linter.unusedVariables false

/-- The side's numbers of a frame's. -/
def sideOf (S : Nat → Int) : Nat → Int := fun i => S (7 + i)
theorem sideOf_at (S : Nat → Int) {i j : Nat} (h : j = 7 + i) : sideOf S i = S j := by unfold sideOf; rw [h]
section
variable {N : Nat} {hR : Int} {m : Nat} {Z S : Nat → Int} {Lv : Nat → Value} {w : World}
theorem frame_main (h : FrameOk N hR m Z S Lv w) (hm2 : m ≤ 2) {w' : World} (hb : Below w.heap.size w w') (mm : Array Value) (hmm : ∀ j, j < 4 → mm[244 + j]? = some (Lv j)) : ∀ g c, g < 2 → c < m → GcMain (sideOf S) hR mm g c w' := by
  intro g c hg hc
  obtain ⟨k, lb, b1, b2, b3⟩ := h.ok g c hg hc
  have hc2 : c < 2 := by omega
  have e : ∀ i j, j = 7 + i → sideOf S i = S j := fun i j q => sideOf_at S q
  have hreg := k.reg
  refine ⟨?_, ?_, fun i hi => ?_, ?_, ?_, ?_, lb, ?_, ?_⟩
  · rw [e (14 + g * 2 + c) (21 + g * 2 + c) (by omega)]; exact k.big
  · rw [e (22 + g * 2 + c) (29 + g * 2 + c) (by omega)]; exact k.comp
  · rw [e (38 + g * 6 + c * 3 + i) (45 + g * 6 + c * 3 + i) (by omega)]; exact k.tab i hi
  · rw [e (62 + g * 2 + c) (69 + g * 2 + c) (by omega)]
    rcases hreg with q | ⟨_, q, _⟩
    · omega
    · rw [q]; split <;> omega
  · rw [e (66 + g * 2 + c) (73 + g * 2 + c) (by omega)]
    rcases hreg with q | ⟨_, q, q2⟩
    · omega
    · rw [q2, q]; split <;> omega
  · rw [e (82 + g * 2 + c) (89 + g * 2 + c) (by omega)]
    have := k.count; omega
  · rw [show 244 + g * 2 + c = 244 + (g * 2 + c) by omega, hmm _ (by omega), b2]
  · rw [e (82 + g * 2 + c) (89 + g * 2 + c) (by omega), e (38 + g * 6 + c * 3) (45 + g * 6 + c * 3) (by omega), e (38 + g * 6 + c * 3 + 1) (45 + g * 6 + c * 3 + 1) (by omega), e (38 + g * 6 + c * 3 + 2) (45 + g * 6 + c * 3 + 2) (by omega), e (14 + g * 2 + c) (21 + g * 2 + c) (by omega)]
    exact b3.same (hb.block lb (lin_lt' b3))
/-- The numbers that are written: with what is told of the beginning, and the lengths. -/
structure Written (S S2 : Nat → Int) (m : Nat) : Prop where
  same : ∀ j, (2 ≤ j ∧ j < 10) ∨ 14 ≤ j → S2 j = sideOf S j
  len : ∀ g c, g < 2 → c < m → 0 ≤ S2 (10 + g * 2 + c) ∧ S2 (10 + g * 2 + c) < 4096
  gone : ∀ g c, g < 2 → c < 2 → m ≤ c → S2 (10 + g * 2 + c) = sideOf S (10 + g * 2 + c)
  s0 : 0 ≤ S2 0 ∧ S2 0 < 512
  s1 : 0 ≤ S2 1 ∧ S2 1 < 8
theorem written_of {S S1 : Nat → Int} {m : Nat} {b p : Int} (h : SameL (sideOf S) S1 m) (hl : ∀ g c, g < 2 → c < m → 0 ≤ S1 (10 + g * 2 + c) ∧ S1 (10 + g * 2 + c) < 4096) (hb : 0 ≤ b ∧ b < 512) (hp : 0 ≤ p ∧ p < 8) : Written S (upd (upd S1 0 b) 1 p) m := by
  refine ⟨fun j hj => ?_, fun g c hg hc => ?_, fun g c hg hc hn => ?_, ?_, ?_⟩
  · rw [upd_not _ _ _ _ (by omega), upd_not _ _ _ _ (by omega)]; exact h.same j (by omega)
  · rw [upd_not _ _ _ _ (by omega), upd_not _ _ _ _ (by omega)]; exact hl g c hg hc
  · rw [upd_not _ _ _ _ (by omega), upd_not _ _ _ _ (by omega)]; exact h.gone g c hg hc hn
  · rw [upd_not _ _ _ _ (by omega), upd_at]; exact hb
  · rw [upd_at]; exact hp
theorem frame_fit (h : FrameOk N hR m Z S Lv w) (hm2 : m ≤ 2) {S2 : Nat → Int} (W : Written S S2 m) {g c : Nat} (hg : g < 2) (hc : c < m) : GcFit S2 g c := by
  obtain ⟨k, _⟩ := h.ok g c hg hc
  have e : ∀ i j, j = 7 + i → 14 ≤ i → S2 i = S j := fun i j q hi => (W.same i (.inr hi)).trans (sideOf_at S q)
  have hk := k.kind
  unfold Kind at hk
  have hreg := k.reg
  refine ⟨W.len g c hg hc, ?_, ?_, ?_, ?_, ?_, ?_, fun i hi => ?_, fun i hi => ?_, ?_, ?_, ?_, ?_, ?_⟩
  · rw [e (14 + g * 2 + c) (21 + g * 2 + c) (by omega) (by omega)]; have := k.big; omega
  · rw [e (18 + g * 2 + c) (25 + g * 2 + c) (by omega) (by omega)]; have := k.gain; omega
  · rw [e (22 + g * 2 + c) (29 + g * 2 + c) (by omega) (by omega)]; have := k.comp; omega
  · rw [e (26 + g * 2 + c) (33 + g * 2 + c) (by omega) (by omega)]; omega
  · rw [e (30 + g * 2 + c) (37 + g * 2 + c) (by omega) (by omega)]; omega
  · rw [e (34 + g * 2 + c) (41 + g * 2 + c) (by omega) (by omega)]; omega
  · rw [e (38 + g * 6 + c * 3 + i) (45 + g * 6 + c * 3 + i) (by omega) (by omega)]
    have := (topOf_le _ (k.tab i hi)).2.2; omega
  · rw [e (50 + g * 6 + c * 3 + i) (57 + g * 6 + c * 3 + i) (by omega) (by omega)]; have := k.sub i hi; omega
  · rw [e (62 + g * 2 + c) (69 + g * 2 + c) (by omega) (by omega)]
    rcases hreg with q | ⟨_, q, _⟩
    · omega
    · rw [q]; split <;> omega
  · rw [e (66 + g * 2 + c) (73 + g * 2 + c) (by omega) (by omega)]
    rcases hreg with q | ⟨_, q, q2⟩
    · omega
    · rw [q2, q]; split <;> omega
  · rw [e (70 + g * 2 + c) (77 + g * 2 + c) (by omega) (by omega)]; have := k.pre; omega
  · rw [e (74 + g * 2 + c) (81 + g * 2 + c) (by omega) (by omega)]; have := k.scale; omega
  · rw [e (78 + g * 2 + c) (85 + g * 2 + c) (by omega) (by omega)]; have := k.which; omega
theorem frame_shape (h : FrameOk N hR m Z S Lv w) (hm2 : m ≤ 2) {S2 : Nat → Int} (W : Written S S2 m) {g c : Nat} (hg : g < 2) (hc : c < m) : GcShape S2 g c := by
  obtain ⟨k, _⟩ := h.ok g c hg hc
  have e : ∀ i j, j = 7 + i → 14 ≤ i → S2 i = S j := fun i j q hi => (W.same i (.inr hi)).trans (sideOf_at S q)
  have e26 := e (26 + g * 2 + c) (33 + g * 2 + c) (by omega) (by omega)
  have e30 := e (30 + g * 2 + c) (37 + g * 2 + c) (by omega) (by omega)
  have e34 := e (34 + g * 2 + c) (41 + g * 2 + c) (by omega) (by omega)
  have e62 := e (62 + g * 2 + c) (69 + g * 2 + c) (by omega) (by omega)
  have e66 := e (66 + g * 2 + c) (73 + g * 2 + c) (by omega) (by omega)
  have hk := k.kind
  unfold Kind at hk
  have hreg := k.reg
  refine ⟨fun hs => ?_, fun hs => ?_, fun hs => ?_⟩
  · rw [e26] at hs
    rw [e30, e34]
    refine ⟨by omega, by omega, fun i hi => ?_⟩
    rw [e (50 + g * 6 + c * 3 + i) (57 + g * 6 + c * 3 + i) (by omega) (by omega)]; exact k.sub0 hs i hi
  · rw [e26] at hs
    rw [e30, e34, e62, e66, e (38 + g * 6 + c * 3 + 2) (45 + g * 6 + c * 3 + 2) (by omega) (by omega)]
    rcases hreg with q | ⟨_, q, q2⟩
    · omega
    · exact ⟨k.tab2 hs, q, q2⟩
  · rw [e26] at hs
    rw [e66]
    rcases hreg with q | ⟨q, _, _⟩
    · omega
    · omega
theorem frame_gone (h : FrameOk N hR m Z S Lv w) (m1 : 1 ≤ m) (hm2 : m ≤ 2) (hZ : ∀ j, 7 ≤ j → Z j = 0) {S2 : Nat → Int} (W : Written S S2 m) (j : Nat) (j2 : 2 ≤ j) (j82 : j < 82) (n1 : ∀ c k, c < m → k < 4 → j ≠ 2 + c * 4 + k) (n2 : ∀ g c, g < 2 → c < m → ¬ GcCell g c j) : S2 j = 0 := by
  by_cases q : j < 10
  · rw [W.same j (.inl ⟨j2, q⟩), sideOf_at S (show 7 + j = 7 + j from rfl)]
    refine h.none (7 + j) ?_ (by omega)
    have hm : m = 1 ∨ m = 2 := by omega
    rcases hm with rfl | rfl
    · have a0 := n1 0 (j - 2) (by decide)
      by_cases r : j - 2 < 4
      · exact absurd (by omega) (a0 r)
      · omega
    · exfalso
      by_cases r : j - 2 < 4
      · exact n1 0 (j - 2) (by decide) r (by omega)
      · exact n1 1 (j - 6) (by decide) (by omega) (by omega)
  · by_cases q2 : j < 14
    · obtain ⟨g, c, hg, hc, rfl⟩ : ∃ g c, g < 2 ∧ c < 2 ∧ j = 10 + g * 2 + c := ⟨(j - 10) / 2, (j - 10) % 2, by omega, by omega, by omega⟩
      have hc' : m ≤ c := by
        rcases Nat.lt_or_ge c m with r | r
        · exact absurd (.inl rfl) (n2 g c hg r)
        · exact r
      rw [W.gone g c hg hc hc', sideOf_at S (show 17 + g * 2 + c = 7 + (10 + g * 2 + c) by omega)]
      exact h.none _ (by omega) (by omega)
    · rw [W.same j (.inr (by omega)), sideOf_at S (show 7 + j = 7 + j from rfl)]
      have hm : m = 1 := by
        rcases Nat.lt_or_ge 1 m with r | r
        · exfalso
          have hm : m = 2 := by omega
          subst hm
          have a00 := n2 0 0 (by decide) (by decide)
          have a01 := n2 0 1 (by decide) (by decide)
          have a10 := n2 1 0 (by decide) (by decide)
          have a11 := n2 1 1 (by decide) (by decide)
          unfold GcCell at a00 a01 a10 a11
          omega
        · omega
      subst hm
      have a0 := n2 0 0 (by decide) (by decide)
      have a1 := n2 1 0 (by decide) (by decide)
      by_cases b : GcCell 0 1 j
      · refine h.zero 0 1 (by decide) (by decide) (by decide) (7 + j) (by omega) ?_
        unfold GcCell at b a0 a1
        unfold Off
        omega
      · refine h.zero 1 1 (by decide) (by decide) (by decide) (7 + j) (by omega) ?_
        unfold GcCell at b a0 a1
        unfold Off
        omega
theorem frame_sc (h : FrameOk N hR m Z S Lv w) (m1 : 1 ≤ m) (hm2 : m ≤ 2) {S2 : Nat → Int} (W : Written S S2 m) (j : Nat) (j2 : 2 ≤ j) (j10 : j < 10) : 0 ≤ S2 j ∧ S2 j < 2 := by
  rw [W.same j (.inl ⟨j2, j10⟩), sideOf_at S (show 7 + j = 7 + j from rfl)]
  by_cases q : 7 + j < 9 + m * 4
  · have := h.sc (7 + j) (by omega) q; omega
  · have := h.none (7 + j) (by omega) (by omega); omega
end
/-- The bounds of all numbers that are compared. -/
theorem frame_bd (m : Nat) (hm : 1 ≤ m ∧ m ≤ 2) {S2 : Nat → Int} (fit : ∀ g c, g < 2 → c < m → GcFit S2 g c) (s0 : 0 ≤ S2 0 ∧ S2 0 < 512) (s1 : 0 ≤ S2 1 ∧ S2 1 < 8) (sc : ∀ j, 2 ≤ j → j < 10 → 0 ≤ S2 j ∧ S2 j < 2)
    (gone : ∀ j, 2 ≤ j → j < 82 → (∀ c k, c < m → k < 4 → j ≠ 2 + c * 4 + k) → (∀ g c, g < 2 → c < m → ¬ GcCell g c j) → S2 j = 0) (j : Nat) (hj : j < 82) : -1000000 ≤ S2 j ∧ S2 j ≤ 1000000 := by
  by_cases q : j < 10
  · have h0 : j = 0 ∨ j = 1 ∨ 2 ≤ j := by omega
    rcases h0 with rfl | rfl | r
    · omega
    · omega
    · have := sc j r q; omega
  · by_cases b : ∃ g c, g < 2 ∧ c < m ∧ GcCell g c j
    · obtain ⟨g, c, hg, hc, b⟩ := b
      have F := fit g c hg hc
      rcases b with rfl | rfl | rfl | rfl | rfl | rfl | rfl | ⟨h1, h2⟩ | ⟨h1, h2⟩ | rfl | rfl | rfl | rfl | rfl
      · have := F.length; omega
      · have := F.big; omega
      · have := F.gain; omega
      · have := F.comp; omega
      · have := F.sw; omega
      · have := F.block; omega
      · have := F.mixed; omega
      · obtain ⟨i, rfl⟩ : ∃ i, j = 38 + g * 6 + c * 3 + i := ⟨j - (38 + g * 6 + c * 3), by omega⟩
        have := F.tab i (by omega); omega
      · obtain ⟨i, rfl⟩ : ∃ i, j = 50 + g * 6 + c * 3 + i := ⟨j - (50 + g * 6 + c * 3), by omega⟩
        have := F.sub i (by omega); omega
      · have := F.reg0; omega
      · have := F.reg1; omega
      · have := F.pre; omega
      · have := F.scale; omega
      · have := F.which; omega
    · rw [gone j (by omega) hj (fun c k hc hk e => by omega) (fun g c hg hc e => b ⟨g, c, hg, hc, e⟩)]; omega
end Go.Proofs.YtppfldobgemddaaDoor
