/-
  The contract of spec.MainBytes: of the side information it changes the lengths alone, and these are small.
-/
import Derived.Test.YtppfldobgemddaaDoorXe
import Derived.Test.YtppfldobgemddaaDoorYb
import Derived.StillTailTactics
import Derived.Laws.CopyOwn
import Derived.Laws.Rows
namespace Go.Proofs.YtppfldobgemddaaDoor
open Go.RowKit
set_option linter.unusedVariables false

theorem zero47 : (Tryd.prog.info? 47).map (fun i => (i.zero, i.size)) = some (some (.agg (numL 86 (fun _ => 0)).toArray), 86) := by kernel_rfl
theorem numL_set (n : Nat) (S : Nat → Int) (j : Nat) (v : Int) (hj : j < n) : (numL n S).toArray.setIfInBounds j (.int .i64 v) = (numL n (upd S j v)).toArray := by
  refine Array.ext_getElem? fun i => ?_
  by_cases e : i = j
  · subst e
    rw [Array.getElem?_setIfInBounds_self_of_lt (by rw [List.size_toArray, numL_len]; exact hj), List.getElem?_toArray, numL_at n _ _ hj, upd_at]
  · rw [Array.getElem?_setIfInBounds_ne (Ne.symm e), List.getElem?_toArray, List.getElem?_toArray]
    by_cases h : i < n
    · rw [numL_at n _ _ h, numL_at n _ _ h, upd_not _ _ _ _ e]
    · rw [List.getElem?_eq_none (by rw [numL_len]; omega), List.getElem?_eq_none (by rw [numL_len]; omega)]
/-- What the main data's writer wants of a granule of a channel. -/
structure GcMain (S : Nat → Int) (hR : Int) (mm : Array Value) (g c : Nat) (w : World) : Prop where
  big : 0 ≤ S (14 + g * 2 + c) ∧ S (14 + g * 2 + c) ≤ 29
  comp : 0 ≤ S (22 + g * 2 + c) ∧ S (22 + g * 2 + c) ≤ 15
  tab : ∀ i, i < 3 → TabOk (S (38 + g * 6 + c * 3 + i))
  reg0 : 0 ≤ S (62 + g * 2 + c) ∧ S (62 + g * 2 + c) ≤ 100
  reg1 : 0 ≤ S (66 + g * 2 + c) ∧ S (66 + g * 2 + c) ≤ 100
  count : 0 ≤ S (82 + g * 2 + c) ∧ S (82 + g * 2 + c) ≤ 100
  lines : ∃ lb, mm[244 + g * 2 + c]? = some (.slice (some ⟨lb, 0, none⟩) 576 576) ∧ LinR w lb (topAt (S (38 + g * 6 + c * 3)) (S (38 + g * 6 + c * 3 + 1)) (S (38 + g * 6 + c * 3 + 2)) (Go.Proofs.YtppfldobgemddaaDoor.reg1 S hR g c) (Go.Proofs.YtppfldobgemddaaDoor.reg2 S hR g c) (S (14 + g * 2 + c))) (S (82 + g * 2 + c)).toNat
/-- The same numbers but for the lengths, which are small. -/
structure SameL (S S' : Nat → Int) (n : Nat) : Prop where
  same : ∀ j, j < 10 ∨ 14 ≤ j → S' j = S j
  gone : ∀ g c, g < 2 → c < 2 → n ≤ c → S' (10 + g * 2 + c) = S (10 + g * 2 + c)
theorem SameL.refl (S : Nat → Int) (n : Nat) : SameL S S n := ⟨fun _ _ => rfl, fun _ _ _ _ _ => rfl⟩
theorem SameL.shortB {S S' : Nat → Int} {n g c : Nat} (h : SameL S S' n) : shortB S' g c = shortB S g c := by
  unfold Go.Proofs.YtppfldobgemddaaDoor.shortB; rw [h.same _ (by omega), h.same _ (by omega)]
theorem SameL.gc {S S' : Nat → Int} {n g c : Nat} {hR : Int} {mm : Array Value} {w : World} (h : SameL S S' n) (k : GcMain S hR mm g c w) : GcMain S' hR mm g c w := by
  obtain ⟨k1, k2, k3, k4, k5, k6, lb, k7, k8⟩ := k
  have e1 : Go.Proofs.YtppfldobgemddaaDoor.reg1 S' hR g c = Go.Proofs.YtppfldobgemddaaDoor.reg1 S hR g c := by unfold Go.Proofs.YtppfldobgemddaaDoor.reg1; rw [h.shortB, h.same _ (by omega)]
  have e2 : Go.Proofs.YtppfldobgemddaaDoor.reg2 S' hR g c = Go.Proofs.YtppfldobgemddaaDoor.reg2 S hR g c := by unfold Go.Proofs.YtppfldobgemddaaDoor.reg2; rw [h.shortB, h.same _ (by omega), h.same _ (by omega)]
  refine ⟨?_, ?_, fun i hi => ?_, ?_, ?_, ?_, lb, k7, ?_⟩
  · rw [h.same _ (by omega)]; exact k1
  · rw [h.same _ (by omega)]; exact k2
  · rw [h.same _ (by omega)]; exact k3 i hi
  · rw [h.same _ (by omega)]; exact k4
  · rw [h.same _ (by omega)]; exact k5
  · rw [h.same _ (by omega)]; exact k6
  · rw [e1, e2, h.same _ (by omega), h.same _ (by omega), h.same _ (by omega), h.same _ (by omega), h.same _ (by omega)]; exact k8
theorem SameL.next {S S' : Nat → Int} {n g c : Nat} (h : SameL S S' n) (hg : g < 2) (hc : c < n) (hn : n ≤ 2) (v : Int) : SameL S (upd S' (10 + g * 2 + c) v) n :=
  ⟨fun j hj => by rw [upd_not _ _ _ _ (by omega)]; exact h.same j hj, fun g' c' hg' hc' hn' => by rw [upd_not _ _ _ _ (by omega)]; exact h.gone g' c' hg' hc' hn'⟩
/-- What memory holds while the main data are written. -/
structure MB (w : World) (S : Nat → Int) (h7 mm : Array Value) (n : Nat) (S' : Nat → Int) (a : Nat) (wr : World) : Prop where
  wn : Wn wr (w.heap.size + 4) (w.heap.size + 5) a
  below : Below w.heap.size w wr
  head : wr.heap[w.heap.size]? = some (.cells h7 30 (0, 0))
  side : wr.heap[w.heap.size + 1]? = some (.cells (numL 86 S').toArray 47 (0, 0))
  main : wr.heap[w.heap.size + 2]? = some (.cells mm 58 (0, 0))
  res : ∃ cs, wr.heap[w.heap.size + 3]? = some (.cells cs 47 (0, 0)) ∧ cs.size = 86
  same : SameL S S' n
  len : ∀ g c, g < 2 → c < n → 0 ≤ S' (10 + g * 2 + c) ∧ S' (10 + g * 2 + c) < 4096
theorem MB.later {w wr w' : World} {S S' : Nat → Int} {h7 mm : Array Value} {n a : Nat} (h : MB w S h7 mm n S' a wr) (hb : Below wr.heap.size wr w') : MB w S h7 mm n S' a w' := by
  have hs := h.wn.lt
  have e : ∀ k, k < wr.heap.size → w'.heap[k]? = wr.heap[k]? := fun k hk => hb.block k hk
  obtain ⟨cs, r1, r2⟩ := h.res
  exact ⟨h.wn.below hb, h.below.trans (hb.mono (by omega)), (e _ (by omega)).trans h.head, (e _ (by omega)).trans h.side, (e _ (by omega)).trans h.main, ⟨cs, (e _ (by omega)).trans r1, r2⟩, h.same, h.len⟩
theorem MB.out {w wr w' : World} {S S' : Nat → Int} {h7 mm : Array Value} {n a k : Nat} (h : MB w S h7 mm n S' a wr) (o : Out (w.heap.size + 4) (w.heap.size + 5) a k wr w') : ∃ a', a ≤ a' ∧ a' ≤ a + k ∧ MB w S h7 mm n S' a' w' := by
  obtain ⟨a', h1, h2, h3⟩ := o.ok
  have e : ∀ k, k < w.heap.size + 4 → w'.heap[k]? = wr.heap[k]? := fun k hk => o.below.block k hk
  obtain ⟨cs, r1, r2⟩ := h.res
  exact ⟨a', h2, h3, h1, h.below.trans (o.below.mono (by omega)), (e _ (by omega)).trans h.head, (e _ (by omega)).trans h.side, (e _ (by omega)).trans h.main, ⟨cs, (e _ (by omega)).trans r1, r2⟩, h.same, h.len⟩
theorem Wn.set {w : World} {W base a b : Nat} (h : Wn w W base a) (j : Nat) (v : Value) (hb : b < W) : Wn (w.setCell ⟨b, j, none⟩ v) W base a := by
  obtain ⟨L, hr⟩ := h
  obtain ⟨ao, c, h0, ho⟩ := hr.out
  have hW := hr.hW
  refine ⟨L, ⟨ao, c, ?_, ?_⟩, ?_, fun k => ?_, hr.packed, hr.hW, by simpa using hr.hb⟩
  · rw [cs_other (by intro e; injection e with e; omega)]; exact h0
  · refine ho.kept (row := some b) (grown_set ⟨rfl, rfl, rfl, Nat.le_refl _, fun _ _ _ => rfl⟩ j v) ?_
    by_cases hl : ao = none
    · subst hl; exact .inl rfl
    · refine .inr ?_
      intro e
      have := ownedGe ho e
      omega
  · rw [cs_other (by intro e; injection e with e; omega)]; exact hr.bit
  · rw [World.frozen?_setCell]; exact hr.free k
theorem MB.store {w wr : World} {S S' : Nat → Int} {h7 mm : Array Value} {n a g c : Nat} (h : MB w S h7 mm n S' a wr) (hg : g < 2) (hc : c < n) (hn : n ≤ 2) (v : Int) (v0 : 0 ≤ v) (v1 : v < 4096) :
    MB w S h7 mm n (upd S' (10 + g * 2 + c) v) a (wr.setCell ⟨w.heap.size + 1, 10 + g * 2 + c, none⟩ (.int .i64 v)) := by
  have e : ∀ k, k ≠ w.heap.size + 1 → (wr.setCell ⟨w.heap.size + 1, 10 + g * 2 + c, none⟩ (.int .i64 v)).heap[k]? = wr.heap[k]? := fun k hk => heap_set_other wr _ _ _ _ hk
  obtain ⟨cs, r1, r2⟩ := h.res
  refine ⟨h.wn.set _ _ (by omega), h.below.setCell (by show w.heap.size ≤ w.heap.size + 1; omega) _, (e _ (by omega)).trans h.head, ?_, (e _ (by omega)).trans h.main, ⟨cs, (e _ (by omega)).trans r1, r2⟩, h.same.next hg hc hn v, fun g' c' hg' hc' => ?_⟩
  · rw [heap_setCell_same wr _ _ _ _ _ h.side, numL_set 86 _ _ _ (by omega)]
  · by_cases q : 10 + g' * 2 + c' = 10 + g * 2 + c
    · rw [q, upd_at]; exact ⟨v0, v1⟩
    · rw [upd_not _ _ _ _ q]; exact h.len g' c' hg' hc'
theorem results_tmp_cell {P : Program} {fn : Func} {p q : Tmp} {ty : TypeId} (h : fn.results = #[.tmp p, .cell q ty]) (tmps : Array Value) (w : World) (g : Nat) (t : TypeId) (cs : Array Value) (fr : Nat × Nat) (d : TypeDesc)
    (hp : tmps.getD q undef = .pointer (some ⟨g, 0, none⟩)) (hg : w.heap[g]? = some (.cells cs t fr))
    (hu : P.underlying ty = some d) (hd : (match d with | .struct _ | .array _ _ => true | _ => false) = true) (hi : (P.info? ty).map (·.size) = some cs.size) :
    (results fn tmps).run P w = .ok (.tuple #[tmps.getD p undef, .agg cs]) w := by
  have hp' : tmps[q]?.getD undef = .pointer (some ⟨g, 0, none⟩) := by simpa using hp
  simp [results, h, hp', asAddr, run_loadVar_row w g t ty cs fr d hg hu hd hi]
theorem results_cell_tmp {P : Program} {fn : Func} {p q : Tmp} {ty : TypeId} (h : fn.results = #[.cell q ty, .tmp p]) (tmps : Array Value) (w : World) (g : Nat) (t : TypeId) (cs : Array Value) (fr : Nat × Nat) (d : TypeDesc)
    (hp : tmps.getD q undef = .pointer (some ⟨g, 0, none⟩)) (hg : w.heap[g]? = some (.cells cs t fr))
    (hu : P.underlying ty = some d) (hd : (match d with | .struct _ | .array _ _ => true | _ => false) = true) (hi : (P.info? ty).map (·.size) = some cs.size) :
    (results fn tmps).run P w = .ok (.tuple #[.agg cs, tmps.getD p undef]) w := by
  have hp' : tmps[q]?.getD undef = .pointer (some ⟨g, 0, none⟩) := by simpa using hp
  simp [results, h, hp', asAddr, run_loadVar_row w g t ty cs fr d hg hu hd hi]
/-- The store of a whole Side, under one name. -/
def bigStore (t : TypeId) (p v : Value) : Sem Unit := Instr.storeAt t p v
theorem bigStore47 (p v : Value) : Instr.storeAt 47 p v = bigStore 47 p v := rfl
theorem run_storeAt_row (w : World) (g : Nat) (t ty : TypeId) (old cells : Array Value) (hg : w.heap[g]? = some (.cells old t (0, 0))) (hi : (Tryd.prog.info? ty).map (·.size) = some cells.size)
    (ho : old.size = cells.size) (h1 : cells.all (·.oneCell') = true) :
    (Instr.storeAt ty (.pointer (some ⟨g, 0, none⟩)) (.agg cells)).run Tryd.prog w = .ok () (w.setRow g cells) := by
  simp only [Instr.storeAt, Instr.sureAddr, Sem.run_bind, Sem.run_pure, Result.andThen_ok, run_storeVar_row w g t ty old cells hg hi ho h1]
attribute [local go_sem ↓] bigStore47
attribute [local go_sem ↓] bigLoad47
set_option maxRecDepth 1000000 in
set_option maxHeartbeats 8000000 in
theorem mainBytes_any (hB hR hP hM hJ hV hK : Int) (S M : Nat → Int) (mm : Array Value) (n : Nat) (hn : chans hM = n) (n1 : 1 ≤ n) (n2 : n ≤ 2) (r0 : 0 ≤ hR) (r1 : hR ≤ 2) (hs : mm.size = 248) (hmm : ∀ j, j < 244 → mm[j]? = some (.int .i64 (M j))) (hMb : ∀ j, j < 244 → 0 ≤ M j ∧ M j ≤ 15) (w : World) (hgc : ∀ g c, g < 2 → c < n → GcMain S hR mm g c w) (hlen : ∀ g c, g < 2 → c < n → 0 ≤ S (10 + g * 2 + c) ∧ S (10 + g * 2 + c) < 4096) :
    Calls Tryd.prog 13 #[.agg #[.int .i64 hB, .int .i64 hR, .int .i64 hP, .int .i64 hM, .int .i64 hJ, .int .i64 hV, .int .i64 hK], .agg (numL 86 S).toArray, .agg mm] w fun e w' => ∃ S' a k c, e = .returned (.tuple #[.slice a k c, .agg (numL 86 S').toArray]) ∧ SameL S S' n ∧ (∀ g c, g < 2 → c < n → 0 ≤ S' (10 + g * 2 + c) ∧ S' (10 + g * 2 + c) < 4096) ∧ Below w.heap.size w w' := by
  obtain ⟨w2, hw2⟩ : ∃ w2, w2 = ((((w.alloc (.cells #[.int .i64 hB, .int .i64 hR, .int .i64 hP, .int .i64 hM, .int .i64 hJ, .int .i64 hV, .int .i64 hK] 30)).alloc (.cells (numL 86 S).toArray 47)).alloc (.cells mm 58)).alloc (.cells (numL 86 (fun _ => 0)).toArray 47)).alloc (.cells #[.slice none 0 0, .int .i64 0] 97) := ⟨_, rfl⟩
  have start : MB w S #[.int .i64 hB, .int .i64 hR, .int .i64 hP, .int .i64 hM, .int .i64 hJ, .int .i64 hV, .int .i64 hK] mm n S 0 w2 := by
    refine ⟨?_, hw2 ▸ stpA (stpA (stpA (stpA (stpA (stp0 w) _) _) _) _) _, ?_, ?_, ?_, ⟨(numL 86 (fun _ => 0)).toArray, ?_, by rw [List.size_toArray, numL_len]⟩, SameL.refl S n, hlen⟩
    · have := wr_new ((((w.alloc (.cells #[.int .i64 hB, .int .i64 hR, .int .i64 hP, .int .i64 hM, .int .i64 hJ, .int .i64 hV, .int .i64 hK] 30)).alloc (.cells (numL 86 S).toArray 47)).alloc (.cells mm 58)).alloc (.cells (numL 86 (fun _ => 0)).toArray 47))
      rw [← hw2] at this
      exact ⟨[], by simpa using this⟩
    · rw [hw2, heap_alloc_old _ _ (by simp <;> omega), heap_alloc_old _ _ (by simp <;> omega), heap_alloc_old _ _ (by simp <;> omega), heap_alloc_old _ _ (by simp), heap_alloc_last]
    · rw [hw2, heap_alloc_old _ _ (by simp <;> omega), heap_alloc_old _ _ (by simp <;> omega), heap_alloc_old _ _ (by simp)]
      exact heap_alloc2_new _ _ _
    · rw [hw2, heap_alloc_old _ _ (by simp <;> omega), heap_alloc_old _ _ (by simp)]
      have := heap_alloc_last ((w.alloc (.cells #[.int .i64 hB, .int .i64 hR, .int .i64 hP, .int .i64 hM, .int .i64 hJ, .int .i64 hV, .int .i64 hK] 30)).alloc (.cells (numL 86 S).toArray 47)) (.cells mm 58)
      simpa using this
    · rw [hw2, heap_alloc_old _ _ (by simp)]
      have := heap_alloc_last (((w.alloc (.cells #[.int .i64 hB, .int .i64 hR, .int .i64 hP, .int .i64 hM, .int .i64 hJ, .int .i64 hV, .int .i64 hK] 30)).alloc (.cells (numL 86 S).toArray 47)).alloc (.cells mm 58)) (.cells (numL 86 (fun _ => 0)).toArray 47)
      simpa using this
  have hz := (zero_of_info zero47).1
  have HI30 : Hid ((Tryd.prog.info? 30).map (·.size) = some (#[.int .i64 hB, .int .i64 hR, .int .i64 hP, .int .i64 hM, .int .i64 hJ, .int .i64 hV, .int .i64 hK] : Array Value).size) := Lib.hid (by kernel_rfl)
  have HI47 : Hid (∀ S, (Tryd.prog.info? 47).map (·.size) = some (numL 86 S).toArray.size) := Lib.hid (fun S => by rw [List.size_toArray, numL_len]; kernel_rfl)
  have HI58 : Hid ((Tryd.prog.info? 58).map (·.size) = some mm.size) := Lib.hid (by rw [hs]; kernel_rfl)
  have H0 := Lib.hid start
  have HW2 := Lib.hid hw2
  have HMM := Lib.hid hmm
  have HMB := Lib.hid hMb
  have HGC := Lib.hid hgc
  have HGCL : Hid (∀ g c, g < 2 → c < n → ∀ lb, mm[244 + g * 2 + c]? = some (.slice (some ⟨lb, 0, none⟩) 576 576) → ∃ top k, LinR w lb top k) := Lib.hid (fun g c hg hc lb h => by
    obtain ⟨lb', h1, h2⟩ := (hgc g c hg hc).lines
    rw [h1] at h; injection h with h; injection h with h _ _; injection h with h; injection h with h _ _
    subst h; exact ⟨_, _, h2⟩)
  have HN := Lib.hid hn
  clear start hw2 hmm hMb hgc hn hlen hs
  go_enter Tryd.func13, Tryd.ntmps13
  go_wp2_with fail
  rw [← HW2.out]
  clear hz
  go_loopw [14] (fun x wr => ∃ g : Nat, g ≤ 2 ∧ x = .int .i64 g ∧ ∃ S' a, Hid (MB w S #[.int .i64 hB, .int .i64 hR, .int .i64 hP, .int .i64 hM, .int .i64 hJ, .int .i64 hV, .int .i64 hK] mm n S' a wr) ∧ a ≤ 1400 * (2 * g)) (fun x _ => 2 - (intOf x).toNat)
  case atStart => exact ⟨0, by omega, rfl, S, 0, H0, by omega⟩
  case round =>
    clear H0
    obtain ⟨g, hg, rfl, S', a, H, ha⟩ := hrel
    by_cases hltg : g < 2
    · have d1 : decide ((g : Int) < 2) = true := decide_eq_true (by omega)
      have ig0 : (0 : Int) ≤ (g : Int) := by omega
      have ig1 : (g : Int) < 2 := by omega
      go_wp2_with (first | (refine wpList_load_row rfl 47 (.tmp 4) rfl (w.heap.size + 1) rfl 47 _ (0, 0) _ H.out.side Tryd.underlying47 rfl (HI47.out _) ?_) | (refine wpList_load_row rfl 58 (.tmp 5) rfl (w.heap.size + 2) rfl 58 _ (0, 0) _ H.out.main Tryd.underlying58 rfl HI58.out ?_) | (refine wpList_load_row rfl 30 (.tmp 3) rfl w.heap.size rfl 30 _ (0, 0) _ H.out.head Tryd.underlying30 rfl HI30.out ?_))
      refine (chans_any hB hR hP hM hJ hV hK _).mono ?_
      rintro e w3 ⟨rfl, hb3⟩
      rw [HN.out]
      have H3 := Lib.hid (H.out.later hb3)
      clear H hb3
      go_wp2_with fail
      go_loopw [19] (fun x wr => ∃ c : Nat, c ≤ n ∧ x = .int .i64 c ∧ ∃ S' a, Hid (MB w S #[.int .i64 hB, .int .i64 hR, .int .i64 hP, .int .i64 hM, .int .i64 hJ, .int .i64 hV, .int .i64 hK] mm n S' a wr) ∧ a ≤ 1400 * (2 * g + c)) (fun x _ => n - (intOf x).toNat)
      case atStart => exact ⟨0, by omega, rfl, S', a, H3, by omega⟩
      case round =>
        clear H3 ha
        obtain ⟨c, hc, rfl, S', a, H, ha⟩ := hrel
        by_cases hltc : c < n
        · have d2 : decide ((c : Int) < (n : Int)) = true := decide_eq_true (by omega)
          have ic0 : (0 : Int) ≤ (c : Int) := by omega
          have ic1 : (c : Int) < 2 := by omega
          have ca := H.out.wn.at
          have K := Lib.hid (H.out.same.gc (HGC.out g c hltg hltc))
          go_wp2_with (first | (refine wpList_load_row rfl 47 (.tmp 4) rfl (w.heap.size + 1) rfl 47 _ (0, 0) _ H.out.side Tryd.underlying47 rfl (HI47.out _) ?_) | (refine wpList_load_row rfl 58 (.tmp 5) rfl (w.heap.size + 2) rfl 58 _ (0, 0) _ H.out.main Tryd.underlying58 rfl HI58.out ?_) | (refine wpList_load_row rfl 30 (.tmp 3) rfl w.heap.size rfl 30 _ (0, 0) _ H.out.head Tryd.underlying30 rfl HI30.out ?_))
          refine (factors_any (w.heap.size + 4) (w.heap.size + 5) a S' M mm g c hltg (by omega) K.out.comp.1 K.out.comp.2 HMM.out HMB.out (by omega) _ H.out.wn).mono ?_
          rintro e w7 ⟨rfl, ho7⟩
          obtain ⟨a7, ge7, le7, h7m⟩ := H.out.out ho7
          have H7 := Lib.hid h7m
          clear H ho7 h7m ca
          go_wp2_with (first | (refine wpList_load_row rfl 47 (.tmp 4) rfl (w.heap.size + 1) rfl 47 _ (0, 0) _ H7.out.side Tryd.underlying47 rfl (HI47.out _) ?_) | (refine wpList_load_row rfl 58 (.tmp 5) rfl (w.heap.size + 2) rfl 58 _ (0, 0) _ H7.out.main Tryd.underlying58 rfl HI58.out ?_) | (refine wpList_load_row rfl 30 (.tmp 3) rfl w.heap.size rfl 30 _ (0, 0) _ H7.out.head Tryd.underlying30 rfl HI30.out ?_))
          obtain ⟨lb, hlb, hlin⟩ := K.out.lines
          have hlb1 : lb < w.heap.size := by obtain ⟨top, k, q⟩ := HGCL.out g c hltg hltc lb hlb; exact lin_lt' q
          have hlin7 : LinR w7 lb (topAt (S' (38 + g * 6 + c * 3)) (S' (38 + g * 6 + c * 3 + 1)) (S' (38 + g * 6 + c * 3 + 2)) (reg1 S' hR g c) (reg2 S' hR g c) (S' (14 + g * 2 + c))) (S' (82 + g * 2 + c)).toNat := hlin.same (H7.out.below.block lb hlb1)
          have kc := K.out.count
          refine (lines_any (w.heap.size + 4) (w.heap.size + 5) a7 lb S' mm hB hR hP hM hJ hV hK g c (S' (82 + g * 2 + c)).toNat hltg (by omega) r0 r1 K.out.big.1 K.out.big.2 (by omega) (by omega) K.out.tab K.out.reg0.1 K.out.reg0.2 K.out.reg1.1 K.out.reg1.2 hlb (by omega) _ H7.out.wn (by omega) hlin7).mono ?_
          rintro e w8 ⟨rfl, ho8⟩
          obtain ⟨a8, ge8, le8, h8m⟩ := H7.out.out ho8
          have H8 := Lib.hid h8m
          clear H7 ho8 h8m hlin7 hlin hlb hlb1 kc
          have c8 := H8.out.wn.at
          have n1 : IntKind.i64.wrap ((a8 : Int) - (a : Int)) = (a8 : Int) - (a : Int) := IntWalk.i64_in _ (by omega)
          have cl : w8.cell? ⟨w.heap.size + 1, 10 + g * 2 + c, none⟩ = some (.int .i64 (S' (10 + g * 2 + c))) := by
            rw [cell_of_row w8 _ _ _ _ _ H8.out.side, List.getElem?_toArray]; exact numL_at 86 S' _ (by omega)
          have fl := frozen_of_row w8 (w.heap.size + 1) (10 + g * 2 + c) _ _ H8.out.side
          have HB8 := Lib.hid (And.intro ge7 (And.intro le7 (And.intro ge8 (And.intro le8 ha))))
          clear ge7 le7 ge8 le8 ha
          go_wp2_with fail
          go_region
          all_goals go_wp2_with fail
          obtain ⟨q1, q2, q3, q4, q5⟩ := HB8.out
          exact ⟨⟨c + 1, by omega, by go_num, _, a8, Lib.hid ((H8.out.store hltg hltc n2 _ (by omega) (by omega)).later (stpD (stp0 _))), by omega⟩, by simp [intOf]; omega⟩
        · have hcn : c = n := by omega
          have d2 : decide ((c : Int) < (n : Int)) = false := decide_eq_false (by omega)
          have HCN := Lib.hid hcn
          clear hcn
          go_wp2_with fail
          have hcn := HCN.out
          exact ⟨⟨g + 1, by omega, by go_num, S', a, H, by omega⟩, by simp [intOf]; omega⟩
    · obtain rfl : g = 2 := by omega
      rw [show ((2 : Nat) : Int) = 2 from rfl]
      obtain ⟨L, hr⟩ := H.out.wn
      obtain ⟨ao, cap, c0, _⟩ := hr.out
      obtain ⟨m, hm⟩ : ∃ m, L.length = m := ⟨_, rfl⟩
      rw [hm] at c0
      have hl : ∀ wq : World, wq.heap = wr.heap → Sem.run Tryd.prog (bigLoad 47 (.pointer (some ⟨w.heap.size + 1, 0, none⟩))) wq = .ok (.agg (numL 86 S').toArray) wq := fun wq hq => run_loadAt_mid wq (w.heap.size + 1) 0 47 _ _ (by
        intro j v hv
        rw [Nat.zero_add, cell_of_row wq _ j _ _ _ (by rw [hq]; exact H.out.side), List.getElem?_toArray]; exact hv) Tryd.underlying47 rfl (by rw [numL_len]; kernel_rfl)
      have hst : ∀ wq : World, wq.heap = wr.heap → Sem.run Tryd.prog (bigStore 47 (.pointer (some ⟨w.heap.size + 3, 0, none⟩)) (.agg (numL 86 S').toArray)) wq = .ok () (wq.setRow (w.heap.size + 3) (numL 86 S').toArray) := fun wq hq => by
        obtain ⟨cs, r1, r2⟩ := H.out.res
        exact run_storeAt_row wq (w.heap.size + 3) 47 47 cs _ (by rw [hq]; exact r1) (by rw [List.size_toArray, numL_len]; kernel_rfl) (by rw [r2, List.size_toArray, numL_len]) (numL_one 86 S')
      have hl := hl wr.drew rfl
      have hst := hst wr.drew rfl
      clear hr hm
      go_wp2_with fail
      go_region
      go_wp2_with fail
      exact ⟨rfl, _, results_tmp_cell rfl _ _ (w.heap.size + 3) 47 (numL 86 S').toArray (0, 0) _ rfl (by obtain ⟨cs, r1, r2⟩ := H.out.res; exact setRow_heap wr.drew (w.heap.size + 3) cs _ 47 (0, 0) r1) Tryd.underlying47 rfl (HI47.out S'), S', ao, m, cap, rfl, H.out.same, H.out.len, below_setRow (stpD H.out.below) (by omega) _⟩
end Go.Proofs.YtppfldobgemddaaDoor
