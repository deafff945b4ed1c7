/-
  The contract of sideinfo.Read (1 channel(s); printed by genrd.py); The contract of sideinfo.Read (2 channel(s); printed by genrd.py).
-/
import Derived.Test.YtppfldobgemddaaDoorMl
namespace Go.Proofs.YtppfldobgemddaaDoor
open Go.RowKit
set_option linter.unusedVariables false

theorem mkBuf1 (w : World) : (Instr.makeSlice 23 (.int .i64 17) (.int .i64 17)).run Tryd.prog w = .ok (.slice (some ⟨w.heap.size, 0, none⟩) 17 17) (w.alloc (.cells #[Value.int .u8 0, Value.int .u8 0, Value.int .u8 0, Value.int .u8 0, Value.int .u8 0, Value.int .u8 0, Value.int .u8 0, Value.int .u8 0, Value.int .u8 0, Value.int .u8 0, Value.int .u8 0, Value.int .u8 0, Value.int .u8 0, Value.int .u8 0, Value.int .u8 0, Value.int .u8 0, Value.int .u8 0] 5)) := by kernel_rfl
theorem method_zi1 (Z : Nat) (w : World) : Sem.run Tryd.prog (method 308 129 (Value.pointer (some ⟨Z, 0, none⟩)) "ReadFull") w = .ok (110, Value.pointer (some ⟨Z, 0, none⟩)) w := by kernel_rfl
theorem zero133_1 : (Tryd.prog.info? 133).map (fun i => (i.zero, i.size)) = some (some (.agg (numL 86 (fun _ => 0)).toArray), 86) := by kernel_rfl
theorem bytesOf_app1 (L tl : List Int) (hL : L.length = 17) : bytesOf (L ++ tl) 0 17 = L.map (Value.int .u8) := by
  unfold bytesOf; rw [List.drop_zero, ← hL, List.take_left']; rfl
theorem rd_new1 {w : World} {L : List Int} {B : Nat} (hL : L.length = 17) (hB : w.heap[B]? = some (.cells (L.map (Value.int .u8)).toArray 5 (0, 0))) : Rd (w.alloc (.cells #[.slice (some ⟨B, 0, none⟩) 17 17, .int .i64 0, .int .i64 0] 181)) w.heap.size B L.length L 0 := by
  have hlt := lt_of_heap hB
  have e := heap_alloc_last w (.cells #[.slice (some ⟨B, 0, none⟩) 17 17, .int .i64 0, .int .i64 0] 181)
  refine ⟨by rw [cell_of_row _ _ _ _ _ _ e, hL]; rfl, by rw [cell_of_row _ _ _ _ _ _ e]; rfl, by rw [cell_of_row _ _ _ _ _ _ e]; rfl, fun j => frozen_of_row _ _ j _ _ e, fun j hj => ?_, by omega, by simp, by simp; omega⟩
  rw [cell_of_row _ B j _ _ _ ((heap_alloc_old _ _ hlt).trans hB), List.getElem?_toArray, List.getElem?_map, List.getD_eq_getElem?_getD, List.getElem?_eq_getElem hj]; rfl
set_option maxRecDepth 1000000 in
set_option maxHeartbeats 32000000 in
theorem read_1 (x : Int) (h0 : 0 ≤ x) (h1 : x ≤ 4294967295) (hv : fID x = 3) (hl : fLayer x = 1) (hs : fSF x ≤ 2) (hp : fProt x = 1) (hm : fMode x = 3) (S : Nat → Int) (L tl : List Int) (cap Z X : Nat) (hK : L.length = 17) (hL : Bytes L)
    (said : SideSaid L S 1) (fit : ∀ g c, g < 2 → c < 1 → GcFit S g c) (shape : ∀ g c, g < 2 → c < 1 → GcShape S g c) (hS0 : 0 ≤ S 0 ∧ S 0 < 512) (hS1 : 0 ≤ S 1 ∧ S 1 < 8) (hsc : ∀ j, 2 ≤ j → j < 10 → 0 ≤ S j ∧ S j < 2)
    (gone : ∀ j, 2 ≤ j → j < 82 → (∀ c k, c < 1 → k < 4 → j ≠ 2 + c * 4 + k) → (∀ g c, g < 2 → c < 1 → ¬ GcCell g c j) → S j = 0) (w : World) (h : Zz w Z X cap (L ++ tl) 0) (tab : BitsTab w) (hZ2 : 2 < Z) :
    Calls Tryd.prog 48 #[.iface 129 (.pointer (some ⟨Z, 0, none⟩)), .int .u32 x] w fun e w' => ∃ p T, e = .returned (.tuple #[.pointer (some ⟨p, 0, none⟩), .nilIface]) ∧ w'.heap[p]? = some (.cells (numL 86 T).toArray 133 (0, 0)) ∧ (∀ j, j < 82 → T j = S j) ∧ (∀ j, 82 ≤ j → T j = 0) ∧ Below Z w w' := by
  have hme := fun wx => method_zi1 Z wx
  have hmk := fun wx => mkBuf1 wx
  have hzr := (zero_of_info zero133_1).1
  have hfs : ¬ (2000 < 144 * br (fBI x) / hz (fSF x) + fPad x) := by
    have b0 := br_bd (fBI x)
    have b1 := hz_bd (fSF x)
    have b2 := IntWalk.tdiv_le (144 * br (fBI x)) (hz (fSF x)) (by omega) (by omega)
    have b3 : fPad x ≤ 1 := by unfold fPad; omega
    have b4 : 144 * br (fBI x) / hz (fSF x) ≤ 1440 := Int.ediv_le_of_le_mul (by omega) (by omega)
    omega
  obtain ⟨fsz, hfz⟩ : ∃ v, v = 144 * br (fBI x) / hz (fSF x) + fPad x := ⟨_, rfl⟩
  rw [← hfz] at hfs
  have HFZ := Lib.hid hfz
  have H := Lib.hid h
  have HT := Lib.hid tab
  have HSAID := Lib.hid said
  have HFIT := Lib.hid fit
  have HSH := Lib.hid shape
  have S0 := Lib.hid hS0
  have S1 := Lib.hid hS1
  have HSC := Lib.hid hsc
  have HGO := Lib.hid gone
  have HK := Lib.hid hK
  have HM := Lib.hid hm
  have HP := Lib.hid hp
  have hZ := h.hZ
  have HLB := Lib.hid hL
  clear h tab said fit shape hS0 hS1 hsc gone hK hm hp hfz hL
  go_enter Tryd.func48, Tryd.ntmps48
  go_wp2_with (go_at_call 60; refine (nch_any x h0 h1 _).mono ?_; rintro e w' ⟨rfl, rfl⟩)
  try rw [if_pos HM.out]
  refine (fsize_any x h0 h1 hv hl hs _).mono ?_
  rintro e w1 ⟨rfl, hb1⟩
  rw [← HFZ.out]
  have HB1 := Lib.hid hb1
  clear hb1
  go_wp2_with (first | (go_at_call 62; refine (sis_any x h0 h1 hv _).mono ?_; rintro e w' ⟨rfl, rfl⟩; (try rw [if_pos HM.out])) | (go_at_call 63; refine (Prot_any x h0 h1 _).mono ?_; rintro e w' ⟨rfl, rfl⟩; rw [HP.out]))
  have HZ1 := Lib.hid (H.out.below HB1.out)
  have hlen : 17 ≤ (L ++ tl).length := by rw [List.length_append, HK.out]; omega
  refine (ziRead_any Z X w1.heap.size 17 17 0 cap (L ++ tl) [Value.int .u8 0, Value.int .u8 0, Value.int .u8 0, Value.int .u8 0, Value.int .u8 0, Value.int .u8 0, Value.int .u8 0, Value.int .u8 0, Value.int .u8 0, Value.int .u8 0, Value.int .u8 0, Value.int .u8 0, Value.int .u8 0, Value.int .u8 0, Value.int .u8 0, Value.int .u8 0, Value.int .u8 0] (by decide) (by omega) rfl (Nat.le_refl _) _ (HZ1.out.below (stpA (stp0 w1) _)) (heap_alloc_new w1 _) (by have := HB1.out.size; omega)).mono ?_
  rintro e w2 ⟨rfl, hz2, hb2, hrow⟩
  rw [bytesOf_app1 L tl HK.out] at hrow
  have HB2 : Hid (Below Z w w2) := Lib.hid (((HB1.out.mono (by omega)).trans ((stpA (stp0 w1) _).mono (by have := HB1.out.size; omega))).trans hb2)
  have HROW := Lib.hid hrow
  have HSZ := Lib.hid (show w1.heap.size < w2.heap.size from lt_of_heap hrow)
  have HZW : Hid (Z < w1.heap.size) := Lib.hid (by have := HB1.out.size; omega)
  clear hz2 hb2 hrow hlen hmk hme
  go_wp2_with fail
  refine (new_any _ _ _ _).mono ?_
  rintro e w3 ⟨rfl, hw3⟩
  have HRD : Hid (Rd w3 w2.heap.size w1.heap.size L.length L 0) := Lib.hid (hw3 ▸ rd_new1 HK.out HROW.out)
  have HB3 : Hid (Below Z w w3) := Lib.hid (hw3 ▸ (HB2.out.trans ((stpA (stp0 w2) _).mono (by have := HSZ.out; have := HZW.out; omega))))
  have hs3 : w3.heap.size = w2.heap.size + 1 := by rw [hw3]; simp
  have HS3 := Lib.hid hs3
  have tab := HT.out.below hZ2 HB3.out
  obtain ⟨t0, t1, t2, t3⟩ := tab
  clear hw3 hs3
  go_wp2_with (first | (go_at_call 65; refine (low_any x h0 h1 hv _).mono ?_; rintro e w' ⟨rfl, rfl⟩))
  have HB : Hid (RB w Z w2.heap.size w1.heap.size w3.heap.size (w3.heap.size + 1) L (mixL [] S) 0 ((w3.alloc (.cells #[.int .i64 9, .int .i64 5, .int .i64 3, .int .i64 4] 39)).alloc (.cells (numL 86 (fun _ => 0)).toArray 133))) := Lib.hid (by
    have e1 := HSZ.out
    have e2 := HS3.out
    have e3 := HZW.out
    refine ⟨(HRD.out.alloc _).alloc _, HB3.out.trans (((stpA (stpA (stp0 w3) _) _)).mono (by omega)), ?_, ?_, ⟨by omega, by omega, by omega, by omega⟩, ⟨by omega, by omega⟩⟩
    · rw [mixL_nil]
      have := heap_alloc_last (w3.alloc (.cells #[.int .i64 9, .int .i64 5, .int .i64 3, .int .i64 4] 39)) (.cells (numL 86 (fun _ => 0)).toArray 133)
      simpa using this
    · rw [heap_alloc_old _ _ (by simp), heap_alloc_last])
  clear t0 t1 t2 t3 hzr
  obtain ⟨v0, hv0⟩ : ∃ z, z = (w3.alloc (.cells #[.int .i64 9, .int .i64 5, .int .i64 3, .int .i64 4] 39)).alloc (.cells (numL 86 (fun _ => 0)).toArray 133) := ⟨_, rfl⟩
  rw [← hv0] at HB ⊢
  clear hv0
  refine (HB.out.word (n := 9) (v := S (0)) HLB.out (HSAID.out.head (0, S 0, 9) (by simp [headW])) S0.out.1 (by have := S0.out.2; omega) (by decide) (by decide) (by rw [HK.out]; omega)).mono ?_
  rintro e w101 ⟨rfl, h1⟩
  have c1 := h1.cell (0) (by omega)
  have f1 := h1.free (0)
  have H1 := Lib.hid h1
  clear h1 HB
  have t1 := H1.out.bits 1
  go_wp2_with fail
  have H2 := Lib.hid (H1.out.put (0) (by omega))
  clear H1 c1 f1 t1
  obtain ⟨v2, hv2⟩ : ∃ z, z = w101.setCell ⟨w3.heap.size + 1, 0, none⟩ (.int .i64 (S (0))) := ⟨_, rfl⟩
  rw [← hv2] at H2 ⊢
  clear hv2
  have t1 := H2.out.bits 1
  go_wp2_with (first | (go_at_call 67; refine (Mode_any x h0 h1 _).mono ?_; rintro e w' ⟨rfl, rfl⟩))
  refine (H2.out.word (n := 5) (v := S (1)) HLB.out (HSAID.out.head (9, S 1, 5) (by simp [headW, privN])) S1.out.1 (by have := S1.out.2; omega) (by decide) (by decide) (by rw [HK.out]; omega)).mono ?_
  rintro e w103 ⟨rfl, h3⟩
  have c3 := h3.cell (1) (by omega)
  have f3 := h3.free (1)
  have H3 := Lib.hid h3
  clear h3 H2
  clear t1
  go_wp2_with fail
  have H4 := Lib.hid (H3.out.put (1) (by omega))
  clear H3 c3 f3
  obtain ⟨v4, hv4⟩ : ∃ z, z = w103.setCell ⟨w3.heap.size + 1, 1, none⟩ (.int .i64 (S (1))) := ⟨_, rfl⟩
  rw [← hv4] at H4 ⊢
  clear hv4
  have HD : Hid (DoneSc 1 ((1) :: ((0) :: [])) 0 0) := Lib.hid ⟨by decide, by simp, by simp, fun c k _ _ h => by omega⟩
  go_loopw [17] (fun x wr => ∃ q : Nat, q ≤ 1 ∧ x = .int .i64 q ∧ ∃ l, Hid (RB w Z w2.heap.size w1.heap.size w3.heap.size (w3.heap.size + 1) L (mixL l S) (14 + 4 * q) wr) ∧ Hid (DoneSc 1 l q 0)) (fun x _ => 1 - (intOf x).toNat)
  case atStart => exact ⟨0, by omega, rfl, _, H4, HD⟩
  case round =>
    clear H4 HD
    obtain ⟨q, hq, rfl, l, H, HD⟩ := hrel
    by_cases hlt : q < 1
    · have d1 : decide ((q : Int) < 1) = true := decide_eq_true (by omega)
      skip
      have iq0 : (0 : Int) ≤ (q : Int) := by omega
      have iq1 : (q : Int) < 2 := by omega
      go_wp2_with fail
      go_loopw [18] (fun x wr => ∃ y : Nat, y ≤ 4 ∧ x = .int .i64 y ∧ ∃ l, Hid (RB w Z w2.heap.size w1.heap.size w3.heap.size (w3.heap.size + 1) L (mixL l S) (14 + 4 * q + y) wr) ∧ Hid (DoneSc 1 l q y)) (fun x _ => 4 - (intOf x).toNat)
      case atStart => exact ⟨0, by omega, rfl, l, H, HD⟩
      case round =>
        clear H HD
        obtain ⟨y, hy, rfl, l, H, HD⟩ := hrel
        by_cases hlt2 : y < 4
        · have d2 : decide ((y : Int) < 4) = true := decide_eq_true (by omega)
          have iy0 : (0 : Int) ≤ (y : Int) := by omega
          have iy1 : (y : Int) < 4 := by omega
          go_wp2_with fail
          go_region_held3 (fun w' => True) (trivial) ((first | (go_at_call 66; refine (H.out.drew.word (n := 1) (v := S (2 + q * 4 + y)) HLB.out (HSAID.out.sc q y hlt hlt2) (HSC.out (2 + q * 4 + y) (by omega) (by omega)).1 (by have := (HSC.out (2 + q * 4 + y) (by omega) (by omega)).2; omega) (by decide) (by decide) (by rw [HK.out]; omega)).mono ?_; rintro e w105 ⟨rfl, h5⟩; have c5 := h5.cell (2 + q * 4 + y) (by omega); have f5 := h5.free (2 + q * 4 + y); have H5 := Lib.hid h5; clear h5)))
          clear H
          go_wp2_with fail
          exact ⟨⟨y + 1, by omega, by go_num, _, Lib.hid ((H5.out.put (2 + q * 4 + y) (by omega)).at (by omega)), Lib.hid (HD.out.next (by omega) hlt2)⟩, by simp [intOf]; omega⟩
        · obtain rfl : y = 4 := by omega
          rw [show ((4 : Nat) : Int) = 4 from rfl]
          go_wp2_with fail
          exact ⟨⟨q + 1, by omega, by go_num, l, Lib.hid (H.out.at (by omega)), Lib.hid HD.out.row⟩, by simp [intOf]; omega⟩
    · obtain rfl : q = 1 := by omega
      rw [show ((1 : Nat) : Int) = 1 from rfl]
      have HD0 : Hid (DoneGc S 1 l 0 0) := Lib.hid ⟨HD.out, fun g c _ _ h => by omega⟩
      have H0 := H
      clear H HD
      go_wp2_with fail
      rename_i KF hKF
      have I : LoopIn x 1 S L := ⟨h0, h1, hv, .inl rfl, HLB.out, HSAID.out, HFIT.out, HSH.out, by rw [HK.out]; decide⟩
      refine (show Code.wp Tryd.prog (.loop rdL3) _ _ _ from ?_)
      refine grans_loop I HD0.out _ _ ⟨rfl, rfl, rfl, rfl, rfl, rfl, rfl, rfl, rfl, rfl⟩ (H0.out.at rfl) _ ?_
      rintro l' z a' w' hf' ⟨s, H'⟩ D'
      refine hKF a' w' (rdEnd a' w' hf' _ ?_)
      refine ⟨_, mixL l' S, rfl, H'.side, fun j hj => ?_, fun j hj => ?_, H'.below⟩
      · unfold mixL
        by_cases hin : j ∈ l'
        · rw [if_pos hin]
        · rw [if_neg hin]
          obtain ⟨⟨q0, q1, q2, q3⟩, q4⟩ := D'
          by_cases hz : S j = 0
          · exact hz.symm
          · refine absurd (HGO.out j ?_ hj (fun c k hc hk e => ?_) (fun g c hg hc e => ?_)) hz
            · by_cases e0 : j = 0
              · subst e0; exact absurd q1 hin
              · by_cases e1 : j = 1
                · subst e1; exact absurd q2 hin
                · omega
            · subst e; exact hin (q3 c k hc hk (by omega))
            · rcases q4 g c hg hc (by omega) j e with q | q
              · exact hin q
              · exact hz q
      · exact if_neg (fun q => by have := D'.1.1 j q; omega)
end Go.Proofs.YtppfldobgemddaaDoor
namespace Go.Proofs.YtppfldobgemddaaDoor
open Go.RowKit
set_option linter.unusedVariables false

theorem mkBuf2 (w : World) : (Instr.makeSlice 23 (.int .i64 32) (.int .i64 32)).run Tryd.prog w = .ok (.slice (some ⟨w.heap.size, 0, none⟩) 32 32) (w.alloc (.cells #[Value.int .u8 0, Value.int .u8 0, Value.int .u8 0, Value.int .u8 0, Value.int .u8 0, Value.int .u8 0, Value.int .u8 0, Value.int .u8 0, Value.int .u8 0, Value.int .u8 0, Value.int .u8 0, Value.int .u8 0, Value.int .u8 0, Value.int .u8 0, Value.int .u8 0, Value.int .u8 0, Value.int .u8 0, Value.int .u8 0, Value.int .u8 0, Value.int .u8 0, Value.int .u8 0, Value.int .u8 0, Value.int .u8 0, Value.int .u8 0, Value.int .u8 0, Value.int .u8 0, Value.int .u8 0, Value.int .u8 0, Value.int .u8 0, Value.int .u8 0, Value.int .u8 0, Value.int .u8 0] 5)) := by kernel_rfl
theorem method_zi2 (Z : Nat) (w : World) : Sem.run Tryd.prog (method 308 129 (Value.pointer (some ⟨Z, 0, none⟩)) "ReadFull") w = .ok (110, Value.pointer (some ⟨Z, 0, none⟩)) w := by kernel_rfl
theorem zero133_2 : (Tryd.prog.info? 133).map (fun i => (i.zero, i.size)) = some (some (.agg (numL 86 (fun _ => 0)).toArray), 86) := by kernel_rfl
theorem bytesOf_app2 (L tl : List Int) (hL : L.length = 32) : bytesOf (L ++ tl) 0 32 = L.map (Value.int .u8) := by
  unfold bytesOf; rw [List.drop_zero, ← hL, List.take_left']; rfl
theorem rd_new2 {w : World} {L : List Int} {B : Nat} (hL : L.length = 32) (hB : w.heap[B]? = some (.cells (L.map (Value.int .u8)).toArray 5 (0, 0))) : Rd (w.alloc (.cells #[.slice (some ⟨B, 0, none⟩) 32 32, .int .i64 0, .int .i64 0] 181)) w.heap.size B L.length L 0 := by
  have hlt := lt_of_heap hB
  have e := heap_alloc_last w (.cells #[.slice (some ⟨B, 0, none⟩) 32 32, .int .i64 0, .int .i64 0] 181)
  refine ⟨by rw [cell_of_row _ _ _ _ _ _ e, hL]; rfl, by rw [cell_of_row _ _ _ _ _ _ e]; rfl, by rw [cell_of_row _ _ _ _ _ _ e]; rfl, fun j => frozen_of_row _ _ j _ _ e, fun j hj => ?_, by omega, by simp, by simp; omega⟩
  rw [cell_of_row _ B j _ _ _ ((heap_alloc_old _ _ hlt).trans hB), List.getElem?_toArray, List.getElem?_map, List.getD_eq_getElem?_getD, List.getElem?_eq_getElem hj]; rfl
set_option maxRecDepth 1000000 in
set_option maxHeartbeats 32000000 in
theorem read_2 (x : Int) (h0 : 0 ≤ x) (h1 : x ≤ 4294967295) (hv : fID x = 3) (hl : fLayer x = 1) (hs : fSF x ≤ 2) (hp : fProt x = 1) (hm : ¬ fMode x = 3) (S : Nat → Int) (L tl : List Int) (cap Z X : Nat) (hK : L.length = 32) (hL : Bytes L)
    (said : SideSaid L S 2) (fit : ∀ g c, g < 2 → c < 2 → GcFit S g c) (shape : ∀ g c, g < 2 → c < 2 → GcShape S g c) (hS0 : 0 ≤ S 0 ∧ S 0 < 512) (hS1 : 0 ≤ S 1 ∧ S 1 < 8) (hsc : ∀ j, 2 ≤ j → j < 10 → 0 ≤ S j ∧ S j < 2)
    (gone : ∀ j, 2 ≤ j → j < 82 → (∀ c k, c < 2 → k < 4 → j ≠ 2 + c * 4 + k) → (∀ g c, g < 2 → c < 2 → ¬ GcCell g c j) → S j = 0) (w : World) (h : Zz w Z X cap (L ++ tl) 0) (tab : BitsTab w) (hZ2 : 2 < Z) :
    Calls Tryd.prog 48 #[.iface 129 (.pointer (some ⟨Z, 0, none⟩)), .int .u32 x] w fun e w' => ∃ p T, e = .returned (.tuple #[.pointer (some ⟨p, 0, none⟩), .nilIface]) ∧ w'.heap[p]? = some (.cells (numL 86 T).toArray 133 (0, 0)) ∧ (∀ j, j < 82 → T j = S j) ∧ (∀ j, 82 ≤ j → T j = 0) ∧ Below Z w w' := by
  have hme := fun wx => method_zi2 Z wx
  have hmk := fun wx => mkBuf2 wx
  have hzr := (zero_of_info zero133_2).1
  have hfs : ¬ (2000 < 144 * br (fBI x) / hz (fSF x) + fPad x) := by
    have b0 := br_bd (fBI x)
    have b1 := hz_bd (fSF x)
    have b2 := IntWalk.tdiv_le (144 * br (fBI x)) (hz (fSF x)) (by omega) (by omega)
    have b3 : fPad x ≤ 1 := by unfold fPad; omega
    have b4 : 144 * br (fBI x) / hz (fSF x) ≤ 1440 := Int.ediv_le_of_le_mul (by omega) (by omega)
    omega
  obtain ⟨fsz, hfz⟩ : ∃ v, v = 144 * br (fBI x) / hz (fSF x) + fPad x := ⟨_, rfl⟩
  rw [← hfz] at hfs
  have HFZ := Lib.hid hfz
  have H := Lib.hid h
  have HT := Lib.hid tab
  have HSAID := Lib.hid said
  have HFIT := Lib.hid fit
  have HSH := Lib.hid shape
  have S0 := Lib.hid hS0
  have S1 := Lib.hid hS1
  have HSC := Lib.hid hsc
  have HGO := Lib.hid gone
  have HK := Lib.hid hK
  have HM := Lib.hid hm
  have HP := Lib.hid hp
  have hZ := h.hZ
  have HLB := Lib.hid hL
  clear h tab said fit shape hS0 hS1 hsc gone hK hm hp hfz hL
  go_enter Tryd.func48, Tryd.ntmps48
  go_wp2_with (go_at_call 60; refine (nch_any x h0 h1 _).mono ?_; rintro e w' ⟨rfl, rfl⟩)
  try rw [if_neg HM.out]
  refine (fsize_any x h0 h1 hv hl hs _).mono ?_
  rintro e w1 ⟨rfl, hb1⟩
  rw [← HFZ.out]
  have HB1 := Lib.hid hb1
  clear hb1
  go_wp2_with (first | (go_at_call 62; refine (sis_any x h0 h1 hv _).mono ?_; rintro e w' ⟨rfl, rfl⟩; (try rw [if_neg HM.out])) | (go_at_call 63; refine (Prot_any x h0 h1 _).mono ?_; rintro e w' ⟨rfl, rfl⟩; rw [HP.out]))
  have HZ1 := Lib.hid (H.out.below HB1.out)
  have hlen : 32 ≤ (L ++ tl).length := by rw [List.length_append, HK.out]; omega
  refine (ziRead_any Z X w1.heap.size 32 32 0 cap (L ++ tl) [Value.int .u8 0, Value.int .u8 0, Value.int .u8 0, Value.int .u8 0, Value.int .u8 0, Value.int .u8 0, Value.int .u8 0, Value.int .u8 0, Value.int .u8 0, Value.int .u8 0, Value.int .u8 0, Value.int .u8 0, Value.int .u8 0, Value.int .u8 0, Value.int .u8 0, Value.int .u8 0, Value.int .u8 0, Value.int .u8 0, Value.int .u8 0, Value.int .u8 0, Value.int .u8 0, Value.int .u8 0, Value.int .u8 0, Value.int .u8 0, Value.int .u8 0, Value.int .u8 0, Value.int .u8 0, Value.int .u8 0, Value.int .u8 0, Value.int .u8 0, Value.int .u8 0, Value.int .u8 0] (by decide) (by omega) rfl (Nat.le_refl _) _ (HZ1.out.below (stpA (stp0 w1) _)) (heap_alloc_new w1 _) (by have := HB1.out.size; omega)).mono ?_
  rintro e w2 ⟨rfl, hz2, hb2, hrow⟩
  rw [bytesOf_app2 L tl HK.out] at hrow
  have HB2 : Hid (Below Z w w2) := Lib.hid (((HB1.out.mono (by omega)).trans ((stpA (stp0 w1) _).mono (by have := HB1.out.size; omega))).trans hb2)
  have HROW := Lib.hid hrow
  have HSZ := Lib.hid (show w1.heap.size < w2.heap.size from lt_of_heap hrow)
  have HZW : Hid (Z < w1.heap.size) := Lib.hid (by have := HB1.out.size; omega)
  clear hz2 hb2 hrow hlen hmk hme
  go_wp2_with fail
  refine (new_any _ _ _ _).mono ?_
  rintro e w3 ⟨rfl, hw3⟩
  have HRD : Hid (Rd w3 w2.heap.size w1.heap.size L.length L 0) := Lib.hid (hw3 ▸ rd_new2 HK.out HROW.out)
  have HB3 : Hid (Below Z w w3) := Lib.hid (hw3 ▸ (HB2.out.trans ((stpA (stp0 w2) _).mono (by have := HSZ.out; have := HZW.out; omega))))
  have hs3 : w3.heap.size = w2.heap.size + 1 := by rw [hw3]; simp
  have HS3 := Lib.hid hs3
  have tab := HT.out.below hZ2 HB3.out
  obtain ⟨t0, t1, t2, t3⟩ := tab
  clear hw3 hs3
  go_wp2_with (first | (go_at_call 65; refine (low_any x h0 h1 hv _).mono ?_; rintro e w' ⟨rfl, rfl⟩))
  have HB : Hid (RB w Z w2.heap.size w1.heap.size w3.heap.size (w3.heap.size + 1) L (mixL [] S) 0 ((w3.alloc (.cells #[.int .i64 9, .int .i64 5, .int .i64 3, .int .i64 4] 39)).alloc (.cells (numL 86 (fun _ => 0)).toArray 133))) := Lib.hid (by
    have e1 := HSZ.out
    have e2 := HS3.out
    have e3 := HZW.out
    refine ⟨(HRD.out.alloc _).alloc _, HB3.out.trans (((stpA (stpA (stp0 w3) _) _)).mono (by omega)), ?_, ?_, ⟨by omega, by omega, by omega, by omega⟩, ⟨by omega, by omega⟩⟩
    · rw [mixL_nil]
      have := heap_alloc_last (w3.alloc (.cells #[.int .i64 9, .int .i64 5, .int .i64 3, .int .i64 4] 39)) (.cells (numL 86 (fun _ => 0)).toArray 133)
      simpa using this
    · rw [heap_alloc_old _ _ (by simp), heap_alloc_last])
  clear t0 t1 t2 t3 hzr
  obtain ⟨v0, hv0⟩ : ∃ z, z = (w3.alloc (.cells #[.int .i64 9, .int .i64 5, .int .i64 3, .int .i64 4] 39)).alloc (.cells (numL 86 (fun _ => 0)).toArray 133) := ⟨_, rfl⟩
  rw [← hv0] at HB ⊢
  clear hv0
  refine (HB.out.word (n := 9) (v := S (0)) HLB.out (HSAID.out.head (0, S 0, 9) (by simp [headW])) S0.out.1 (by have := S0.out.2; omega) (by decide) (by decide) (by rw [HK.out]; omega)).mono ?_
  rintro e w101 ⟨rfl, h1⟩
  have c1 := h1.cell (0) (by omega)
  have f1 := h1.free (0)
  have H1 := Lib.hid h1
  clear h1 HB
  have t1 := H1.out.bits 2
  go_wp2_with fail
  have H2 := Lib.hid (H1.out.put (0) (by omega))
  clear H1 c1 f1 t1
  obtain ⟨v2, hv2⟩ : ∃ z, z = w101.setCell ⟨w3.heap.size + 1, 0, none⟩ (.int .i64 (S (0))) := ⟨_, rfl⟩
  rw [← hv2] at H2 ⊢
  clear hv2
  have t1 := H2.out.bits 2
  go_wp2_with (first | (go_at_call 67; refine (Mode_any x h0 h1 _).mono ?_; rintro e w' ⟨rfl, rfl⟩))
  refine (H2.out.word (n := 3) (v := S (1)) HLB.out (HSAID.out.head (9, S 1, 3) (by simp [headW, privN])) S1.out.1 (by have := S1.out.2; omega) (by decide) (by decide) (by rw [HK.out]; omega)).mono ?_
  rintro e w103 ⟨rfl, h3⟩
  have c3 := h3.cell (1) (by omega)
  have f3 := h3.free (1)
  have H3 := Lib.hid h3
  clear h3 H2
  clear t1
  go_wp2_with fail
  have H4 := Lib.hid (H3.out.put (1) (by omega))
  clear H3 c3 f3
  obtain ⟨v4, hv4⟩ : ∃ z, z = w103.setCell ⟨w3.heap.size + 1, 1, none⟩ (.int .i64 (S (1))) := ⟨_, rfl⟩
  rw [← hv4] at H4 ⊢
  clear hv4
  have HD : Hid (DoneSc 2 ((1) :: ((0) :: [])) 0 0) := Lib.hid ⟨by decide, by simp, by simp, fun c k _ _ h => by omega⟩
  go_loopw [17] (fun x wr => ∃ q : Nat, q ≤ 2 ∧ x = .int .i64 q ∧ ∃ l, Hid (RB w Z w2.heap.size w1.heap.size w3.heap.size (w3.heap.size + 1) L (mixL l S) (12 + 4 * q) wr) ∧ Hid (DoneSc 2 l q 0)) (fun x _ => 2 - (intOf x).toNat)
  case atStart => exact ⟨0, by omega, rfl, _, H4, HD⟩
  case round =>
    clear H4 HD
    obtain ⟨q, hq, rfl, l, H, HD⟩ := hrel
    by_cases hlt : q < 2
    · have d1 : decide ((q : Int) < 2) = true := decide_eq_true (by omega)
      skip
      have iq0 : (0 : Int) ≤ (q : Int) := by omega
      have iq1 : (q : Int) < 2 := by omega
      go_wp2_with fail
      go_loopw [18] (fun x wr => ∃ y : Nat, y ≤ 4 ∧ x = .int .i64 y ∧ ∃ l, Hid (RB w Z w2.heap.size w1.heap.size w3.heap.size (w3.heap.size + 1) L (mixL l S) (12 + 4 * q + y) wr) ∧ Hid (DoneSc 2 l q y)) (fun x _ => 4 - (intOf x).toNat)
      case atStart => exact ⟨0, by omega, rfl, l, H, HD⟩
      case round =>
        clear H HD
        obtain ⟨y, hy, rfl, l, H, HD⟩ := hrel
        by_cases hlt2 : y < 4
        · have d2 : decide ((y : Int) < 4) = true := decide_eq_true (by omega)
          have iy0 : (0 : Int) ≤ (y : Int) := by omega
          have iy1 : (y : Int) < 4 := by omega
          go_wp2_with fail
          go_region_held3 (fun w' => True) (trivial) ((first | (go_at_call 66; refine (H.out.drew.word (n := 1) (v := S (2 + q * 4 + y)) HLB.out (HSAID.out.sc q y hlt hlt2) (HSC.out (2 + q * 4 + y) (by omega) (by omega)).1 (by have := (HSC.out (2 + q * 4 + y) (by omega) (by omega)).2; omega) (by decide) (by decide) (by rw [HK.out]; omega)).mono ?_; rintro e w105 ⟨rfl, h5⟩; have c5 := h5.cell (2 + q * 4 + y) (by omega); have f5 := h5.free (2 + q * 4 + y); have H5 := Lib.hid h5; clear h5)))
          clear H
          go_wp2_with fail
          exact ⟨⟨y + 1, by omega, by go_num, _, Lib.hid ((H5.out.put (2 + q * 4 + y) (by omega)).at (by omega)), Lib.hid (HD.out.next (by omega) hlt2)⟩, by simp [intOf]; omega⟩
        · obtain rfl : y = 4 := by omega
          rw [show ((4 : Nat) : Int) = 4 from rfl]
          go_wp2_with fail
          exact ⟨⟨q + 1, by omega, by go_num, l, Lib.hid (H.out.at (by omega)), Lib.hid HD.out.row⟩, by simp [intOf]; omega⟩
    · obtain rfl : q = 2 := by omega
      rw [show ((2 : Nat) : Int) = 2 from rfl]
      have HD0 : Hid (DoneGc S 2 l 0 0) := Lib.hid ⟨HD.out, fun g c _ _ h => by omega⟩
      have H0 := H
      clear H HD
      go_wp2_with fail
      rename_i KF hKF
      have I : LoopIn x 2 S L := ⟨h0, h1, hv, .inr rfl, HLB.out, HSAID.out, HFIT.out, HSH.out, by rw [HK.out]; decide⟩
      refine (show Code.wp Tryd.prog (.loop rdL3) _ _ _ from ?_)
      refine grans_loop I HD0.out _ _ ⟨rfl, rfl, rfl, rfl, rfl, rfl, rfl, rfl, rfl, rfl⟩ (H0.out.at rfl) _ ?_
      rintro l' z a' w' hf' ⟨s, H'⟩ D'
      refine hKF a' w' (rdEnd a' w' hf' _ ?_)
      refine ⟨_, mixL l' S, rfl, H'.side, fun j hj => ?_, fun j hj => ?_, H'.below⟩
      · unfold mixL
        by_cases hin : j ∈ l'
        · rw [if_pos hin]
        · rw [if_neg hin]
          obtain ⟨⟨q0, q1, q2, q3⟩, q4⟩ := D'
          by_cases hz : S j = 0
          · exact hz.symm
          · refine absurd (HGO.out j ?_ hj (fun c k hc hk e => ?_) (fun g c hg hc e => ?_)) hz
            · by_cases e0 : j = 0
              · subst e0; exact absurd q1 hin
              · by_cases e1 : j = 1
                · subst e1; exact absurd q2 hin
                · omega
            · subst e; exact hin (q3 c k hc hk (by omega))
            · rcases q4 g c hg hc (by omega) j e with q | q
              · exact hin q
              · exact hz q
      · exact if_neg (fun q => by have := D'.1.1 j q; omega)
end Go.Proofs.YtppfldobgemddaaDoor
