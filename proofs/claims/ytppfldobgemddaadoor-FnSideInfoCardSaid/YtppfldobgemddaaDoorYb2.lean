/-
  The contract of spec.SideBytes: the words of the side information stand in the bytes (2 channel(s); printed by gensb.py).
-/
import Derived.Test.YtppfldobgemddaaDoorYb
namespace Go.Proofs.YtppfldobgemddaaDoor
open Go.RowKit
set_option linter.unusedVariables false

set_option maxRecDepth 100000 in
set_option maxHeartbeats 8000000 in
theorem sideBytes_2 (hB hR hP hM hJ hV hK : Int) (S : Nat → Int) (hn : chans hM = 2) (hS0 : 0 ≤ S 0 ∧ S 0 < 512) (hS1 : 0 ≤ S 1 ∧ S 1 < 8) (hsc : ∀ j, 2 ≤ j → j < 10 → 0 ≤ S j ∧ S j < 2) (hgc : ∀ g c, g < 2 → c < 2 → GcFit S g c) (w : World) :
    Calls Tryd.prog 15 #[.agg #[.int .i64 hB, .int .i64 hR, .int .i64 hP, .int .i64 hM, .int .i64 hJ, .int .i64 hV, .int .i64 hK], .agg (numL 86 S).toArray] w fun e w' => ∃ L a cap, e = .returned (.slice a L.length cap) ∧ w'.ownsRow w.heap.size 5 1 (.slice a L.length cap) L.length (L.map (Value.int .u8)) ∧ Packed L (preN 2 + 118 * 2) ∧ SideSaid L S 2 ∧ Below w.heap.size w w' := by
  obtain ⟨w2, hw2⟩ : ∃ w2, w2 = ((w.alloc (.cells #[.int .i64 hB, .int .i64 hR, .int .i64 hP, .int .i64 hM, .int .i64 hJ, .int .i64 hV, .int .i64 hK] 30)).alloc (.cells (numL 86 S).toArray 47)).alloc (.cells #[.slice none 0 0, .int .i64 0] 97) := ⟨_, rfl⟩
  have hb2 : Below w.heap.size w w2 := hw2 ▸ stpA (stpA (stpA (stp0 w) _) _) _
  have sz : w2.heap.size = w.heap.size + 3 := by rw [hw2]; simp
  have k1 : w2.heap[w.heap.size + 1]? = some (.cells (numL 86 S).toArray 47 (0, 0)) := by
    rw [hw2, heap_alloc_old _ _ (by simp)]
    have := heap_alloc_last (w.alloc (.cells #[.int .i64 hB, .int .i64 hR, .int .i64 hP, .int .i64 hM, .int .i64 hJ, .int .i64 hV, .int .i64 hK] 30)) (.cells (numL 86 S).toArray 47)
    simpa using this
  have s2 : Sw (w.heap.size + 2) (w.heap.size + 3) w2 0 [] w2 := by
    have := sw_new ((w.alloc (.cells #[.int .i64 hB, .int .i64 hR, .int .i64 hP, .int .i64 hM, .int .i64 hJ, .int .i64 hV, .int .i64 hK] 30)).alloc (.cells (numL 86 S).toArray 47))
    rw [← hw2] at this
    simpa using this
  have cS : ∀ a ws wr, Sw (w.heap.size + 2) (w.heap.size + 3) w2 a ws wr → ∀ j, j < 86 → wr.cell? ⟨w.heap.size + 1, j, none⟩ = some (.int .i64 (S j)) := fun a ws wr h j hj => by
    rw [h.cell (by omega), cell_of_row w2 _ j _ _ _ k1, List.getElem?_toArray]; exact numL_at 86 S j hj
  have HS := Lib.hid cS
  have H2 := Lib.hid s2
  have HB2 := Lib.hid hb2
  have HW2 := Lib.hid hw2
  have HSC := Lib.hid hsc
  have HGC := Lib.hid hgc
  have S0 := Lib.hid hS0
  have S1 := Lib.hid hS1
  have HN := Lib.hid hn
  clear hb2 hw2 hsc hgc hS0 hS1 hn cS s2 sz k1
  go_enter Tryd.func15, Tryd.ntmps15
  go_wp2_with fail
  refine (chans_any hB hR hP hM hJ hV hK _).mono ?_
  rintro e w3 ⟨rfl, hb3⟩
  rw [HN.out, show ((2 : Nat) : Int) = 2 from rfl]
  rw [← HW2.out] at hb3
  have H3 := Lib.hid (H2.out.later hb3)
  clear hb3 H2
  obtain ⟨v4, hv4⟩ : ∃ v, S (0) = v := ⟨_, rfl⟩
  have c4 := HS.out _ _ _ H3.out (0) (by omega)
  have b4 := S0.out
  rw [hv4] at c4 b4
  have HV4 := Lib.hid hv4
  clear hv4
  go_wp2_with fail
  refine (word_s H3.out (v := v4) (n := 9) (by omega) (by omega) (by omega) (by omega)).mono ?_
  rintro e w104 ⟨rfl, h4⟩
  rw [← HV4.out] at h4
  have H4 : Hid (Sw (w.heap.size + 2) (w.heap.size + 3) w2 (0 + 9) ([] ++ [(0, S (0), 9)]) w104) := Lib.hid h4
  clear h4 c4 b4 H3
  obtain ⟨v5, hv5⟩ : ∃ v, S (1) = v := ⟨_, rfl⟩
  have c5 := HS.out _ _ _ H4.out (1) (by omega)
  have b5 := S1.out
  rw [hv5] at c5 b5
  have HV5 := Lib.hid hv5
  clear hv5
  go_wp2_with fail
  refine (word_s H4.out (v := v5) (n := 3) (by omega) (by omega) (by omega) (by omega)).mono ?_
  rintro e w105 ⟨rfl, h5⟩
  rw [← HV5.out] at h5
  have H5 : Hid (Sw (w.heap.size + 2) (w.heap.size + 3) w2 (0 + 9 + 3) ([] ++ [(0, S (0), 9)] ++ [(0 + 9, S (1), 3)]) w105) := Lib.hid h5
  clear h5 c5 b5 H4
  obtain ⟨ws0, hws0⟩ : ∃ ws0 : List Wd3, ws0 = [] ++ [(0, S (0), 9)] ++ [(0 + 9, S (1), 3)] := ⟨_, rfl⟩
  rw [← hws0] at H5
  have hin0 : ∀ x ∈ headW S 2, x ∈ ws0 := by rw [hws0]; intro x hx; simpa [headW, privN] using hx
  have HH := Lib.hid hin0
  clear hws0 hin0
  go_wp2_with fail
  go_loopw [33] (fun x wr => ∃ q : Nat, q ≤ 2 ∧ x = .int .i64 q ∧ ∃ ws, Hid (Sw (w.heap.size + 2) (w.heap.size + 3) w2 (12 + 4 * q) ws wr) ∧ Hid (InSc S 2 12 ws q 0)) (fun x _ => 2 - (intOf x).toNat)
  case atStart => exact ⟨0, by omega, rfl, ws0, H5, Lib.hid ⟨HH.out, fun c k _ _ h => by omega⟩⟩
  case round =>
    clear H5
    obtain ⟨q, hq, rfl, ws, H, HI⟩ := hrel
    by_cases hlt : q < 2
    · have d1 : decide ((q : Int) < 2) = true := decide_eq_true (by omega)
      have iq0 : (0 : Int) ≤ (q : Int) := by omega
      have iq1 : (q : Int) < 2 := by omega
      go_wp2_with fail
      go_loopw [36] (fun x wr => ∃ y : Nat, y ≤ 4 ∧ x = .int .i64 y ∧ ∃ ws, Hid (Sw (w.heap.size + 2) (w.heap.size + 3) w2 (12 + 4 * q + y) ws wr) ∧ Hid (InSc S 2 12 ws q y)) (fun x _ => 4 - (intOf x).toNat)
      case atStart => exact ⟨0, by omega, rfl, ws, H, HI⟩
      case round =>
        clear H HI
        obtain ⟨y, hy, rfl, ws, H, HI⟩ := hrel
        by_cases hlt2 : y < 4
        · have d2 : decide ((y : Int) < 4) = true := decide_eq_true (by omega)
          have iy0 : (0 : Int) ≤ (y : Int) := by omega
          have iy1 : (y : Int) < 4 := by omega
          obtain ⟨v6, hv6⟩ : ∃ v, S (2 + q * 4 + y) = v := ⟨_, rfl⟩
          have c6 := HS.out _ _ _ H.out (2 + q * 4 + y) (by omega)
          have b6 := HSC.out (2 + q * 4 + y) (by omega) (by omega)
          rw [hv6] at c6 b6
          have HV6 := Lib.hid hv6
          clear hv6
          go_wp2_with fail
          refine (word_s H.out (v := v6) (n := 1) (by omega) (by omega) (by omega) (by omega)).mono ?_
          rintro e w106 ⟨rfl, h6⟩
          rw [← HV6.out] at h6
          have H6 : Hid (Sw (w.heap.size + 2) (w.heap.size + 3) w2 ((12 + 4 * q + y) + 1) (ws ++ [((12 + 4 * q + y), S (2 + q * 4 + y), 1)]) w106) := Lib.hid h6
          clear h6 c6 b6 
          go_wp2_with fail
          exact ⟨⟨y + 1, by omega, by go_num, _, H6, Lib.hid (HI.out.next)⟩, by simp [intOf]; omega⟩
        · obtain rfl : y = 4 := by omega
          rw [show ((4 : Nat) : Int) = 4 from rfl]
          go_wp2_with fail
          exact ⟨⟨q + 1, by omega, by go_num, ws, H, Lib.hid (HI.out.row)⟩, by simp [intOf]; omega⟩
    · obtain rfl : q = 2 := by omega
      rw [show ((2 : Nat) : Int) = 2 from rfl]
      have HI0 : Hid (InGc S 2 12 20 ws 0 0) := Lib.hid ⟨HI.out, fun g c _ _ h => by omega⟩
      have H0 := H
      clear H HI
      go_wp2_with fail
      go_loopw [49] (fun x wr => ∃ g : Nat, g ≤ 2 ∧ x = .int .i64 g ∧ ∃ ws, Hid (Sw (w.heap.size + 2) (w.heap.size + 3) w2 (20 + 59 * (g * 2)) ws wr) ∧ Hid (InGc S 2 12 20 ws g 0)) (fun x _ => 2 - (intOf x).toNat)
      case atStart => exact ⟨0, by omega, rfl, ws, H0, HI0⟩
      case round =>
        clear H0 HI0
        obtain ⟨g, hg, rfl, ws, H, HI⟩ := hrel
        by_cases hltg : g < 2
        · have d1 : decide ((g : Int) < 2) = true := decide_eq_true (by omega)
          have ig0 : (0 : Int) ≤ (g : Int) := by omega
          have ig1 : (g : Int) < 2 := by omega
          go_wp2_with fail
          go_loopw [53] (fun x wr => ∃ c : Nat, c ≤ 2 ∧ x = .int .i64 c ∧ ∃ ws, Hid (Sw (w.heap.size + 2) (w.heap.size + 3) w2 (20 + 59 * (g * 2 + c)) ws wr) ∧ Hid (InGc S 2 12 20 ws g c)) (fun x _ => 2 - (intOf x).toNat)
          case atStart => exact ⟨0, by omega, rfl, ws, H, HI⟩
          case round =>
            clear H HI
            obtain ⟨c, hc, rfl, ws, H, HI⟩ := hrel
            by_cases hltc : c < 2
            · have d2 : decide ((c : Int) < 2) = true := decide_eq_true (by omega)
              have ic0 : (0 : Int) ≤ (c : Int) := by omega
              have ic1 : (c : Int) < 2 := by omega
              obtain ⟨b, hb⟩ : ∃ b, b = 20 + 59 * (g * 2 + c) := ⟨_, rfl⟩
              have hbl : b ≤ 1000 := by omega
              rw [← hb] at H
              have HBB := Lib.hid hb
              clear hb
              have F := Lib.hid (HGC.out g c hltg hltc)
              obtain ⟨v7, hv7⟩ : ∃ v, S (10 + g * 2 + c) = v := ⟨_, rfl⟩
              have c7 := HS.out _ _ _ H.out (10 + g * 2 + c) (by omega)
              have b7 := F.out.length
              rw [hv7] at c7 b7
              have HV7 := Lib.hid hv7
              clear hv7
              go_wp2_with fail
              refine (word_s H.out (v := v7) (n := 12) (by omega) (by omega) (by omega) (by omega)).mono ?_
              rintro e w107 ⟨rfl, h7⟩
              rw [← HV7.out] at h7
              have H7 : Hid (Sw (w.heap.size + 2) (w.heap.size + 3) w2 (b + 12) (ws ++ [(b, S (10 + g * 2 + c), 12)]) w107) := Lib.hid h7
              clear h7 c7 b7 
              obtain ⟨v8, hv8⟩ : ∃ v, S (14 + g * 2 + c) = v := ⟨_, rfl⟩
              have c8 := HS.out _ _ _ H7.out (14 + g * 2 + c) (by omega)
              have b8 := F.out.big
              rw [hv8] at c8 b8
              have HV8 := Lib.hid hv8
              clear hv8
              go_wp2_with fail
              refine (word_s H7.out (v := v8) (n := 9) (by omega) (by omega) (by omega) (by omega)).mono ?_
              rintro e w108 ⟨rfl, h8⟩
              rw [← HV8.out] at h8
              have H8 : Hid (Sw (w.heap.size + 2) (w.heap.size + 3) w2 (b + 21) (ws ++ [(b, S (10 + g * 2 + c), 12)] ++ [(b + 12, S (14 + g * 2 + c), 9)]) w108) := Lib.hid h8
              clear h8 c8 b8 H7
              obtain ⟨v9, hv9⟩ : ∃ v, S (18 + g * 2 + c) = v := ⟨_, rfl⟩
              have c9 := HS.out _ _ _ H8.out (18 + g * 2 + c) (by omega)
              have b9 := F.out.gain
              rw [hv9] at c9 b9
              have HV9 := Lib.hid hv9
              clear hv9
              go_wp2_with fail
              refine (word_s H8.out (v := v9) (n := 8) (by omega) (by omega) (by omega) (by omega)).mono ?_
              rintro e w109 ⟨rfl, h9⟩
              rw [← HV9.out] at h9
              have H9 : Hid (Sw (w.heap.size + 2) (w.heap.size + 3) w2 (b + 29) (ws ++ [(b, S (10 + g * 2 + c), 12)] ++ [(b + 12, S (14 + g * 2 + c), 9)] ++ [(b + 21, S (18 + g * 2 + c), 8)]) w109) := Lib.hid h9
              clear h9 c9 b9 H8
              obtain ⟨v10, hv10⟩ : ∃ v, S (22 + g * 2 + c) = v := ⟨_, rfl⟩
              have c10 := HS.out _ _ _ H9.out (22 + g * 2 + c) (by omega)
              have b10 := F.out.comp
              rw [hv10] at c10 b10
              have HV10 := Lib.hid hv10
              clear hv10
              go_wp2_with fail
              refine (word_s H9.out (v := v10) (n := 4) (by omega) (by omega) (by omega) (by omega)).mono ?_
              rintro e w110 ⟨rfl, h10⟩
              rw [← HV10.out] at h10
              have H10 : Hid (Sw (w.heap.size + 2) (w.heap.size + 3) w2 (b + 33) (ws ++ [(b, S (10 + g * 2 + c), 12)] ++ [(b + 12, S (14 + g * 2 + c), 9)] ++ [(b + 21, S (18 + g * 2 + c), 8)] ++ [(b + 29, S (22 + g * 2 + c), 4)]) w110) := Lib.hid h10
              clear h10 c10 b10 H9
              obtain ⟨sw, hsw⟩ : ∃ v, S (26 + g * 2 + c) = v := ⟨_, rfl⟩
              have csw := HS.out _ _ _ H10.out (26 + g * 2 + c) (by omega)
              have bsw := F.out.sw
              rw [hsw] at csw bsw
              have hsw01 : sw = 0 ∨ sw = 1 := by omega
              have HSW := Lib.hid hsw
              clear hsw bsw
              rcases hsw01 with rfl | rfl
              · go_wp2_with fail
                refine (word_s H10.out (v := 0) (n := 1) (by omega) (by omega) (by omega) (by omega)).mono ?_
                rintro e w111 ⟨rfl, h11⟩
                have q : (0 : Int) = S (26 + g * 2 + c) := HSW.out.symm
                rw [q] at h11
                have H11 : Hid (Sw (w.heap.size + 2) (w.heap.size + 3) w2 (b + 34) (ws ++ [(b, S (10 + g * 2 + c), 12)] ++ [(b + 12, S (14 + g * 2 + c), 9)] ++ [(b + 21, S (18 + g * 2 + c), 8)] ++ [(b + 29, S (22 + g * 2 + c), 4)] ++ [(b + 33, S (26 + g * 2 + c), 1)]) w111) := Lib.hid h11
                clear h11 csw H10 q
                have csw := HS.out _ _ _ H11.out (26 + g * 2 + c) (by omega)
                rw [HSW.out] at csw
                go_wp2_with fail
                go_loopw [147] (fun x wr => ∃ k : Nat, k ≤ 3 ∧ x = .int .i64 k ∧ Hid (Sw (w.heap.size + 2) (w.heap.size + 3) w2 (b + 34 + 5 * k) (ws ++ [(b, S (10 + g * 2 + c), 12)] ++ [(b + 12, S (14 + g * 2 + c), 9)] ++ [(b + 21, S (18 + g * 2 + c), 8)] ++ [(b + 29, S (22 + g * 2 + c), 4)] ++ [(b + 33, S (26 + g * 2 + c), 1)] ++ (List.range k).map (fun j => (b + 34 + 5 * j, S (38 + g * 6 + c * 3 + j), 5))) wr)) (fun x _ => 3 - (intOf x).toNat)
                case atStart => exact ⟨0, by omega, rfl, Lib.hid (by rw [List.range_zero, List.map_nil, List.append_nil]; exact H11.out)⟩
                case round =>
                  clear H11
                  obtain ⟨k, hk, rfl, HL⟩ := hrel
                  by_cases hltk : k < 3
                  · have d3 : decide ((k : Int) < 3) = true := decide_eq_true (by omega)
                    have ik0 : (0 : Int) ≤ (k : Int) := by omega
                    have ik1 : (k : Int) < 3 := by omega
                    obtain ⟨v12, hv12⟩ : ∃ v, S (38 + g * 6 + c * 3 + k) = v := ⟨_, rfl⟩
                    have c12 := HS.out _ _ _ HL.out (38 + g * 6 + c * 3 + k) (by omega)
                    have b12 := F.out.tab k (by omega)
                    rw [hv12] at c12 b12
                    have HV12 := Lib.hid hv12
                    clear hv12
                    go_wp2_with fail
                    refine (word_s HL.out (v := v12) (n := 5) (by omega) (by omega) (by omega) (by omega)).mono ?_
                    rintro e w112 ⟨rfl, h12⟩
                    rw [← HV12.out] at h12
                    have H12 : Hid (Sw (w.heap.size + 2) (w.heap.size + 3) w2 ((b + 34 + 5 * k) + 5) ((ws ++ [(b, S (10 + g * 2 + c), 12)] ++ [(b + 12, S (14 + g * 2 + c), 9)] ++ [(b + 21, S (18 + g * 2 + c), 8)] ++ [(b + 29, S (22 + g * 2 + c), 4)] ++ [(b + 33, S (26 + g * 2 + c), 1)] ++ (List.range k).map (fun j => (b + 34 + 5 * j, S (38 + g * 6 + c * 3 + j), 5))) ++ [((b + 34 + 5 * k), S (38 + g * 6 + c * 3 + k), 5)]) w112) := Lib.hid h12
                    clear h12 c12 b12 
                    go_wp2_with fail
                    exact ⟨⟨k + 1, by omega, by go_num, Lib.hid (by rw [(List.range_succ : List.range (k + 1) = List.range k ++ [k]), List.map_append, ← List.append_assoc]; exact Sw.at H12.out (by omega))⟩, by simp [intOf]; omega⟩
                  · obtain rfl : k = 3 := by omega
                    rw [show ((3 : Nat) : Int) = 3 from rfl]
                    have H13 : Hid (Sw (w.heap.size + 2) (w.heap.size + 3) w2 (b + 49) (ws ++ [(b, S (10 + g * 2 + c), 12)] ++ [(b + 12, S (14 + g * 2 + c), 9)] ++ [(b + 21, S (18 + g * 2 + c), 8)] ++ [(b + 29, S (22 + g * 2 + c), 4)] ++ [(b + 33, S (26 + g * 2 + c), 1)] ++ (List.range 3).map (fun j => (b + 34 + 5 * j, S (38 + g * 6 + c * 3 + j), 5))) wr) := HL
                    clear HL
                    obtain ⟨v14, hv14⟩ : ∃ v, S (62 + g * 2 + c) = v := ⟨_, rfl⟩
                    have c14 := HS.out _ _ _ H13.out (62 + g * 2 + c) (by omega)
                    have b14 := F.out.reg0
                    rw [hv14] at c14 b14
                    have HV14 := Lib.hid hv14
                    clear hv14
                    go_wp2_with fail
                    refine (word_s H13.out (v := v14) (n := 4) (by omega) (by omega) (by omega) (by omega)).mono ?_
                    rintro e w114 ⟨rfl, h14⟩
                    rw [← HV14.out] at h14
                    have H14 : Hid (Sw (w.heap.size + 2) (w.heap.size + 3) w2 (b + 53) (ws ++ [(b, S (10 + g * 2 + c), 12)] ++ [(b + 12, S (14 + g * 2 + c), 9)] ++ [(b + 21, S (18 + g * 2 + c), 8)] ++ [(b + 29, S (22 + g * 2 + c), 4)] ++ [(b + 33, S (26 + g * 2 + c), 1)] ++ (List.range 3).map (fun j => (b + 34 + 5 * j, S (38 + g * 6 + c * 3 + j), 5)) ++ [(b + 49, S (62 + g * 2 + c), 4)]) w114) := Lib.hid h14
                    clear h14 c14 b14 H13
                    obtain ⟨v15, hv15⟩ : ∃ v, S (66 + g * 2 + c) = v := ⟨_, rfl⟩
                    have c15 := HS.out _ _ _ H14.out (66 + g * 2 + c) (by omega)
                    have b15 := F.out.reg1
                    rw [hv15] at c15 b15
                    have HV15 := Lib.hid hv15
                    clear hv15
                    go_wp2_with fail
                    refine (word_s H14.out (v := v15) (n := 3) (by omega) (by omega) (by omega) (by omega)).mono ?_
                    rintro e w115 ⟨rfl, h15⟩
                    rw [← HV15.out] at h15
                    have H15 : Hid (Sw (w.heap.size + 2) (w.heap.size + 3) w2 (b + 56) (ws ++ [(b, S (10 + g * 2 + c), 12)] ++ [(b + 12, S (14 + g * 2 + c), 9)] ++ [(b + 21, S (18 + g * 2 + c), 8)] ++ [(b + 29, S (22 + g * 2 + c), 4)] ++ [(b + 33, S (26 + g * 2 + c), 1)] ++ (List.range 3).map (fun j => (b + 34 + 5 * j, S (38 + g * 6 + c * 3 + j), 5)) ++ [(b + 49, S (62 + g * 2 + c), 4)] ++ [(b + 53, S (66 + g * 2 + c), 3)]) w115) := Lib.hid h15
                    clear h15 c15 b15 H14
                    obtain ⟨v16, hv16⟩ : ∃ v, S (70 + g * 2 + c) = v := ⟨_, rfl⟩
                    have c16 := HS.out _ _ _ H15.out (70 + g * 2 + c) (by omega)
                    have b16 := F.out.pre
                    rw [hv16] at c16 b16
                    have HV16 := Lib.hid hv16
                    clear hv16
                    go_wp2_with fail
                    refine (word_s H15.out (v := v16) (n := 1) (by omega) (by omega) (by omega) (by omega)).mono ?_
                    rintro e w116 ⟨rfl, h16⟩
                    rw [← HV16.out] at h16
                    have H16 : Hid (Sw (w.heap.size + 2) (w.heap.size + 3) w2 (b + 57) (ws ++ [(b, S (10 + g * 2 + c), 12)] ++ [(b + 12, S (14 + g * 2 + c), 9)] ++ [(b + 21, S (18 + g * 2 + c), 8)] ++ [(b + 29, S (22 + g * 2 + c), 4)] ++ [(b + 33, S (26 + g * 2 + c), 1)] ++ (List.range 3).map (fun j => (b + 34 + 5 * j, S (38 + g * 6 + c * 3 + j), 5)) ++ [(b + 49, S (62 + g * 2 + c), 4)] ++ [(b + 53, S (66 + g * 2 + c), 3)] ++ [(b + 56, S (70 + g * 2 + c), 1)]) w116) := Lib.hid h16
                    clear h16 c16 b16 H15
                    obtain ⟨v17, hv17⟩ : ∃ v, S (74 + g * 2 + c) = v := ⟨_, rfl⟩
                    have c17 := HS.out _ _ _ H16.out (74 + g * 2 + c) (by omega)
                    have b17 := F.out.scale
                    rw [hv17] at c17 b17
                    have HV17 := Lib.hid hv17
                    clear hv17
                    go_wp2_with fail
                    refine (word_s H16.out (v := v17) (n := 1) (by omega) (by omega) (by omega) (by omega)).mono ?_
                    rintro e w117 ⟨rfl, h17⟩
                    rw [← HV17.out] at h17
                    have H17 : Hid (Sw (w.heap.size + 2) (w.heap.size + 3) w2 (b + 58) (ws ++ [(b, S (10 + g * 2 + c), 12)] ++ [(b + 12, S (14 + g * 2 + c), 9)] ++ [(b + 21, S (18 + g * 2 + c), 8)] ++ [(b + 29, S (22 + g * 2 + c), 4)] ++ [(b + 33, S (26 + g * 2 + c), 1)] ++ (List.range 3).map (fun j => (b + 34 + 5 * j, S (38 + g * 6 + c * 3 + j), 5)) ++ [(b + 49, S (62 + g * 2 + c), 4)] ++ [(b + 53, S (66 + g * 2 + c), 3)] ++ [(b + 56, S (70 + g * 2 + c), 1)] ++ [(b + 57, S (74 + g * 2 + c), 1)]) w117) := Lib.hid h17
                    clear h17 c17 b17 H16
                    obtain ⟨v18, hv18⟩ : ∃ v, S (78 + g * 2 + c) = v := ⟨_, rfl⟩
                    have c18 := HS.out _ _ _ H17.out (78 + g * 2 + c) (by omega)
                    have b18 := F.out.which
                    rw [hv18] at c18 b18
                    have HV18 := Lib.hid hv18
                    clear hv18
                    go_wp2_with fail
                    refine (word_s H17.out (v := v18) (n := 1) (by omega) (by omega) (by omega) (by omega)).mono ?_
                    rintro e w118 ⟨rfl, h18⟩
                    rw [← HV18.out] at h18
                    have H18 : Hid (Sw (w.heap.size + 2) (w.heap.size + 3) w2 (b + 59) (ws ++ [(b, S (10 + g * 2 + c), 12)] ++ [(b + 12, S (14 + g * 2 + c), 9)] ++ [(b + 21, S (18 + g * 2 + c), 8)] ++ [(b + 29, S (22 + g * 2 + c), 4)] ++ [(b + 33, S (26 + g * 2 + c), 1)] ++ (List.range 3).map (fun j => (b + 34 + 5 * j, S (38 + g * 6 + c * 3 + j), 5)) ++ [(b + 49, S (62 + g * 2 + c), 4)] ++ [(b + 53, S (66 + g * 2 + c), 3)] ++ [(b + 56, S (70 + g * 2 + c), 1)] ++ [(b + 57, S (74 + g * 2 + c), 1)] ++ [(b + 58, S (78 + g * 2 + c), 1)]) w118) := Lib.hid h18
                    clear h18 c18 b18 H17
                    go_wp2_with fail
                    have e : ws ++ [(b, S (10 + g * 2 + c), 12)] ++ [(b + 12, S (14 + g * 2 + c), 9)] ++ [(b + 21, S (18 + g * 2 + c), 8)] ++ [(b + 29, S (22 + g * 2 + c), 4)] ++ [(b + 33, S (26 + g * 2 + c), 1)] ++ (List.range 3).map (fun j => (b + 34 + 5 * j, S (38 + g * 6 + c * 3 + j), 5)) ++ [(b + 49, S (62 + g * 2 + c), 4)] ++ [(b + 53, S (66 + g * 2 + c), 3)] ++ [(b + 56, S (70 + g * 2 + c), 1)] ++ [(b + 57, S (74 + g * 2 + c), 1)] ++ [(b + 58, S (78 + g * 2 + c), 1)] = ws ++ chunkW S b g c := by unfold chunkW; rw [HSW.out]; simp [List.append_assoc]
                    have HZ := H18.out
                    rw [e] at HZ
                    exact ⟨⟨c + 1, by omega, by go_num, _, Lib.hid (Sw.at HZ (by have := HBB.out; omega)), Lib.hid (HI.out.next HBB.out)⟩, by simp [intOf]; omega⟩
              · go_wp2_with fail
                refine (word_s H10.out (v := 1) (n := 1) (by omega) (by omega) (by omega) (by omega)).mono ?_
                rintro e w119 ⟨rfl, h19⟩
                have q : (1 : Int) = S (26 + g * 2 + c) := HSW.out.symm
                rw [q] at h19
                have H19 : Hid (Sw (w.heap.size + 2) (w.heap.size + 3) w2 (b + 34) (ws ++ [(b, S (10 + g * 2 + c), 12)] ++ [(b + 12, S (14 + g * 2 + c), 9)] ++ [(b + 21, S (18 + g * 2 + c), 8)] ++ [(b + 29, S (22 + g * 2 + c), 4)] ++ [(b + 33, S (26 + g * 2 + c), 1)]) w119) := Lib.hid h19
                clear h19 csw H10 q
                have csw := HS.out _ _ _ H19.out (26 + g * 2 + c) (by omega)
                rw [HSW.out] at csw
                obtain ⟨v20, hv20⟩ : ∃ v, S (30 + g * 2 + c) = v := ⟨_, rfl⟩
                have c20 := HS.out _ _ _ H19.out (30 + g * 2 + c) (by omega)
                have b20 := F.out.block
                rw [hv20] at c20 b20
                have HV20 := Lib.hid hv20
                clear hv20
                go_wp2_with fail
                refine (word_s H19.out (v := v20) (n := 2) (by omega) (by omega) (by omega) (by omega)).mono ?_
                rintro e w120 ⟨rfl, h20⟩
                rw [← HV20.out] at h20
                have H20 : Hid (Sw (w.heap.size + 2) (w.heap.size + 3) w2 (b + 36) (ws ++ [(b, S (10 + g * 2 + c), 12)] ++ [(b + 12, S (14 + g * 2 + c), 9)] ++ [(b + 21, S (18 + g * 2 + c), 8)] ++ [(b + 29, S (22 + g * 2 + c), 4)] ++ [(b + 33, S (26 + g * 2 + c), 1)] ++ [(b + 34, S (30 + g * 2 + c), 2)]) w120) := Lib.hid h20
                clear h20 c20 b20 H19
                obtain ⟨v21, hv21⟩ : ∃ v, S (34 + g * 2 + c) = v := ⟨_, rfl⟩
                have c21 := HS.out _ _ _ H20.out (34 + g * 2 + c) (by omega)
                have b21 := F.out.mixed
                rw [hv21] at c21 b21
                have HV21 := Lib.hid hv21
                clear hv21
                go_wp2_with fail
                refine (word_s H20.out (v := v21) (n := 1) (by omega) (by omega) (by omega) (by omega)).mono ?_
                rintro e w121 ⟨rfl, h21⟩
                rw [← HV21.out] at h21
                have H21 : Hid (Sw (w.heap.size + 2) (w.heap.size + 3) w2 (b + 37) (ws ++ [(b, S (10 + g * 2 + c), 12)] ++ [(b + 12, S (14 + g * 2 + c), 9)] ++ [(b + 21, S (18 + g * 2 + c), 8)] ++ [(b + 29, S (22 + g * 2 + c), 4)] ++ [(b + 33, S (26 + g * 2 + c), 1)] ++ [(b + 34, S (30 + g * 2 + c), 2)] ++ [(b + 36, S (34 + g * 2 + c), 1)]) w121) := Lib.hid h21
                clear h21 c21 b21 H20
                go_wp2_with fail
                go_loopw [119] (fun x wr => ∃ k : Nat, k ≤ 2 ∧ x = .int .i64 k ∧ Hid (Sw (w.heap.size + 2) (w.heap.size + 3) w2 (b + 37 + 5 * k) (ws ++ [(b, S (10 + g * 2 + c), 12)] ++ [(b + 12, S (14 + g * 2 + c), 9)] ++ [(b + 21, S (18 + g * 2 + c), 8)] ++ [(b + 29, S (22 + g * 2 + c), 4)] ++ [(b + 33, S (26 + g * 2 + c), 1)] ++ [(b + 34, S (30 + g * 2 + c), 2)] ++ [(b + 36, S (34 + g * 2 + c), 1)] ++ (List.range k).map (fun j => (b + 37 + 5 * j, S (38 + g * 6 + c * 3 + j), 5))) wr)) (fun x _ => 2 - (intOf x).toNat)
                case atStart => exact ⟨0, by omega, rfl, Lib.hid (by rw [List.range_zero, List.map_nil, List.append_nil]; exact H21.out)⟩
                case round =>
                  clear H21
                  obtain ⟨k, hk, rfl, HL⟩ := hrel
                  by_cases hltk : k < 2
                  · have d3 : decide ((k : Int) < 2) = true := decide_eq_true (by omega)
                    have ik0 : (0 : Int) ≤ (k : Int) := by omega
                    have ik1 : (k : Int) < 3 := by omega
                    obtain ⟨v22, hv22⟩ : ∃ v, S (38 + g * 6 + c * 3 + k) = v := ⟨_, rfl⟩
                    have c22 := HS.out _ _ _ HL.out (38 + g * 6 + c * 3 + k) (by omega)
                    have b22 := F.out.tab k (by omega)
                    rw [hv22] at c22 b22
                    have HV22 := Lib.hid hv22
                    clear hv22
                    go_wp2_with fail
                    refine (word_s HL.out (v := v22) (n := 5) (by omega) (by omega) (by omega) (by omega)).mono ?_
                    rintro e w122 ⟨rfl, h22⟩
                    rw [← HV22.out] at h22
                    have H22 : Hid (Sw (w.heap.size + 2) (w.heap.size + 3) w2 ((b + 37 + 5 * k) + 5) ((ws ++ [(b, S (10 + g * 2 + c), 12)] ++ [(b + 12, S (14 + g * 2 + c), 9)] ++ [(b + 21, S (18 + g * 2 + c), 8)] ++ [(b + 29, S (22 + g * 2 + c), 4)] ++ [(b + 33, S (26 + g * 2 + c), 1)] ++ [(b + 34, S (30 + g * 2 + c), 2)] ++ [(b + 36, S (34 + g * 2 + c), 1)] ++ (List.range k).map (fun j => (b + 37 + 5 * j, S (38 + g * 6 + c * 3 + j), 5))) ++ [((b + 37 + 5 * k), S (38 + g * 6 + c * 3 + k), 5)]) w122) := Lib.hid h22
                    clear h22 c22 b22 
                    go_wp2_with fail
                    exact ⟨⟨k + 1, by omega, by go_num, Lib.hid (by rw [(List.range_succ : List.range (k + 1) = List.range k ++ [k]), List.map_append, ← List.append_assoc]; exact Sw.at H22.out (by omega))⟩, by simp [intOf]; omega⟩
                  · obtain rfl : k = 2 := by omega
                    rw [show ((2 : Nat) : Int) = 2 from rfl]
                    have H23 : Hid (Sw (w.heap.size + 2) (w.heap.size + 3) w2 (b + 47) (ws ++ [(b, S (10 + g * 2 + c), 12)] ++ [(b + 12, S (14 + g * 2 + c), 9)] ++ [(b + 21, S (18 + g * 2 + c), 8)] ++ [(b + 29, S (22 + g * 2 + c), 4)] ++ [(b + 33, S (26 + g * 2 + c), 1)] ++ [(b + 34, S (30 + g * 2 + c), 2)] ++ [(b + 36, S (34 + g * 2 + c), 1)] ++ (List.range 2).map (fun j => (b + 37 + 5 * j, S (38 + g * 6 + c * 3 + j), 5))) wr) := HL
                    clear HL
                    go_wp2_with fail
                    go_loopw [133] (fun x wr => ∃ k : Nat, k ≤ 3 ∧ x = .int .i64 k ∧ Hid (Sw (w.heap.size + 2) (w.heap.size + 3) w2 (b + 47 + 3 * k) (ws ++ [(b, S (10 + g * 2 + c), 12)] ++ [(b + 12, S (14 + g * 2 + c), 9)] ++ [(b + 21, S (18 + g * 2 + c), 8)] ++ [(b + 29, S (22 + g * 2 + c), 4)] ++ [(b + 33, S (26 + g * 2 + c), 1)] ++ [(b + 34, S (30 + g * 2 + c), 2)] ++ [(b + 36, S (34 + g * 2 + c), 1)] ++ (List.range 2).map (fun j => (b + 37 + 5 * j, S (38 + g * 6 + c * 3 + j), 5)) ++ (List.range k).map (fun j => (b + 47 + 3 * j, S (50 + g * 6 + c * 3 + j), 3))) wr)) (fun x _ => 3 - (intOf x).toNat)
                    case atStart => exact ⟨0, by omega, rfl, Lib.hid (by rw [List.range_zero, List.map_nil, List.append_nil]; exact H23.out)⟩
                    case round =>
                      clear H23
                      obtain ⟨k, hk, rfl, HL⟩ := hrel
                      by_cases hltk : k < 3
                      · have d3 : decide ((k : Int) < 3) = true := decide_eq_true (by omega)
                        have ik0 : (0 : Int) ≤ (k : Int) := by omega
                        have ik1 : (k : Int) < 3 := by omega
                        obtain ⟨v24, hv24⟩ : ∃ v, S (50 + g * 6 + c * 3 + k) = v := ⟨_, rfl⟩
                        have c24 := HS.out _ _ _ HL.out (50 + g * 6 + c * 3 + k) (by omega)
                        have b24 := F.out.sub k (by omega)
                        rw [hv24] at c24 b24
                        have HV24 := Lib.hid hv24
                        clear hv24
                        go_wp2_with fail
                        refine (word_s HL.out (v := v24) (n := 3) (by omega) (by omega) (by omega) (by omega)).mono ?_
                        rintro e w124 ⟨rfl, h24⟩
                        rw [← HV24.out] at h24
                        have H24 : Hid (Sw (w.heap.size + 2) (w.heap.size + 3) w2 ((b + 47 + 3 * k) + 3) ((ws ++ [(b, S (10 + g * 2 + c), 12)] ++ [(b + 12, S (14 + g * 2 + c), 9)] ++ [(b + 21, S (18 + g * 2 + c), 8)] ++ [(b + 29, S (22 + g * 2 + c), 4)] ++ [(b + 33, S (26 + g * 2 + c), 1)] ++ [(b + 34, S (30 + g * 2 + c), 2)] ++ [(b + 36, S (34 + g * 2 + c), 1)] ++ (List.range 2).map (fun j => (b + 37 + 5 * j, S (38 + g * 6 + c * 3 + j), 5)) ++ (List.range k).map (fun j => (b + 47 + 3 * j, S (50 + g * 6 + c * 3 + j), 3))) ++ [((b + 47 + 3 * k), S (50 + g * 6 + c * 3 + k), 3)]) w124) := Lib.hid h24
                        clear h24 c24 b24 
                        go_wp2_with fail
                        exact ⟨⟨k + 1, by omega, by go_num, Lib.hid (by rw [(List.range_succ : List.range (k + 1) = List.range k ++ [k]), List.map_append, ← List.append_assoc]; exact Sw.at H24.out (by omega))⟩, by simp [intOf]; omega⟩
                      · obtain rfl : k = 3 := by omega
                        rw [show ((3 : Nat) : Int) = 3 from rfl]
                        have H25 : Hid (Sw (w.heap.size + 2) (w.heap.size + 3) w2 (b + 56) (ws ++ [(b, S (10 + g * 2 + c), 12)] ++ [(b + 12, S (14 + g * 2 + c), 9)] ++ [(b + 21, S (18 + g * 2 + c), 8)] ++ [(b + 29, S (22 + g * 2 + c), 4)] ++ [(b + 33, S (26 + g * 2 + c), 1)] ++ [(b + 34, S (30 + g * 2 + c), 2)] ++ [(b + 36, S (34 + g * 2 + c), 1)] ++ (List.range 2).map (fun j => (b + 37 + 5 * j, S (38 + g * 6 + c * 3 + j), 5)) ++ (List.range 3).map (fun j => (b + 47 + 3 * j, S (50 + g * 6 + c * 3 + j), 3))) wr) := HL
                        clear HL
                        obtain ⟨v26, hv26⟩ : ∃ v, S (70 + g * 2 + c) = v := ⟨_, rfl⟩
                        have c26 := HS.out _ _ _ H25.out (70 + g * 2 + c) (by omega)
                        have b26 := F.out.pre
                        rw [hv26] at c26 b26
                        have HV26 := Lib.hid hv26
                        clear hv26
                        go_wp2_with fail
                        refine (word_s H25.out (v := v26) (n := 1) (by omega) (by omega) (by omega) (by omega)).mono ?_
                        rintro e w126 ⟨rfl, h26⟩
                        rw [← HV26.out] at h26
                        have H26 : Hid (Sw (w.heap.size + 2) (w.heap.size + 3) w2 (b + 57) (ws ++ [(b, S (10 + g * 2 + c), 12)] ++ [(b + 12, S (14 + g * 2 + c), 9)] ++ [(b + 21, S (18 + g * 2 + c), 8)] ++ [(b + 29, S (22 + g * 2 + c), 4)] ++ [(b + 33, S (26 + g * 2 + c), 1)] ++ [(b + 34, S (30 + g * 2 + c), 2)] ++ [(b + 36, S (34 + g * 2 + c), 1)] ++ (List.range 2).map (fun j => (b + 37 + 5 * j, S (38 + g * 6 + c * 3 + j), 5)) ++ (List.range 3).map (fun j => (b + 47 + 3 * j, S (50 + g * 6 + c * 3 + j), 3)) ++ [(b + 56, S (70 + g * 2 + c), 1)]) w126) := Lib.hid h26
                        clear h26 c26 b26 H25
                        obtain ⟨v27, hv27⟩ : ∃ v, S (74 + g * 2 + c) = v := ⟨_, rfl⟩
                        have c27 := HS.out _ _ _ H26.out (74 + g * 2 + c) (by omega)
                        have b27 := F.out.scale
                        rw [hv27] at c27 b27
                        have HV27 := Lib.hid hv27
                        clear hv27
                        go_wp2_with fail
                        refine (word_s H26.out (v := v27) (n := 1) (by omega) (by omega) (by omega) (by omega)).mono ?_
                        rintro e w127 ⟨rfl, h27⟩
                        rw [← HV27.out] at h27
                        have H27 : Hid (Sw (w.heap.size + 2) (w.heap.size + 3) w2 (b + 58) (ws ++ [(b, S (10 + g * 2 + c), 12)] ++ [(b + 12, S (14 + g * 2 + c), 9)] ++ [(b + 21, S (18 + g * 2 + c), 8)] ++ [(b + 29, S (22 + g * 2 + c), 4)] ++ [(b + 33, S (26 + g * 2 + c), 1)] ++ [(b + 34, S (30 + g * 2 + c), 2)] ++ [(b + 36, S (34 + g * 2 + c), 1)] ++ (List.range 2).map (fun j => (b + 37 + 5 * j, S (38 + g * 6 + c * 3 + j), 5)) ++ (List.range 3).map (fun j => (b + 47 + 3 * j, S (50 + g * 6 + c * 3 + j), 3)) ++ [(b + 56, S (70 + g * 2 + c), 1)] ++ [(b + 57, S (74 + g * 2 + c), 1)]) w127) := Lib.hid h27
                        clear h27 c27 b27 H26
                        obtain ⟨v28, hv28⟩ : ∃ v, S (78 + g * 2 + c) = v := ⟨_, rfl⟩
                        have c28 := HS.out _ _ _ H27.out (78 + g * 2 + c) (by omega)
                        have b28 := F.out.which
                        rw [hv28] at c28 b28
                        have HV28 := Lib.hid hv28
                        clear hv28
                        go_wp2_with fail
                        refine (word_s H27.out (v := v28) (n := 1) (by omega) (by omega) (by omega) (by omega)).mono ?_
                        rintro e w128 ⟨rfl, h28⟩
                        rw [← HV28.out] at h28
                        have H28 : Hid (Sw (w.heap.size + 2) (w.heap.size + 3) w2 (b + 59) (ws ++ [(b, S (10 + g * 2 + c), 12)] ++ [(b + 12, S (14 + g * 2 + c), 9)] ++ [(b + 21, S (18 + g * 2 + c), 8)] ++ [(b + 29, S (22 + g * 2 + c), 4)] ++ [(b + 33, S (26 + g * 2 + c), 1)] ++ [(b + 34, S (30 + g * 2 + c), 2)] ++ [(b + 36, S (34 + g * 2 + c), 1)] ++ (List.range 2).map (fun j => (b + 37 + 5 * j, S (38 + g * 6 + c * 3 + j), 5)) ++ (List.range 3).map (fun j => (b + 47 + 3 * j, S (50 + g * 6 + c * 3 + j), 3)) ++ [(b + 56, S (70 + g * 2 + c), 1)] ++ [(b + 57, S (74 + g * 2 + c), 1)] ++ [(b + 58, S (78 + g * 2 + c), 1)]) w128) := Lib.hid h28
                        clear h28 c28 b28 H27
                        go_wp2_with fail
                        have e : ws ++ [(b, S (10 + g * 2 + c), 12)] ++ [(b + 12, S (14 + g * 2 + c), 9)] ++ [(b + 21, S (18 + g * 2 + c), 8)] ++ [(b + 29, S (22 + g * 2 + c), 4)] ++ [(b + 33, S (26 + g * 2 + c), 1)] ++ [(b + 34, S (30 + g * 2 + c), 2)] ++ [(b + 36, S (34 + g * 2 + c), 1)] ++ (List.range 2).map (fun j => (b + 37 + 5 * j, S (38 + g * 6 + c * 3 + j), 5)) ++ (List.range 3).map (fun j => (b + 47 + 3 * j, S (50 + g * 6 + c * 3 + j), 3)) ++ [(b + 56, S (70 + g * 2 + c), 1)] ++ [(b + 57, S (74 + g * 2 + c), 1)] ++ [(b + 58, S (78 + g * 2 + c), 1)] = ws ++ chunkW S b g c := by unfold chunkW; rw [HSW.out]; simp [List.append_assoc]
                        have HZ := H28.out
                        rw [e] at HZ
                        exact ⟨⟨c + 1, by omega, by go_num, _, Lib.hid (Sw.at HZ (by have := HBB.out; omega)), Lib.hid (HI.out.next HBB.out)⟩, by simp [intOf]; omega⟩
            · obtain rfl : c = 2 := by omega
              rw [show ((2 : Nat) : Int) = 2 from rfl]
              go_wp2_with fail
              exact ⟨⟨g + 1, by omega, by go_num, ws, Lib.hid (Sw.at H.out (by omega)), Lib.hid (HI.out.row)⟩, by simp [intOf]; omega⟩
        · obtain rfl : g = 2 := by omega
          rw [show ((2 : Nat) : Int) = 2 from rfl]
          obtain ⟨L, hr, hs⟩ := H.out.wr
          obtain ⟨ao, cap, c0, ho⟩ := hr.out
          obtain ⟨m, hm⟩ : ∃ m, L.length = m := ⟨_, rfl⟩
          have HO := Lib.hid (And.intro ho (And.intro hr (And.intro hs hm)))
          rw [hm] at c0
          clear ho hr hs hm
          go_wp2_with fail
          go_ret
          obtain ⟨ho, hr, hs, hm⟩ := HO.out
          refine ⟨L, ao, cap, by subst hm; rfl, owns_lower ho (by omega), hr.packed, ?_, HB2.out.trans (H.out.below.mono (by omega))⟩
          refine ⟨fun x hx => (hs x (HI.out.1.1 x hx)).2, fun c k hc hk => (hs _ (HI.out.1.2 c k hc hk (by omega))).2, fun g c hg hc x hx => (hs x (HI.out.2 g c hg hc (by omega) x hx)).2⟩
end Go.Proofs.YtppfldobgemddaaDoor
