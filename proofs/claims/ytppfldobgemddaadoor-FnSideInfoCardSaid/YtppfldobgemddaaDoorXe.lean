/-
  The contract of (*spec.writer).lines: it ends, and how many bits it writes at most.
-/
import Derived.Test.YtppfldobgemddaaDoorMn
import Derived.Deep.RegionHeld3
namespace Go.Proofs.YtppfldobgemddaaDoor
open Go.RowKit
set_option linter.unusedVariables false

theorem tabAt_ok {T0 T1 T2 one two : Int} (k0 : TabOk T0) (k1 : TabOk T1) (k2 : TabOk T2) (k : Nat) : TabOk (tabAt T0 T1 T2 one two k) := by
  unfold tabAt; split
  · exact k2
  · split
    · exact k1
    · exact k0
theorem topAt_le {T0 T1 T2 one two x : Int} (k0 : TabOk T0) (k1 : TabOk T1) (k2 : TabOk T2) (k : Nat) : topAt T0 T1 T2 one two x k ≤ 5 := by
  unfold topAt; split
  · exact (topOf_le _ (tabAt_ok k0 k1 k2 k)).2.1
  · decide
theorem lin_lt' {w : World} {lb : Nat} {top : Nat → Int} {n : Nat} (h : LinR w lb top n) : lb < w.heap.size := by
  obtain ⟨u, hu⟩ := h.cell 0 (by decide)
  exact block_lt_of_cell hu
/-- What stands in memory while lines are written. -/
structure LnM (N p lb W : Nat) (S : Nat → Int) (top : Nat → Int) (n : Nat) (w : World) : Prop where
  ptr : w.cell? ⟨N, 0, none⟩ = some (.pointer (some ⟨W, 0, none⟩))
  side : ∀ j, j < 86 → w.cell? ⟨N + 2, j, none⟩ = some (.int .i64 (S j))
  list : w.cell? ⟨p, 0, none⟩ = some (.slice (some ⟨lb, 0, none⟩) 576 576)
  lin : LinR w lb top n
theorem LnM.out {N p lb W base a k : Nat} {S top : Nat → Int} {n : Nat} {w w1 : World} (h0 : w.heap[N]? = some (.cells #[.pointer (some ⟨W, 0, none⟩)] 95 (0, 0))) (h1 : w.heap[N + 2]? = some (.cells (numL 86 S).toArray 47 (0, 0))) (h2 : w.heap[p]? = some (.cells #[.slice (some ⟨lb, 0, none⟩) 576 576] 54 (0, 0))) (h3 : LinR w lb top n) (n0 : N ≠ W) (n1 : N + 2 ≠ W) (n2 : p ≠ W) (n3 : lb ≠ W) (o : Out W base a k w w1) : LnM N p lb W S top n w1 := by
  refine ⟨?_, fun j hj => ?_, ?_, ?_⟩
  · rw [cell_of_row w1 _ 0 _ _ _ (o.row h0 n0 (by decide))]; rfl
  · rw [cell_of_row w1 _ j _ _ _ (o.row h1 n1 (by decide)), List.getElem?_toArray]; exact numL_at 86 S j hj
  · rw [cell_of_row w1 _ 0 _ _ _ (o.row h2 n2 (by decide))]; rfl
  · obtain ⟨cs, hb, hs, hc⟩ := h3
    exact ⟨cs, o.row hb n3 (by decide), hs, hc⟩
theorem top_pair {T0 T1 T2 one two : Int} {bn i j : Nat} (hi : i < bn) (hj : j = 2 * i ∨ j = 2 * i + 1) : topAt T0 T1 T2 one two (bn : Int) j = topOf (if two ≤ ((2 * i : Nat) : Int) then T2 else if one ≤ ((2 * i : Nat) : Int) then T1 else T0) := by
  unfold topAt tabAt
  rw [if_pos (by omega), show j / 2 * 2 = 2 * i by omega]
theorem pair_ready {T : Int} {k : Nat} {top : Nat → Int} (hT : TabOk T) (h : ∀ j, (j = k ∨ j = k + 1) → top j = topOf T) : (top k = topOf T ∧ top (k + 1) = topOf T) ∧ (∃ tp : Nat, topOf T = tp) ∧ topOf T ≤ 5 := by
  have h1 := topOf_le T hT
  exact ⟨⟨h k (.inl rfl), h (k + 1) (.inr rfl)⟩, ⟨(topOf T).toNat, by omega⟩, h1.2.1⟩
/-- The code of a pair: its place among the codes. -/
theorem pair_code {T x y : Int} {k n tp cn lo cc : Nat} {ca : Option Addr} {top : Nat → Int} {w6 : World} (h : (top k = topOf T ∧ top (k + 1) = topOf T) ∧ (∃ tp : Nat, topOf T = tp) ∧ topOf T ≤ 5) (htp : topOf T = tp)
    (hx : -5 ≤ x ∧ x ≤ 5 ∧ (k < n → -top k ≤ x ∧ x ≤ top k) ∧ (n ≤ k → x = 0)) (hy : -5 ≤ y ∧ y ≤ 5 ∧ (k + 1 < n → -top (k + 1) ≤ y ∧ y ≤ top (k + 1)) ∧ (n ≤ k + 1 → y = 0))
    (hsq : (cn : Int) = ((tp : Int) + 1) * ((tp : Int) + 1)) (hcd : Codes w6 lo cn (.slice ca cn cc)) :
    ∃ (ax ay : Nat) (s : ByteArray) (cb : Nat), max x (-x) = ax ∧ max y (-y) = ay ∧ ax ≤ 5 ∧ ay ≤ 5 ∧ tp ≤ 5 ∧ ax * (tp + 1) + ay < cn ∧ ca = some ⟨cb, 0, none⟩ ∧ lo ≤ cb ∧ (∃ cs, w6.heap[cb]? = some (.cells cs 9 (0, 0)) ∧ cs[ax * (tp + 1) + ay]? = some (.string s)) ∧ BitsS 12 s := by
  obtain ⟨⟨t1, t2⟩, _, t3⟩ := h
  rw [htp] at t1 t2 t3
  rw [t1] at hx
  rw [t2] at hy
  have bx : -(tp : Int) ≤ x ∧ x ≤ tp := by
    by_cases q : k < n
    · exact hx.2.2.1 q
    · have := hx.2.2.2 (by omega); omega
  have b_y : -(tp : Int) ≤ y ∧ y ≤ tp := by
    by_cases q : k + 1 < n
    · exact hy.2.2.1 q
    · have := hy.2.2.2 (by omega); omega
  obtain ⟨ax, hax⟩ : ∃ ax : Nat, max x (-x) = ax := ⟨(max x (-x)).toNat, by omega⟩
  obtain ⟨ay, hay⟩ : ∃ ay : Nat, max y (-y) = ay := ⟨(max y (-y)).toNat, by omega⟩
  have h1 : ax ≤ tp := by omega
  have h2 : ay ≤ tp := by omega
  have hlt : ax * (tp + 1) + ay < cn := by
    have e : cn = (tp + 1) * (tp + 1) := by exact_mod_cast hsq
    have : ax * (tp + 1) ≤ tp * (tp + 1) := Nat.mul_le_mul_right _ h1
    have e2 : (tp + 1) * (tp + 1) = tp * (tp + 1) + (tp + 1) := Nat.succ_mul _ _
    omega
  obtain ⟨cb, ccap, hv, hlo, cs, hc, hcs⟩ := hcd
  injection hv with e1 _ _
  obtain ⟨s, hs, hb⟩ := hcs _ hlt
  exact ⟨ax, ay, s, cb, hax, hay, by omega, by omega, by omega, hlt, e1, hlo, ⟨cs, hc, hs⟩, hb⟩
set_option maxRecDepth 100000 in
set_option maxHeartbeats 8000000 in
theorem results_none {P : Program} {fn : Func} (h : fn.results = #[]) (tmps : Array Value) (w : World) : (results fn tmps).run P w = .ok (.tuple #[]) w := by simp [results, h]
theorem or_one : ∀ v : Fin 8, bits .or .i64 ((v.val : Int) * 2) 1 = (v.val : Int) * 2 + 1 := by decide +kernel
theorem outc_step {W base a k a1 j cb : Nat} {w5 w w' : World} {ccs : Array Value} (h : Out W base a k w5 w ∧ w.heap[cb]? = some (.cells ccs 9 (0, 0))) (ge : a ≤ a1) (le : a1 ≤ a + k) (hb : cb ≠ W) (g : Out W base a1 j w w') : Out W base a (k + j) w5 w' ∧ w'.heap[cb]? = some (.cells ccs 9 (0, 0)) :=
  ⟨h.1.step ge le g, g.row (b := cb) h.2 hb (by decide)⟩
theorem outc_drew {W base a k cb : Nat} {w5 w : World} {ccs : Array Value} (h : Out W base a k w5 w ∧ w.heap[cb]? = some (.cells ccs 9 (0, 0))) : Out W base a k w5 w.drew ∧ w.drew.heap[cb]? = some (.cells ccs 9 (0, 0)) :=
  ⟨h.1.later (stpD (stp0 w)), h.2⟩
set_option maxRecDepth 100000 in
set_option maxHeartbeats 16000000 in
theorem lines_any (W base a lb : Nat) (S : Nat → Int) (mm : Array Value) (hB hR hP hM hJ hV hK : Int) (g c n : Nat) (hg : g < 2) (hc : c < 2) (r0 : 0 ≤ hR) (r1 : hR ≤ 2) (b0 : 0 ≤ S (14 + g * 2 + c)) (b1 : S (14 + g * 2 + c) ≤ 29) (hn : S (82 + g * 2 + c) = n) (hn1 : n ≤ 100)
    (hT : ∀ i, i < 3 → TabOk (S (38 + g * 6 + c * 3 + i))) (s0 : 0 ≤ S (62 + g * 2 + c)) (s1 : S (62 + g * 2 + c) ≤ 100) (s2 : 0 ≤ S (66 + g * 2 + c)) (s3 : S (66 + g * 2 + c) ≤ 100)
    (hmm : mm[244 + g * 2 + c]? = some (.slice (some ⟨lb, 0, none⟩) 576 576)) (ha : a ≤ 50000) (w : World) (h : Wn w W base a) (hlb : lb ≠ W)
    (hl : LinR w lb (topAt (S (38 + g * 6 + c * 3)) (S (38 + g * 6 + c * 3 + 1)) (S (38 + g * 6 + c * 3 + 2)) (reg1 S hR g c) (reg2 S hR g c) (S (14 + g * 2 + c))) n) :
    Calls Tryd.prog 30 #[.pointer (some ⟨W, 0, none⟩), .agg #[.int .i64 hB, .int .i64 hR, .int .i64 hP, .int .i64 hM, .int .i64 hJ, .int .i64 hV, .int .i64 hK], .agg (numL 86 S).toArray, .agg mm, .int .i64 g, .int .i64 c] w fun e w' => e = .returned (.tuple #[]) ∧ Out W base a 1200 w w' := by
  obtain ⟨w2, hw2⟩ : ∃ w2, w2 = (((w.alloc (.cells #[.pointer (some ⟨W, 0, none⟩)] 95)).alloc (.cells #[.int .i64 hB, .int .i64 hR, .int .i64 hP, .int .i64 hM, .int .i64 hJ, .int .i64 hV, .int .i64 hK] 30)).alloc (.cells (numL 86 S).toArray 47)).alloc (.cells mm 58) := ⟨_, rfl⟩
  have hW := h.lt
  have hb2 : Below w.heap.size w w2 := hw2 ▸ stpA (stpA (stpA (stpA (stp0 w) _) _) _) _
  have k0 : w2.heap[w.heap.size]? = some (.cells #[.pointer (some ⟨W, 0, none⟩)] 95 (0, 0)) := by rw [hw2, heap_alloc_old _ _ (by simp <;> omega), heap_alloc_old _ _ (by simp <;> omega), heap_alloc_old _ _ (by simp), heap_alloc_last]
  have k2 : w2.heap[w.heap.size + 2]? = some (.cells (numL 86 S).toArray 47 (0, 0)) := by
    rw [hw2, heap_alloc_old _ _ (by simp)]
    have := heap_alloc_last ((w.alloc (.cells #[.pointer (some ⟨W, 0, none⟩)] 95)).alloc (.cells #[.int .i64 hB, .int .i64 hR, .int .i64 hP, .int .i64 hM, .int .i64 hJ, .int .i64 hV, .int .i64 hK] 30)) (.cells (numL 86 S).toArray 47)
    simpa using this
  have k3 : w2.heap[w.heap.size + 3]? = some (.cells mm 58 (0, 0)) := by
    rw [hw2]
    have := heap_alloc_last (((w.alloc (.cells #[.pointer (some ⟨W, 0, none⟩)] 95)).alloc (.cells #[.int .i64 hB, .int .i64 hR, .int .i64 hP, .int .i64 hM, .int .i64 hJ, .int .i64 hV, .int .i64 hK] 30)).alloc (.cells (numL 86 S).toArray 47)) (.cells mm 58)
    simpa using this
  have k1 : w2.heap[w.heap.size + 1]? = some (.cells #[.int .i64 hB, .int .i64 hR, .int .i64 hP, .int .i64 hM, .int .i64 hJ, .int .i64 hV, .int .i64 hK] 30 (0, 0)) := by
    rw [hw2, heap_alloc_old _ _ (by simp <;> omega), heap_alloc_old _ _ (by simp)]
    have := heap_alloc_last (w.alloc (.cells #[.pointer (some ⟨W, 0, none⟩)] 95)) (.cells #[.int .i64 hB, .int .i64 hR, .int .i64 hP, .int .i64 hM, .int .i64 hJ, .int .i64 hV, .int .i64 hK] 30)
    simpa using this
  have ig0 : (0 : Int) ≤ (g : Int) := by omega
  have ig1 : (g : Int) < 2 := by omega
  have ic0 : (0 : Int) ≤ (c : Int) := by omega
  have ic1 : (c : Int) < 2 := by omega
  have HR := Lib.hid (show w2.rangeAt (w.heap.size + 2) 0 (numL 86 S) from numL_range fun j hj => by rw [Nat.zero_add, cell_of_row w2 _ j _ _ _ k2, List.getElem?_toArray]; exact numL_at 86 S j hj)
  have HL := Lib.hid (show w2.rangeAt (w.heap.size + 1) 0 [.int .i64 hB, .int .i64 hR, .int .i64 hP, .int .i64 hM, .int .i64 hJ, .int .i64 hV, .int .i64 hK] from by
    intro j v hv
    rw [Nat.zero_add, cell_of_row w2 _ j _ _ _ k1, List.getElem?_toArray]; exact hv)
  have H0 := Lib.hid (And.intro h (And.intro hl (And.intro hmm (And.intro hW (And.intro hb2 (And.intro k0 (And.intro k2 k3)))))))
  have HN := Lib.hid (And.intro hn (And.intro hT (And.intro b0 b1)))
  have HW2 := Lib.hid hw2
  obtain ⟨one, hone⟩ : ∃ one, one = reg1 S hR g c := ⟨_, rfl⟩
  obtain ⟨two, htwo⟩ : ∃ two, two = reg2 S hR g c := ⟨_, rfl⟩
  have HO := Lib.hid (And.intro hone htwo)
  clear hw2 h hl hmm hW hb2 k0 k1 k2 k3 hn hT b0 b1
  go_enter Tryd.func30, Tryd.ntmps30
  go_wp2_with (first | (rw [← HW2.out]; refine wpList_load_mid rfl 30 (.tmp 7) rfl (w.heap.size + 1) 0 rfl [.int .i64 hB, .int .i64 hR, .int .i64 hP, .int .i64 hM, .int .i64 hJ, .int .i64 hV, .int .i64 hK] _ HL.out Tryd.underlying30 rfl (by kernel_rfl) ?_) | (refine wpList_load_mid rfl 47 (.tmp 8) rfl (w.heap.size + 2) 0 rfl (numL 86 S) _ HR.out Tryd.underlying47 rfl (by rw [numL_len]; kernel_rfl) ?_))
  refine (regions_any S hB hR hP hM hJ hV hK g c hg hc r0 r1 s0 s1 s2 s3 _).mono ?_
  rintro e w3 ⟨rfl, hb3⟩
  rw [← hone, ← htwo]
  clear hone htwo s0 s1 s2 s3 r0 r1 HL HR
  obtain ⟨q0, q1, q2, q3, q4, q5, q6, q7⟩ := H0.out
  have c244 : w3.cell? ⟨w.heap.size + 3, 244 + g * 2 + c, none⟩ = some (.slice (some ⟨lb, 0, none⟩) 576 576) := by
    rw [hb3.cell (p := ⟨w.heap.size + 3, 244 + g * 2 + c, none⟩) (lt_of_heap q7), cell_of_row w2 _ _ _ _ _ q7]; exact q2
  have HB3 := Lib.hid hb3
  clear q0 q1 q2 q3 q4 q5 q6 q7 hb3
  go_wp2_with fail
  obtain ⟨bn, hbn⟩ : ∃ bn : Nat, S (14 + g * 2 + c) = bn := ⟨(S (14 + g * 2 + c)).toNat, by have := HN.out.2.2.1; omega⟩
  have hbn1 : bn ≤ 29 := by have := HN.out.2.2.2; omega
  obtain ⟨w5, hw5⟩ : ∃ w5, w5 = w3.alloc (.cells #[.slice (some ⟨lb, 0, none⟩) 576 576] 54) := ⟨_, rfl⟩
  obtain ⟨top, htop⟩ : ∃ top, top = topAt (S (38 + g * 6 + c * 3)) (S (38 + g * 6 + c * 3 + 1)) (S (38 + g * 6 + c * 3 + 2)) one two (S (14 + g * 2 + c)) := ⟨_, rfl⟩
  have HTP : Hid (∀ j, j < n → top j ≤ 5) := Lib.hid (fun j _ => by rw [htop]; exact topAt_le (HN.out.2.1 0 (by decide)) (HN.out.2.1 1 (by decide)) (HN.out.2.1 2 (by decide)) j)
  have facts : Wn w5 W base a ∧ (∀ wr, Out W base a 1200 w5 wr → LnM w.heap.size w3.heap.size lb W S top n wr) ∧ ∀ wr, Out W base a 1200 w5 wr → Out W base a 1200 w wr := by
    obtain ⟨q0, q1, q2, q3, q4, q5, q6, q7⟩ := H0.out
    have b5 : Below w2.heap.size w2 w5 := hw5 ▸ stpA HB3.out _
    have bb : Below w.heap.size w w5 := stp q4 b5
    have s2 := lt_of_heap q7
    have hp : w5.heap[w3.heap.size]? = some (.cells #[.slice (some ⟨lb, 0, none⟩) 576 576] 54 (0, 0)) := by rw [hw5, heap_alloc_last]
    have s3 := HB3.out.size
    refine ⟨q0.below bb, fun wr o => ?_, fun wr o => Out.ahead q3 bb o⟩
    refine LnM.out ((b5.block _ (lt_of_heap q5)).trans q5) ((b5.block _ (lt_of_heap q6)).trans q6) hp ?_ (by omega) (by omega) (by omega) hlb o
    rw [htop, HO.out.1, HO.out.2]
    exact q1.same (bb.block lb (lin_lt' q1))
  have H5 := Lib.hid (Out.refl facts.1 0)
  have HM := Lib.hid facts.2.1
  have HF := Lib.hid facts.2.2
  have HT := Lib.hid htop
  have HBN := Lib.hid hbn
  have hN : w.heap.size + 3 < w3.heap.size := by
    obtain ⟨q0, q1, q2, q3, q4, q5, q6, q7⟩ := H0.out
    have := lt_of_heap q7; have := HB3.out.size; omega
  clear facts htop hbn c244 hN
  have n1 : IntKind.i64.wrap (2 * (bn : Int)) = 2 * (bn : Int) := IntWalk.i64_in _ (by omega)
  rw [← hw5]
  clear hw5
  go_loopw [17] (fun x wr => ∃ i : Nat, i ≤ bn ∧ x = .int .i64 (2 * i : Nat) ∧ Hid (Out W base a (14 * i) w5 wr)) (fun x _ => 2 * bn - (intOf x).toNat)
  case atStart => exact ⟨0, by omega, rfl, H5⟩
  case round =>
    clear H5
    obtain ⟨i, hi, rfl, O⟩ := hrel
    have cb := (HM.out _ (O.out.mono (by omega))).side (14 + g * 2 + c) (by omega)
    rw [HBN.out] at cb
    have c38 := (HM.out _ (O.out.mono (by omega))).side (38 + g * 6 + c * 3) (by omega)
    obtain ⟨k, hk⟩ : ∃ k, k = 2 * i := ⟨_, rfl⟩
    rw [← hk]
    by_cases hlt : i < bn
    · have d1 : decide ((k : Int) < 2 * (bn : Int)) = true := decide_eq_true (by omega)
      have n2 : IntKind.i64.wrap ((k : Int) + 1) = ((k + 1 : Nat) : Int) := by rw [IntWalk.i64_in _ (by omega)]; omega
      have n3 : IntKind.i64.wrap ((k : Int) + 2) = ((k + 2 : Nat) : Int) := by rw [IntWalk.i64_in _ (by omega)]; omega
      have hkb : k ≤ 58 := by omega
      have hi28 : i ≤ 28 := by omega
      have HKI := Lib.hid (And.intro hk hlt)
      by_cases h2 : two ≤ (k : Int)
      · have d2 : decide (two ≤ (k : Int)) = true := decide_eq_true h2
        obtain ⟨T, hTT⟩ : ∃ T, T = S (38 + g * 6 + c * 3 + 2) := ⟨_, rfl⟩
        have cT := (HM.out _ (O.out.mono (by omega))).side (38 + g * 6 + c * 3 + 2) (by omega)
        rw [← hTT] at cT
        have hTk : TabOk T := hTT ▸ (HN.out.2.1 2 (by decide))
        have htt : ∀ j, (j = k ∨ j = k + 1) → top j = topOf T := fun j hj => by
          rw [HT.out, HBN.out, top_pair (i := i) (j := j) hlt (by omega), ← hk, if_pos h2, hTT]
        have HPF := Lib.hid (pair_ready hTk htt)
        clear hTT hk h2 htt hlt hi
        have HM1 := Lib.hid (HM.out _ (O.out.mono (by omega)))
        go_wp2_with fail
        refine (at_any w3.heap.size lb k n (by omega) (by omega) top HTP.out _ HM1.out.lin HM1.out.list).mono ?_
        rintro e wq ⟨rfl, x, rfl, hx⟩
        have HX := Lib.hid hx
        clear hx
        go_wp2_with fail
        refine (at_any w3.heap.size lb (k + 1) n (by omega) (by omega) top HTP.out _ HM1.out.lin HM1.out.list).mono ?_
        rintro e wq ⟨rfl, y, rfl, hy⟩
        have HY := Lib.hid hy
        clear hy
        go_wp2_with fail
        refine (codes_any T hTk _).mono ?_
        rintro e w6 ⟨cv, cn, rfl, hb6, ⟨ca, cn', cc, rfl, rfl⟩, hcode⟩
        have O6 := Lib.hid (O.out.later hb6)
        have HWW : Hid (W < wr.heap.size) := Lib.hid (by obtain ⟨a', h1, _⟩ := O.out.ok; exact h1.lt)
        clear O HM1
        obtain ⟨tp, htp⟩ : ∃ tp : Nat, topOf T = tp := HPF.out.2.1
        rw [htp] at hcode ⊢
        have HTP1 := Lib.hid htp
        clear htp hb6 cT
        rcases hcode with rfl | ⟨hsq, hcd⟩
        · go_wp2_with fail
          have hk := HKI.out
          exact ⟨⟨i + 1, by omega, by rw [show 2 * (i + 1) = k + 2 by omega]; rfl, Lib.hid (O6.out.mono (by omega))⟩, by simp [intOf]; omega⟩
        · obtain ⟨ax, ay, s, cb, hax, hay, ax5, ay5, tp5, hlt, rfl, hcb, ⟨ccs, hcc, hcs⟩, hbits⟩ := pair_code HPF.out HTP1.out HX.out HY.out hsq hcd
          have nx : IntKind.i64.wrap (-x) = -x := IntWalk.i64_in _ (by have := HX.out; omega)
          have ny : IntKind.i64.wrap (-y) = -y := IntWalk.i64_in _ (by have := HY.out; omega)
          have mx : (if x < -x then -x else x) = (ax : Int) := by rw [← hax]; split <;> omega
          have my : (if y < -y then -y else y) = (ay : Int) := by rw [← hay]; split <;> omega
          obtain ⟨q, hq⟩ : ∃ q, q = ax * (tp + 1) := ⟨_, rfl⟩
          have hq5 : q ≤ 30 := by
            have := Nat.mul_le_mul ax5 (show tp + 1 ≤ 6 by omega)
            omega
          rw [← hq] at hlt hcs
          have nq : IntKind.i64.wrap ((ax : Int) * ((tp : Int) + 1)) = (q : Int) := by
            have e : (ax : Int) * ((tp : Int) + 1) = (q : Int) := by rw [hq]; simp
            rw [e]; exact IntWalk.i64_in _ (by omega)
          obtain ⟨ix, hix⟩ : ∃ ix, ix = q + ay := ⟨_, rfl⟩
          rw [← hix] at hlt hcs
          have ni : IntKind.i64.wrap ((q : Int) + ay) = (ix : Int) := by rw [IntWalk.i64_in _ (by omega)]; omega
          have li : (ix : Int) < (cn' : Int) := by omega
          have li0 : (0 : Int) ≤ (ix : Int) := by omega
          have hW6 : cb ≠ W := by have := HWW.out; omega
          have HQ := Lib.hid hq
          have HSQ := Lib.hid (And.intro hsq (And.intro hlt (And.intro hcb (And.intro hcc (And.intro hcs hbits)))))
          have cc0 : w6.cell? ⟨cb, ix, none⟩ = some (.string s) := by rw [cell_of_row w6 cb _ ccs _ _ hcc]; exact hcs
          have cp0 := (HM.out _ (O6.out.mono (by omega))).ptr
          clear hix hq hsq hlt hcb hcc hcs hbits ax5 ay5 tp5 hq5 hax hay
          obtain ⟨a1, hw1, ge1, le1⟩ := O6.out.ok
          have HW1 := Lib.hid hw1
          have ha1 : a1 ≤ 90000 := by omega
          have HO7 : Hid (∀ w7, Out W base a1 12 w6.drew w7 → Out W base a (14 * i + 12) w5 w7 ∧ w7.cell? ⟨cb, ix, none⟩ = some (.string s)) := Lib.hid (fun w7 ho => ⟨(O6.out.later (stpD (stp0 w6))).step ge1 le1 ho, by
            rw [cell_of_row w7 cb _ ccs _ _ (ho.row (b := cb) HSQ.out.2.2.2.1 hW6 (by decide))]; exact HSQ.out.2.2.2.2.1⟩)
          clear hw1 ge1 le1
          go_wp2_with fail
          go_region_held3 (fun w' => w'.cell? ⟨w.heap.size, 0, none⟩ = some (.pointer (some ⟨W, 0, none⟩)) ∧ w'.cell? ⟨cb, ix, none⟩ = some (.string s)) ((first | exact ⟨cp0, cc0⟩ | exact ⟨p7, s7⟩)) ((first | (go_at_call 46; refine (code_any W base a1 12 s HSQ.out.2.2.2.2.2 (by omega) (by omega) _ (HW1.out.below (stpD (stp0 _)))).mono ?_; rintro e w7 ⟨rfl, ho7⟩; have H7 := Lib.hid (HO7.out _ ho7).1; have s7 := (HO7.out _ ho7).2; have p7 := (HM.out _ (H7.out.mono (by omega))).ptr; clear ho7)))
          all_goals
            obtain ⟨a2, hw2, ge2, le2⟩ := H7.out.ok
            have HW2' := Lib.hid hw2
            have ha2 : a2 ≤ 90000 := by omega
            have P7 := Lib.hid p7
            clear s7 p7 cc0 cp0
            have HO8 : Hid (∀ w8, Out W base a2 1 w7 w8 → Out W base a (14 * i + 12 + 1) w5 w8) := Lib.hid (fun w8 ho => H7.out.step ge2 le2 ho)
            clear hw2 ge2 le2
            go_wp2_with fail
            refine (sign_any W base a2 w.heap.size x (by have := HX.out; omega) (by have := HX.out; omega) ha2 _ HW2'.out P7.out).mono ?_
            rintro e w8 ⟨rfl, ho8⟩
            have H8 := Lib.hid (HO8.out _ ho8)
            clear ho8 HO8 P7
            obtain ⟨a3, hw3, ge3, le3⟩ := H8.out.ok
            have HW3 := Lib.hid hw3
            have ha3 : a3 ≤ 90000 := by omega
            have P8 := Lib.hid (HM.out _ (H8.out.mono (by omega))).ptr
            have HO9 : Hid (∀ w9, Out W base a3 1 w8 w9 → Out W base a (14 * i + 12 + 1 + 1) w5 w9) := Lib.hid (fun w9 ho => H8.out.step ge3 le3 ho)
            clear hw3 ge3 le3
            go_wp2_with fail
            refine (sign_any W base a3 w.heap.size y (by have := HY.out; omega) (by have := HY.out; omega) ha3 _ HW3.out P8.out).mono ?_
            rintro e w9 ⟨rfl, ho9⟩
            have H9 := Lib.hid (HO9.out _ ho9)
            clear ho9 HO9 P8
            go_wp2_with fail
            have hk := HKI.out
            exact ⟨⟨i + 1, by omega, by rw [show 2 * (i + 1) = k + 2 by omega]; rfl, Lib.hid (H9.out.mono (by omega))⟩, by simp [intOf]; omega⟩
      · have d2 : decide (two ≤ (k : Int)) = false := decide_eq_false h2
        by_cases h1 : one ≤ (k : Int)
        · have d3 : decide (one ≤ (k : Int)) = true := decide_eq_true h1
          obtain ⟨T, hTT⟩ : ∃ T, T = S (38 + g * 6 + c * 3 + 1) := ⟨_, rfl⟩
          have cT := (HM.out _ (O.out.mono (by omega))).side (38 + g * 6 + c * 3 + 1) (by omega)
          rw [← hTT] at cT
          have hTk : TabOk T := hTT ▸ (HN.out.2.1 1 (by decide))
          have htt : ∀ j, (j = k ∨ j = k + 1) → top j = topOf T := fun j hj => by
            rw [HT.out, HBN.out, top_pair (i := i) (j := j) hlt (by omega), ← hk, if_neg h2, if_pos h1, hTT]
          have HPF := Lib.hid (pair_ready hTk htt)
          clear hTT hk h2 h1 htt hlt hi
          have HM1 := Lib.hid (HM.out _ (O.out.mono (by omega)))
          go_wp2_with fail
          refine (at_any w3.heap.size lb k n (by omega) (by omega) top HTP.out _ HM1.out.lin HM1.out.list).mono ?_
          rintro e wq ⟨rfl, x, rfl, hx⟩
          have HX := Lib.hid hx
          clear hx
          go_wp2_with fail
          refine (at_any w3.heap.size lb (k + 1) n (by omega) (by omega) top HTP.out _ HM1.out.lin HM1.out.list).mono ?_
          rintro e wq ⟨rfl, y, rfl, hy⟩
          have HY := Lib.hid hy
          clear hy
          go_wp2_with fail
          refine (codes_any T hTk _).mono ?_
          rintro e w6 ⟨cv, cn, rfl, hb6, ⟨ca, cn', cc, rfl, rfl⟩, hcode⟩
          have O6 := Lib.hid (O.out.later hb6)
          have HWW : Hid (W < wr.heap.size) := Lib.hid (by obtain ⟨a', h1, _⟩ := O.out.ok; exact h1.lt)
          clear O HM1
          obtain ⟨tp, htp⟩ : ∃ tp : Nat, topOf T = tp := HPF.out.2.1
          rw [htp] at hcode ⊢
          have HTP1 := Lib.hid htp
          clear htp hb6 cT
          rcases hcode with rfl | ⟨hsq, hcd⟩
          · go_wp2_with fail
            have hk := HKI.out
            exact ⟨⟨i + 1, by omega, by rw [show 2 * (i + 1) = k + 2 by omega]; rfl, Lib.hid (O6.out.mono (by omega))⟩, by simp [intOf]; omega⟩
          · obtain ⟨ax, ay, s, cb, hax, hay, ax5, ay5, tp5, hlt, rfl, hcb, ⟨ccs, hcc, hcs⟩, hbits⟩ := pair_code HPF.out HTP1.out HX.out HY.out hsq hcd
            have nx : IntKind.i64.wrap (-x) = -x := IntWalk.i64_in _ (by have := HX.out; omega)
            have ny : IntKind.i64.wrap (-y) = -y := IntWalk.i64_in _ (by have := HY.out; omega)
            have mx : (if x < -x then -x else x) = (ax : Int) := by rw [← hax]; split <;> omega
            have my : (if y < -y then -y else y) = (ay : Int) := by rw [← hay]; split <;> omega
            obtain ⟨q, hq⟩ : ∃ q, q = ax * (tp + 1) := ⟨_, rfl⟩
            have hq5 : q ≤ 30 := by
              have := Nat.mul_le_mul ax5 (show tp + 1 ≤ 6 by omega)
              omega
            rw [← hq] at hlt hcs
            have nq : IntKind.i64.wrap ((ax : Int) * ((tp : Int) + 1)) = (q : Int) := by
              have e : (ax : Int) * ((tp : Int) + 1) = (q : Int) := by rw [hq]; simp
              rw [e]; exact IntWalk.i64_in _ (by omega)
            obtain ⟨ix, hix⟩ : ∃ ix, ix = q + ay := ⟨_, rfl⟩
            rw [← hix] at hlt hcs
            have ni : IntKind.i64.wrap ((q : Int) + ay) = (ix : Int) := by rw [IntWalk.i64_in _ (by omega)]; omega
            have li : (ix : Int) < (cn' : Int) := by omega
            have li0 : (0 : Int) ≤ (ix : Int) := by omega
            have hW6 : cb ≠ W := by have := HWW.out; omega
            have HQ := Lib.hid hq
            have HSQ := Lib.hid (And.intro hsq (And.intro hlt (And.intro hcb (And.intro hcc (And.intro hcs hbits)))))
            have cc0 : w6.cell? ⟨cb, ix, none⟩ = some (.string s) := by rw [cell_of_row w6 cb _ ccs _ _ hcc]; exact hcs
            have cp0 := (HM.out _ (O6.out.mono (by omega))).ptr
            clear hix hq hsq hlt hcb hcc hcs hbits ax5 ay5 tp5 hq5 hax hay
            obtain ⟨a1, hw1, ge1, le1⟩ := O6.out.ok
            have HW1 := Lib.hid hw1
            have ha1 : a1 ≤ 90000 := by omega
            have HO7 : Hid (∀ w7, Out W base a1 12 w6.drew w7 → Out W base a (14 * i + 12) w5 w7 ∧ w7.cell? ⟨cb, ix, none⟩ = some (.string s)) := Lib.hid (fun w7 ho => ⟨(O6.out.later (stpD (stp0 w6))).step ge1 le1 ho, by
              rw [cell_of_row w7 cb _ ccs _ _ (ho.row (b := cb) HSQ.out.2.2.2.1 hW6 (by decide))]; exact HSQ.out.2.2.2.2.1⟩)
            clear hw1 ge1 le1
            go_wp2_with fail
            go_region_held3 (fun w' => w'.cell? ⟨w.heap.size, 0, none⟩ = some (.pointer (some ⟨W, 0, none⟩)) ∧ w'.cell? ⟨cb, ix, none⟩ = some (.string s)) ((first | exact ⟨cp0, cc0⟩ | exact ⟨p7, s7⟩)) ((first | (go_at_call 46; refine (code_any W base a1 12 s HSQ.out.2.2.2.2.2 (by omega) (by omega) _ (HW1.out.below (stpD (stp0 _)))).mono ?_; rintro e w7 ⟨rfl, ho7⟩; have H7 := Lib.hid (HO7.out _ ho7).1; have s7 := (HO7.out _ ho7).2; have p7 := (HM.out _ (H7.out.mono (by omega))).ptr; clear ho7)))
            all_goals
              obtain ⟨a2, hw2, ge2, le2⟩ := H7.out.ok
              have HW2' := Lib.hid hw2
              have ha2 : a2 ≤ 90000 := by omega
              have P7 := Lib.hid p7
              clear s7 p7 cc0 cp0
              have HO8 : Hid (∀ w8, Out W base a2 1 w7 w8 → Out W base a (14 * i + 12 + 1) w5 w8) := Lib.hid (fun w8 ho => H7.out.step ge2 le2 ho)
              clear hw2 ge2 le2
              go_wp2_with fail
              refine (sign_any W base a2 w.heap.size x (by have := HX.out; omega) (by have := HX.out; omega) ha2 _ HW2'.out P7.out).mono ?_
              rintro e w8 ⟨rfl, ho8⟩
              have H8 := Lib.hid (HO8.out _ ho8)
              clear ho8 HO8 P7
              obtain ⟨a3, hw3, ge3, le3⟩ := H8.out.ok
              have HW3 := Lib.hid hw3
              have ha3 : a3 ≤ 90000 := by omega
              have P8 := Lib.hid (HM.out _ (H8.out.mono (by omega))).ptr
              have HO9 : Hid (∀ w9, Out W base a3 1 w8 w9 → Out W base a (14 * i + 12 + 1 + 1) w5 w9) := Lib.hid (fun w9 ho => H8.out.step ge3 le3 ho)
              clear hw3 ge3 le3
              go_wp2_with fail
              refine (sign_any W base a3 w.heap.size y (by have := HY.out; omega) (by have := HY.out; omega) ha3 _ HW3.out P8.out).mono ?_
              rintro e w9 ⟨rfl, ho9⟩
              have H9 := Lib.hid (HO9.out _ ho9)
              clear ho9 HO9 P8
              go_wp2_with fail
              have hk := HKI.out
              exact ⟨⟨i + 1, by omega, by rw [show 2 * (i + 1) = k + 2 by omega]; rfl, Lib.hid (H9.out.mono (by omega))⟩, by simp [intOf]; omega⟩
        · have d3 : decide (one ≤ (k : Int)) = false := decide_eq_false h1
          obtain ⟨T, hTT⟩ : ∃ T, T = S (38 + g * 6 + c * 3) := ⟨_, rfl⟩
          have cT := c38; clear c38
          rw [← hTT] at cT
          have hTk : TabOk T := hTT ▸ (HN.out.2.1 0 (by decide))
          have htt : ∀ j, (j = k ∨ j = k + 1) → top j = topOf T := fun j hj => by
            rw [HT.out, HBN.out, top_pair (i := i) (j := j) hlt (by omega), ← hk, if_neg h2, if_neg h1, hTT]
          have HPF := Lib.hid (pair_ready hTk htt)
          clear hTT hk h2 h1 htt hlt hi
          have HM1 := Lib.hid (HM.out _ (O.out.mono (by omega)))
          go_wp2_with fail
          refine (at_any w3.heap.size lb k n (by omega) (by omega) top HTP.out _ HM1.out.lin HM1.out.list).mono ?_
          rintro e wq ⟨rfl, x, rfl, hx⟩
          have HX := Lib.hid hx
          clear hx
          go_wp2_with fail
          refine (at_any w3.heap.size lb (k + 1) n (by omega) (by omega) top HTP.out _ HM1.out.lin HM1.out.list).mono ?_
          rintro e wq ⟨rfl, y, rfl, hy⟩
          have HY := Lib.hid hy
          clear hy
          go_wp2_with fail
          refine (codes_any T hTk _).mono ?_
          rintro e w6 ⟨cv, cn, rfl, hb6, ⟨ca, cn', cc, rfl, rfl⟩, hcode⟩
          have O6 := Lib.hid (O.out.later hb6)
          have HWW : Hid (W < wr.heap.size) := Lib.hid (by obtain ⟨a', h1, _⟩ := O.out.ok; exact h1.lt)
          clear O HM1
          obtain ⟨tp, htp⟩ : ∃ tp : Nat, topOf T = tp := HPF.out.2.1
          rw [htp] at hcode ⊢
          have HTP1 := Lib.hid htp
          clear htp hb6 cT
          rcases hcode with rfl | ⟨hsq, hcd⟩
          · go_wp2_with fail
            have hk := HKI.out
            exact ⟨⟨i + 1, by omega, by rw [show 2 * (i + 1) = k + 2 by omega]; rfl, Lib.hid (O6.out.mono (by omega))⟩, by simp [intOf]; omega⟩
          · obtain ⟨ax, ay, s, cb, hax, hay, ax5, ay5, tp5, hlt, rfl, hcb, ⟨ccs, hcc, hcs⟩, hbits⟩ := pair_code HPF.out HTP1.out HX.out HY.out hsq hcd
            have nx : IntKind.i64.wrap (-x) = -x := IntWalk.i64_in _ (by have := HX.out; omega)
            have ny : IntKind.i64.wrap (-y) = -y := IntWalk.i64_in _ (by have := HY.out; omega)
            have mx : (if x < -x then -x else x) = (ax : Int) := by rw [← hax]; split <;> omega
            have my : (if y < -y then -y else y) = (ay : Int) := by rw [← hay]; split <;> omega
            obtain ⟨q, hq⟩ : ∃ q, q = ax * (tp + 1) := ⟨_, rfl⟩
            have hq5 : q ≤ 30 := by
              have := Nat.mul_le_mul ax5 (show tp + 1 ≤ 6 by omega)
              omega
            rw [← hq] at hlt hcs
            have nq : IntKind.i64.wrap ((ax : Int) * ((tp : Int) + 1)) = (q : Int) := by
              have e : (ax : Int) * ((tp : Int) + 1) = (q : Int) := by rw [hq]; simp
              rw [e]; exact IntWalk.i64_in _ (by omega)
            obtain ⟨ix, hix⟩ : ∃ ix, ix = q + ay := ⟨_, rfl⟩
            rw [← hix] at hlt hcs
            have ni : IntKind.i64.wrap ((q : Int) + ay) = (ix : Int) := by rw [IntWalk.i64_in _ (by omega)]; omega
            have li : (ix : Int) < (cn' : Int) := by omega
            have li0 : (0 : Int) ≤ (ix : Int) := by omega
            have hW6 : cb ≠ W := by have := HWW.out; omega
            have HQ := Lib.hid hq
            have HSQ := Lib.hid (And.intro hsq (And.intro hlt (And.intro hcb (And.intro hcc (And.intro hcs hbits)))))
            have cc0 : w6.cell? ⟨cb, ix, none⟩ = some (.string s) := by rw [cell_of_row w6 cb _ ccs _ _ hcc]; exact hcs
            have cp0 := (HM.out _ (O6.out.mono (by omega))).ptr
            clear hix hq hsq hlt hcb hcc hcs hbits ax5 ay5 tp5 hq5 hax hay
            obtain ⟨a1, hw1, ge1, le1⟩ := O6.out.ok
            have HW1 := Lib.hid hw1
            have ha1 : a1 ≤ 90000 := by omega
            have HO7 : Hid (∀ w7, Out W base a1 12 w6.drew w7 → Out W base a (14 * i + 12) w5 w7 ∧ w7.cell? ⟨cb, ix, none⟩ = some (.string s)) := Lib.hid (fun w7 ho => ⟨(O6.out.later (stpD (stp0 w6))).step ge1 le1 ho, by
              rw [cell_of_row w7 cb _ ccs _ _ (ho.row (b := cb) HSQ.out.2.2.2.1 hW6 (by decide))]; exact HSQ.out.2.2.2.2.1⟩)
            clear hw1 ge1 le1
            go_wp2_with fail
            go_region_held3 (fun w' => w'.cell? ⟨w.heap.size, 0, none⟩ = some (.pointer (some ⟨W, 0, none⟩)) ∧ w'.cell? ⟨cb, ix, none⟩ = some (.string s)) ((first | exact ⟨cp0, cc0⟩ | exact ⟨p7, s7⟩)) ((first | (go_at_call 46; refine (code_any W base a1 12 s HSQ.out.2.2.2.2.2 (by omega) (by omega) _ (HW1.out.below (stpD (stp0 _)))).mono ?_; rintro e w7 ⟨rfl, ho7⟩; have H7 := Lib.hid (HO7.out _ ho7).1; have s7 := (HO7.out _ ho7).2; have p7 := (HM.out _ (H7.out.mono (by omega))).ptr; clear ho7)))
            all_goals
              obtain ⟨a2, hw2, ge2, le2⟩ := H7.out.ok
              have HW2' := Lib.hid hw2
              have ha2 : a2 ≤ 90000 := by omega
              have P7 := Lib.hid p7
              clear s7 p7 cc0 cp0
              have HO8 : Hid (∀ w8, Out W base a2 1 w7 w8 → Out W base a (14 * i + 12 + 1) w5 w8) := Lib.hid (fun w8 ho => H7.out.step ge2 le2 ho)
              clear hw2 ge2 le2
              go_wp2_with fail
              refine (sign_any W base a2 w.heap.size x (by have := HX.out; omega) (by have := HX.out; omega) ha2 _ HW2'.out P7.out).mono ?_
              rintro e w8 ⟨rfl, ho8⟩
              have H8 := Lib.hid (HO8.out _ ho8)
              clear ho8 HO8 P7
              obtain ⟨a3, hw3, ge3, le3⟩ := H8.out.ok
              have HW3 := Lib.hid hw3
              have ha3 : a3 ≤ 90000 := by omega
              have P8 := Lib.hid (HM.out _ (H8.out.mono (by omega))).ptr
              have HO9 : Hid (∀ w9, Out W base a3 1 w8 w9 → Out W base a (14 * i + 12 + 1 + 1) w5 w9) := Lib.hid (fun w9 ho => H8.out.step ge3 le3 ho)
              clear hw3 ge3 le3
              go_wp2_with fail
              refine (sign_any W base a3 w.heap.size y (by have := HY.out; omega) (by have := HY.out; omega) ha3 _ HW3.out P8.out).mono ?_
              rintro e w9 ⟨rfl, ho9⟩
              have H9 := Lib.hid (HO9.out _ ho9)
              clear ho9 HO9 P8
              go_wp2_with fail
              have hk := HKI.out
              exact ⟨⟨i + 1, by omega, by rw [show 2 * (i + 1) = k + 2 by omega]; rfl, Lib.hid (H9.out.mono (by omega))⟩, by simp [intOf]; omega⟩
    · have hib : i = bn := by omega
      subst hib
      have d1 : decide ((k : Int) < 2 * (i : Int)) = false := decide_eq_false (by omega)
      clear hk hlt hi c38
      have c78 := (HM.out _ (O.out.mono (by omega))).side (78 + g * 2 + c) (by omega)
      obtain ⟨wh, hwh⟩ : ∃ wh, wh = S (78 + g * 2 + c) := ⟨_, rfl⟩
      rw [← hwh] at c78
      clear hwh
      go_wp2_with fail
      refine (fours_any _ _).mono ?_
      rintro e w6 ⟨v, rfl, hb6, ⟨va, vc, rfl⟩, fb, ccap, hcv, hcb, ccs, hcc, hcs⟩
      injection hcv with e1 _ e2
      subst e1
      subst e2
      have hcW : fb ≠ W := by
        obtain ⟨a', h1, _⟩ := O.out.ok
        have := h1.lt
        omega
      have O6 : Hid (Out W base a (14 * i + 16 * 0) w5 w6 ∧ w6.heap[fb]? = some (.cells ccs 9 (0, 0))) := Lib.hid ⟨O.out.later hb6, hcc⟩
      have HCW := Lib.hid hcW
      have HCS := Lib.hid hcs
      have HN1 := Lib.hid hn1
      have cb' := (HM.out _ (O6.out.1.mono (by omega))).side (14 + g * 2 + c) (by omega)
      rw [HBN.out] at cb'
      clear O hb6 hcb hcc hcs c78 d1 hcW cb
      go_wp2_with fail
      obtain ⟨kk, hkk⟩ : ∃ kk : Nat, kk = 2 * i := ⟨_, rfl⟩
      have e2 : (2 * (i : Int)) = (kk : Int) := by omega
      rw [e2]
      have HKK := Lib.hid hkk
      have hkk58 : kk ≤ 58 := by omega
      clear hkk e2 n1 cb'
      go_loopw [24] (fun x wr => ∃ j : Nat, j ≤ 25 ∧ x = .int .i64 (kk + 4 * j : Nat) ∧ Hid (Out W base a (14 * i + 16 * j) w5 wr ∧ wr.heap[fb]? = some (.cells ccs 9 (0, 0)))) (fun x _ => 400 - (intOf x).toNat)
      case atStart => exact ⟨0, by omega, rfl, O6⟩
      case round =>
        clear O6
        obtain ⟨j, hj, rfl, O⟩ := hrel
        obtain ⟨k2, hk2⟩ : ∃ k2, k2 = kk + 4 * j := ⟨_, rfl⟩
        rw [← hk2]
        have hk2b : k2 ≤ 158 := by omega
        have c82 := (HM.out _ (O.out.1.mono (by omega))).side (82 + g * 2 + c) (by omega)
        rw [HN.out.1] at c82
        have HK2 := Lib.hid (And.intro hk2 hj)
        by_cases hlt : k2 < n
        · have d1 : decide ((k2 : Int) < (n : Int)) = true := decide_eq_true (by omega)
          have hj24 : j ≤ 24 := by have := HN1.out; omega
          have n4 : IntKind.i64.wrap ((k2 : Int) + 4) = ((k2 + 4 : Nat) : Int) := by rw [IntWalk.i64_in _ (by omega)]; omega
          have HLN := Lib.hid (HM.out _ (O.out.1.mono (by omega)))
          clear hk2
          go_wp2_with fail
          go_loopw [25, 146] (fun x25 x wq => ∃ y v : Nat, y ≤ 4 ∧ v < 2 ^ y ∧ x = .int .i64 y ∧ x25 = .int .i64 v ∧ wq = wr) (fun _ x _ => 4 - (intOf x).toNat)
          case atStart => exact ⟨0, 0, by omega, by decide, rfl, rfl, rfl⟩
          case round =>
            obtain ⟨y, v, hy, hv, rfl, rfl, rfl⟩ := hrel
            by_cases hlt2 : y < 4
            · have d2 : decide ((y : Int) < 4) = true := decide_eq_true (by omega)
              have hv8 : v < 8 := by
                have h2 : 2 ^ y ≤ 2 ^ 3 := Nat.pow_le_pow_right (by decide) (by omega)
                omega
              have n5 : IntKind.i64.wrap ((v : Int) * 2) = (v : Int) * 2 := IntWalk.i64_in _ (by omega)
              have n6 : IntKind.i64.wrap ((k2 : Int) + (y : Int)) = ((k2 + y : Nat) : Int) := by rw [IntWalk.i64_in _ (by omega)]; omega
              have n7 : bits .or .i64 ((v : Int) * 2) 1 = (v : Int) * 2 + 1 := or_one ⟨v, hv8⟩
              have HV := Lib.hid hv
              clear hv c82
              go_wp2_with fail
              refine (at_any w3.heap.size lb (k2 + y) n (by omega) (by omega) top HTP.out _ HLN.out.lin HLN.out.list).mono ?_
              rintro e wq' ⟨rfl, z, rfl, hz⟩
              clear hz
              by_cases hz0 : z = 0
              · subst hz0
                go_wp2_with fail
                exact ⟨⟨y + 1, v * 2, by omega, by have := HV.out; rw [Nat.pow_succ]; omega, by go_num, by go_num, trivial⟩, by simp [intOf]; omega⟩
              · have d3 : (z == 0) = false := beq_eq_false_iff_ne.2 hz0
                clear hz0
                go_wp2_with fail
                exact ⟨⟨y + 1, v * 2 + 1, by omega, by have := HV.out; rw [Nat.pow_succ]; omega, by go_num, by go_num, trivial⟩, by simp [intOf]; omega⟩
            · obtain rfl : y = 4 := by omega
              rw [show ((4 : Nat) : Int) = 4 from rfl]
              have hv16 : v < 16 := by simpa using hv
              obtain ⟨s, hs, hbits⟩ := HCS.out v hv16
              have cc0 : wr.cell? ⟨fb, v, none⟩ = some (.string s) := by rw [cell_of_row wr fb _ ccs _ _ O.out.2]; exact hs
              have cp0 := HLN.out.ptr
              have iv0 : (v : Int) < 16 := by omega
              obtain ⟨a1, hw1, ge1, le1⟩ := O.out.1.ok
              have HW1 := Lib.hid hw1
              have ha1 : a1 ≤ 90000 := by omega
              have HO7 : Hid (∀ w7, Out W base a1 12 wr.drew w7 → Out W base a (14 * i + 16 * j + 12) w5 w7 ∧ w7.heap[fb]? = some (.cells ccs 9 (0, 0))) := Lib.hid (fun w7 ho => outc_step (outc_drew O.out) ge1 le1 HCW.out ho)
              have HS := Lib.hid (And.intro hs hbits)
              clear hw1 ge1 le1 hv hv16 hs hbits hlt2 hy c82
              go_wp2_with fail
              go_region_held3 (fun w' => w'.cell? ⟨w.heap.size, 0, none⟩ = some (.pointer (some ⟨W, 0, none⟩)) ∧ w'.cell? ⟨fb, v, none⟩ = some (.string s)) ((first | exact ⟨cp0, cc0⟩ | exact ⟨p7, s7⟩)) ((first | (go_at_call 46; refine (code_any W base a1 12 s HS.out.2 (by omega) (by omega) _ (HW1.out.below (stpD (stp0 _)))).mono ?_; rintro e w7 ⟨rfl, ho7⟩; have H7 := Lib.hid (HO7.out _ ho7); have s7 : w7.cell? ⟨fb, v, none⟩ = some (.string s) := (by rw [cell_of_row w7 fb _ ccs _ _ H7.out.2]; exact HS.out.1); have p7 := (HM.out _ (H7.out.1.mono (by omega))).ptr; clear ho7)))
              all_goals
                clear s7 p7 cc0 cp0 HO7 HW1 HLN
                go_wp2_with fail
                go_loopw [166] (fun x wq => ∃ y : Nat, y ≤ 4 ∧ x = .int .i64 y ∧ Hid (Out W base a (14 * i + 16 * j + 12 + y) w5 wq ∧ wq.heap[fb]? = some (.cells ccs 9 (0, 0)))) (fun x _ => 4 - (intOf x).toNat)
                case atStart => exact ⟨0, by omega, rfl, H7⟩
                case round =>
                  clear H7
                  obtain ⟨y, hy, rfl, H7⟩ := hrel
                  by_cases hlt2 : y < 4
                  · have d2 : decide ((y : Int) < 4) = true := decide_eq_true (by omega)
                    have n6 : IntKind.i64.wrap ((k2 : Int) + (y : Int)) = ((k2 + y : Nat) : Int) := by rw [IntWalk.i64_in _ (by omega)]; omega
                    have HLN := Lib.hid (HM.out _ (H7.out.1.mono (by omega)))
                    obtain ⟨a2, hw2, ge2, le2⟩ := H7.out.1.ok
                    have HW2' := Lib.hid hw2
                    have ha2 : a2 ≤ 90000 := by omega
                    have HGL := Lib.hid (And.intro ge2 le2)
                    clear hw2 ge2 le2
                    go_wp2_with fail
                    refine (at_any w3.heap.size lb (k2 + y) n (by omega) (by omega) top HTP.out _ HLN.out.lin HLN.out.list).mono ?_
                    rintro e wq' ⟨rfl, z, rfl, z0, z1, z2⟩
                    clear z2
                    go_wp2_with fail
                    refine (sign_any W base a2 w.heap.size z (by omega) (by omega) ha2 _ HW2'.out HLN.out.ptr).mono ?_
                    rintro e w8 ⟨rfl, ho8⟩
                    have H8 := Lib.hid (outc_step H7.out HGL.out.1 HGL.out.2 HCW.out ho8)
                    clear ho8
                    go_wp2_with fail
                    exact ⟨⟨y + 1, by omega, by go_num, H8⟩, by simp [intOf]; omega⟩
                  · obtain rfl : y = 4 := by omega
                    rw [show ((4 : Nat) : Int) = 4 from rfl]
                    go_wp2_with fail
                    have hk2 := HK2.out
                    exact ⟨⟨j + 1, by omega, by rw [show kk + 4 * (j + 1) = k2 + 4 by omega]; rfl, Lib.hid ⟨H7.out.1.mono (by omega), H7.out.2⟩⟩, by simp [intOf]; omega⟩
        · have d1 : decide ((k2 : Int) < (n : Int)) = false := decide_eq_false (by omega)
          clear hk2
          go_wp2_with fail
          exact ⟨rfl, _, results_none rfl _ _, rfl, HF.out _ (O.out.1.mono (by omega))⟩
end Go.Proofs.YtppfldobgemddaaDoor
