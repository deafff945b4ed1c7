/-
  The contract of laws.frameOf: what the frame that it makes tells, by bounds.
-/
import Derived.Test.YtppfldobgemddaaDoorHp
import Derived.Test.YtppfldobgemddaaDoorMq
import Derived.Laws.CopyOwn
import Derived.Laws.Rows
namespace Go.Proofs.YtppfldobgemddaaDoor
open Go.RowKit
set_option linter.unusedVariables false

/-- What a frame holds: the header's numbers, side information by bounds, small factors, and lines that the tables bear. -/
structure FrameOk (N : Nat) (hR : Int) (m : Nat) (Z : Nat → Int) (S : Nat → Int) (L : Nat → Value) (w : World) : Prop where
  main : MainB S
  ok : ∀ g c, g < 2 → c < m → GcOk S g c ∧ ∃ lb, N + 4 < lb ∧ L (g * 2 + c) = .slice (some ⟨lb, 0, none⟩) 576 576 ∧ LinR w lb (topsOf S hR g c) (S (89 + g * 2 + c)).toNat
  zero : ∀ g c, g < 2 → c < 2 → m ≤ c → GcZero S g c
  early : ∀ j, j < 9 → S j = Z j
  sc : ∀ j, 9 ≤ j → j < 9 + m * 4 → S j = 0 ∨ S j = 1
  none : ∀ j, 9 + m * 4 ≤ j → j < 21 → S j = 0
  lin : ∀ j, j < 4 → ∃ a n c, L j = .slice a n c
/-- A frame's 341 cells. -/
structure FrameCells (S : Nat → Int) (L : Nat → Value) (cs : Array Value) : Prop where
  size : cs.size = 341
  num : ∀ j, j < 337 → cs[j]? = some (.int .i64 (S j))
  lin : ∀ j, j < 4 → cs[337 + j]? = some (L j)
theorem FrameCells.one {S : Nat → Int} {L : Nat → Value} {cs : Array Value} (h : FrameCells S L cs) (hl : ∀ j, j < 4 → ∃ a n c, L j = .slice a n c) : cs.all (·.oneCell') = true := by
  refine Array.all_eq_true_iff_forall_mem.2 fun v hv => ?_
  obtain ⟨i, hi, rfl⟩ := Array.getElem_of_mem hv
  have e : cs[i]? = some cs[i] := Array.getElem?_eq_getElem hi
  rw [h.size] at hi
  by_cases h3 : i < 337
  · rw [h.num i h3] at e; rw [← Option.some.inj e]; rfl
  · obtain ⟨a, n, c, q⟩ := hl (i - 337) (by omega)
    have := h.lin (i - 337) (by omega)
    rw [show 337 + (i - 337) = i by omega, e] at this
    rw [Option.some.inj this, q]; rfl
theorem start_fm (w : World) (hB hR hP hM hJ hV hK : Int) (va : Option Addr) (vl vc : Nat) (hv : vl = 0 ∨ ∃ vb vo, va = some ⟨vb, vo, none⟩ ∧ vb < w.heap.size ∧ ∀ j, j < vl → ∃ z : Int, -128 ≤ z ∧ z ≤ 127 ∧ w.cell? ⟨vb, vo + j, none⟩ = some (.int .i8 z)) :
    FM ⟨w, 0, w⟩ w.heap.size #[.int .i64 hB, .int .i64 hR, .int .i64 hP, .int .i64 hM, .int .i64 hJ, .int .i64 hV, .int .i64 hK] va vl vc 0 (S0 hB hR hP hM hJ hV hK) (fun _ => .slice none 0 0)
      (((((w.alloc (.cells #[.int .i64 hB, .int .i64 hR, .int .i64 hP, .int .i64 hM, .int .i64 hJ, .int .i64 hV, .int .i64 hK] 30)).alloc (.cells #[.slice va vl vc] 37)).alloc (.cells Z341 60)).alloc (.cells (F341 hB hR hP hM hJ hV hK) 60)).alloc (.cells #[.int .i64 0] 3)) := by
  refine ⟨stpA (stpA (stpA (stpA (stpA (stp0 w) _) _) _) _) _, by simp, Nat.zero_le _, fun b _ hb => absurd hb (Nat.not_lt_zero b), ?_, ?_, ?_, ?_, ?_, hv⟩
  · rw [heap_alloc_old _ _ (by simp <;> omega), heap_alloc_old _ _ (by simp <;> omega), heap_alloc_old _ _ (by simp <;> omega), heap_alloc_old _ _ (by simp), heap_alloc_new]
  · rw [heap_alloc_old _ _ (by simp <;> omega), heap_alloc_old _ _ (by simp <;> omega), heap_alloc_old _ _ (by simp)]
    exact heap_alloc2_new _ _ _
  · refine ⟨Z341, ?_, by kernel_rfl⟩
    rw [heap_alloc_old _ _ (by simp <;> omega), heap_alloc_old _ _ (by simp)]
    have := heap_alloc_new ((w.alloc (.cells #[.int .i64 hB, .int .i64 hR, .int .i64 hP, .int .i64 hM, .int .i64 hJ, .int .i64 hV, .int .i64 hK] 30)).alloc (.cells #[.slice va vl vc] 37)) (.cells Z341 60)
    rw [← this]; congr 1; simp
  · refine ⟨F341 hB hR hP hM hJ hV hK, ?_, F341_size _ _ _ _ _ _ _, fun j hj => F341_num _ _ _ _ _ _ _ j hj, fun j hj => F341_lin _ _ _ _ _ _ _ j hj⟩
    rw [heap_alloc_old _ _ (by simp)]
    have := heap_alloc_new (((w.alloc (.cells #[.int .i64 hB, .int .i64 hR, .int .i64 hP, .int .i64 hM, .int .i64 hJ, .int .i64 hV, .int .i64 hK] 30)).alloc (.cells #[.slice va vl vc] 37)).alloc (.cells Z341 60)) (.cells (F341 hB hR hP hM hJ hV hK) 60)
    rw [← this]; congr 1; simp
  · have := heap_alloc_new ((((w.alloc (.cells #[.int .i64 hB, .int .i64 hR, .int .i64 hP, .int .i64 hM, .int .i64 hJ, .int .i64 hV, .int .i64 hK] 30)).alloc (.cells #[.slice va vl vc] 37)).alloc (.cells Z341 60)).alloc (.cells (F341 hB hR hP hM hJ hV hK) 60)) (.cells #[.int .i64 0] 3)
    rw [show ((0 : Nat) : Int) = 0 from rfl, ← this]; congr 1; simp
theorem S0_zero (hB hR hP hM hJ hV hK : Int) (j : Nat) (h : 7 ≤ j) : S0 hB hR hP hM hJ hV hK j = 0 := by
  unfold S0; simp only [show j ≠ 0 by omega, show j ≠ 1 by omega, show j ≠ 2 by omega, show j ≠ 3 by omega, show j ≠ 4 by omega, show j ≠ 5 by omega, show j ≠ 6 by omega, if_false]
set_option maxRecDepth 1000000 in
set_option maxHeartbeats 4000000 in
theorem end_any {N : Nat} {na : Option Addr} {nl nc : Nat} {x12 x13 x14 x15 x18 x19 x25 x26 x27 x40 x41 x44 x45 x46 : Value} (a : Act) (w : World) (hf : Fr N na nl nc x12 x13 x14 x15 x18 x19 x25 x26 x27 x40 x41 x44 x45 x46 a) (cs old : Array Value) (hcs : w.heap[N + 3]? = some (.cells cs 60 (0, 0))) (hold : w.heap[N + 2]? = some (.cells old 60 (0, 0))) (hs : cs.size = 341) (hs' : old.size = 341) (h1 : cs.all (·.oneCell') = true) (R : Ending → World → Prop)
    (hR : R (.returned (.agg cs)) (w.setRow (N + 2) cs)) : Code.wp Tryd.prog (.seq (nthS 7 frBody) .ret) (bodyPost Tryd.prog Tryd.f12 R) a w := by
  obtain ⟨f, rfl, he⟩ := hf.opened
  obtain ⟨e1, e3, e6, e7, e9, he'⟩ := he
  unfold mkA
  rw [e6, e7]
  clear he' e1 e3 e6 e7 e9 hf
  refine wp_seq_k fun K hK => ?_
  conv => arg 2; whnf
  have hi : (Tryd.prog.info? 60).map (·.size) = some cs.size := by rw [hs]; kernel_rfl
  have HC := Lib.hid hcs
  have HO := Lib.hid hold
  have HI := Lib.hid hi
  have HR := Lib.hid hR
  clear hcs hold hi hR
  go_wp2_with (first | (refine wpList_load_row rfl 60 (.tmp 7) rfl (N + 3) rfl 60 cs (0, 0) _ HC.out Tryd.underlying60 rfl HI.out ?_) | (refine wpList_store_rowTo rfl 60 (.tmp 6) (.tmp 630) rfl rfl (N + 2) cs rfl rfl 60 old HO.out HI.out (by rw [hs, hs']) h1 ?_))
  refine ⟨rfl, _, results_cell_row rfl _ _ (N + 2) 60 cs (0, 0) _ rfl (setRow_heap w (N + 2) old cs 60 (0, 0) HO.out) Tryd.underlying60 rfl HI.out, HR.out⟩
theorem frameOf_any (hB hR hP hM hJ hV hK : Int) (r0 : 0 ≤ hR) (r1 : hR ≤ 2) (na : Option Addr) (nl nc : Nat) (va : Option Addr) (vl vc : Nat) (m : Nat) (hm : chans hM = m) (m1 : 1 ≤ m) (m2 : m ≤ 2) (hvl : vl ≤ 1000) (w : World)
    (hn : nl = 0 ∨ ∃ nb no, na = some ⟨nb, no, none⟩ ∧ nb < w.heap.size ∧ ∀ j, j < nl → ∃ z : Int, 0 ≤ z ∧ z ≤ 4294967295 ∧ w.cell? ⟨nb, no + j, none⟩ = some (.int .u32 z))
    (hv : vl = 0 ∨ ∃ vb vo, va = some ⟨vb, vo, none⟩ ∧ vb < w.heap.size ∧ ∀ j, j < vl → ∃ z : Int, -128 ≤ z ∧ z ≤ 127 ∧ w.cell? ⟨vb, vo + j, none⟩ = some (.int .i8 z)) :
    Calls Tryd.prog 12 #[.agg #[.int .i64 hB, .int .i64 hR, .int .i64 hP, .int .i64 hM, .int .i64 hJ, .int .i64 hV, .int .i64 hK], .slice na nl nc, .slice va vl vc] w
      fun e w' => ∃ cs S L, e = .returned (.agg cs) ∧ FrameCells S L cs ∧ FrameOk w.heap.size hR m (S0 hB hR hP hM hJ hV hK) S L w' ∧ Below w.heap.size w w' := by
  refine start_any hB hR hP hM hJ hV hK na nl nc va vl vc w _ ?_
  intro a hf
  have G : Given w w.heap.size #[.int .i64 hB, .int .i64 hR, .int .i64 hP, .int .i64 hM, .int .i64 hJ, .int .i64 hV, .int .i64 hK] vl na nl hB hR hP hM hJ hV hK m := ⟨r0, r1, rfl, hn, hvl, hm, m1, m2⟩
  have h0 := start_fm w hB hR hP hM hJ hV hK va vl vc hv
  have fs : FS w w.heap.size #[.int .i64 hB, .int .i64 hR, .int .i64 hP, .int .i64 hM, .int .i64 hJ, .int .i64 hV, .int .i64 hK] va vl vc hR (S0 hB hR hP hM hJ hV hK) (dn 0 0 m) 0 (S0 hB hR hP hM hJ hV hK) (fun _ => .slice none 0 0) _ :=
    ⟨h0, fun j j0 j1 => by rw [S0_zero _ _ _ _ _ _ _ j (by omega)]; decide, fun g c hg hc hd => by unfold dn at hd; omega, fun g c hg hc hd j hj ho => S0_zero _ _ _ _ _ _ _ j (by unfold Off at ho; omega), fun j hj => rfl, fun j hj => ⟨_, _, _, rfl⟩⟩
  refine wp_seq ?_
  refine outer_all G a _ hf fs (by omega) _ ?_
  intro y12 y13 y14 y15 y18 y19 y25 y26 y27 y40 y41 y44 y45 y46 t1 S1 L1 a1 w1 hf1 fs1 ht1
  have sc0 : ScR S1 S1 m := ⟨fs1.main, fun _ _ _ => rfl, fun j j0 j1 => .inl (by rw [fs1.early j (by omega), S0_zero _ _ _ _ _ _ _ j (by omega)])⟩
  refine wp_seq ?_
  refine hrSw na nl nc 0 0 0 (by decide) (by decide) hB hR hP hM hJ hV hK rfl m hm m2 (by omega) hvl sc0 a1 w1 hf1 fs1.fm.fresh _ ?_
  intro S2 t2 a2 w2 hf2
  rintro ⟨h2, sc2, ht2⟩
  obtain ⟨old, hold, hold2⟩ := h2.res
  obtain ⟨cs, hcs, hcs2, hnum, hlin⟩ := h2.frame
  have fc : FrameCells S2 L1 cs := ⟨hcs2, hnum, hlin⟩
  refine end_any a2 w2 hf2 cs old hcs hold hcs2 hold2 (fc.one fs1.lin) _ ?_
  refine ⟨cs, S2, L1, rfl, fc, ?_, below_setRow h2.below (by omega) _⟩
  have es : ∀ g c, g < 2 → c < 2 → ∀ j, ¬ Off j g c → j < 93 → S2 j = S1 j := fun g c hg hc j hj hlt => sc2.2.1 j hlt (by unfold Off at hj; omega)
  refine ⟨sc2.1, fun g c hg hc => ?_, fun g c hg hc hmc => ?_, fun j hj => ?_, sc2.2.2, fun j j0 j1 => ?_, fs1.lin⟩
  · obtain ⟨k, lb, b1, b2, b3⟩ := fs1.ok g c hg (by omega) (by unfold dn; omega)
    refine ⟨k.same hg (by omega) (es g c hg (by omega)), lb, b1, b2, ?_⟩
    rw [topsOf_same' hg (by omega) (es g c hg (by omega)), es g c hg (by omega) (89 + g * 2 + c) (by unfold Off; omega) (by omega)]
    exact b3.same ((setRow_other w2 _ lb cs (by omega)).trans (h2.keep lb b1 (lin_lt b3)))
  · intro j hj ho
    rw [es g c hg hc j ho hj]
    exact fs1.zero g c hg hc (by unfold dn; omega) j hj ho
  · rw [sc2.2.1 j (by omega) (by omega)]; exact fs1.early j (by omega)
  · rw [sc2.2.1 j (by omega) (by omega), fs1.early j (by omega)]
    exact S0_zero _ _ _ _ _ _ _ j (by omega)
end Go.Proofs.YtppfldobgemddaaDoor
