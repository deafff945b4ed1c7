/-
  The steps of the last region of laws.FnSideInfo; The walk of laws.FnSideInfo; laws.FnSideInfo: for all inputs.
-/
import Derived.Test.YtppfldobgemddaaDoorMr
import Derived.Test.YtppfldobgemddaaDoorYb1
import Derived.Test.YtppfldobgemddaaDoorYb2
import Derived.Test.YtppfldobgemddaaDoorZe
import Derived.Deep.AppendLies
import Derived.Laws.OwnMore
import Derived.Deep.RegionHeld3
import Derived.Test.YtppfldobgemddaaDoorMc
namespace Go.Proofs.YtppfldobgemddaaDoor
open Go.RowKit
set_option linter.unusedVariables false

/-- append of what came in, nil or not, at a step of a region that draws its order. -/
theorem step_append_data {P : Program} {w : World} {ops : Array Oper} {o : Oper} {a : Act} {K : Act → World → Prop} {Q : Exit → Act → World → Prop} {E : Prop}
    (hgd : o.guard = none) (s x : Operand) (t : TypeId) (hop : o.op = .call { callee := .builtin .append, args := #[s, x], argTypes := #[t, t] })
    (base : Nat) (e : TypeId) (i : TypeInfo) (z : Value) (bytes : Nat) (h1 : P.underlying t = some (.slice e)) (h2 : P.info? e = some i) (h3 : i.zero = some z) (h4 : i.size = 1) (h5 : i.bytes = bytes) (h6 : z.cells.size = 1)
    (v : Value) (k : Nat) (xs : List Value) (hs : a.eval s = v) (hown : w.ownsRow base e 1 v k xs)
    (ao : Option Addr) (m c : Nat) (news : List Value) (hx : a.eval x = .slice ao m c) (hn : news.length = m * 1) (hd : (ao = none ∧ m = 0 ∧ c = 0) ∨ ∃ ad, ao = some ad ∧ ∀ j u, news[j]? = some u → w.cell? (ad.add j) = some u) (h1c : ∀ u ∈ news, u.oneCell' = true)
    (b1 : k + m ≤ maxLen) (b2 : (k + m) * bytes ≤ 140737488355328) (hbase : base ≤ w.heap.size)
    (h : ∀ v' w', w'.ownsRow base e 1 v' (k + m) (xs ++ news) → w.grownBy w' v.ownBlock → K (a.put o.dst v') w') :
    if Region.wanted o (yielded ops a.tmps) = true then Oper.wp P o a w K Q else E := by
  have hw : Region.wanted o (yielded ops a.tmps) = true := by simp [Region.wanted, hgd]
  rw [if_pos hw]
  have key : ∃ v' w', (Builtin.append_ #[t, t] o.type #[v, .slice ao m c]).run P w = .ok v' w' ∧ w'.ownsRow base e 1 v' (k + m) (xs ++ news) ∧ w.grownBy w' v.ownBlock := by
    rcases hd with ⟨rfl, rfl, rfl⟩ | ⟨ad, rfl, hc⟩
    · have hn0 : news = [] := List.eq_nil_of_length_eq_zero (by simpa using hn)
      subst hn0
      exact ⟨v, w, run_append_owned_none (P := P) w base t o.type e i 1 h1 h2 v k xs hown, by simpa using hown, ⟨rfl, rfl, rfl, Nat.le_refl _, fun _ _ _ => rfl⟩⟩
    · obtain ⟨v', w', r1, r2, r3, _⟩ := run_append_own (P := P) w base t o.type e i z 1 bytes h1 h2 h3 h4 h5 h6 (by decide) v k xs hown ad m c news hn hc h1c b1 b2 hbase
      exact ⟨v', w', r1, r2, r3⟩
  obtain ⟨v', w', hr, r2, r3⟩ := key
  unfold Oper.wp execOp
  simp only [hop, resolve, invoke, builtin, Sem.run_bind, Sem.run_pure, Result.andThen_ok, List.map_toArray, List.map_cons, List.map_nil, hs, hx, hr]
  exact h v' w' r2 r3
/-- Bytes in a block. -/
structure Hld (g k : Nat) (D : List Int) (w : World) : Prop where
  lt : g < w.heap.size
  cell : ∀ j, j < k → w.cell? ⟨g, j, none⟩ = some (.int .u8 (D.getD j 0))
theorem Hld.below {g k : Nat} {D : List Int} {w w' : World} (h : Hld g k D w) (hb : Below w.heap.size w w') : Hld g k D w' :=
  ⟨Nat.lt_of_lt_of_le h.lt hb.size, fun j hj => (hb.cell (p := ⟨g, j, none⟩) h.lt).trans (h.cell j hj)⟩
theorem Hld.alloc {g k : Nat} {D : List Int} {w : World} (h : Hld g k D w) (o : Obj) : Hld g k D (w.alloc o) := h.below (stpA (stp0 w) o)
theorem hld_of {w : World} {base n g c : Nat} {zs : List Int} (h : w.ownsRow base 5 1 (.slice (some ⟨g, 0, none⟩) n c) n (zs.map (Value.int .u8))) : Hld g n zs w :=
  ⟨(h.lt g rfl).2, fun j hj => by have := ownedBytes h j hj; rw [Nat.zero_add] at this; exact this⟩
/-- The block of zeros that is stored to. -/
def RowA (N A : Nat) (w : World) : Prop := w.heap[A]? = some (.cells (numL 86 (fun _ => 0)).toArray 47 (0, 0)) ∧ N ≤ A
theorem RowA.keep {N A : Nat} {w w' : World} (h : RowA N A w) (hb : Below w.heap.size w w') : RowA N A w' := ⟨(hb.block A (lt_of_heap h.1)).trans h.1, h.2⟩
theorem RowA.new {N : Nat} {w w' : World} (hN : N ≤ w.heap.size) (hb : Below (w.alloc (.cells (numL 86 (fun _ => 0)).toArray 47)).heap.size (w.alloc (.cells (numL 86 (fun _ => 0)).toArray 47)) w') : RowA N w.heap.size w' :=
  ⟨(hb.block _ (by simp)).trans (heap_alloc_last _ _), hN⟩
theorem RowA.grew {N A B : Nat} {w w' : World} {v : Value} {n : Nat} {xs : List Value} (h : RowA N A w) (ho : w.ownsRow B 5 1 v n xs) (hg : w.grownBy w' v.ownBlock) : RowA N A w' :=
  ⟨(hg.block A (lt_of_heap h.1) (fun e => by
    obtain ⟨cur, fz, q⟩ := own5 ho A e.symm
    rw [h.1] at q; injection q with q; injection q with _ q; exact absurd q (by decide))).trans h.1, h.2⟩
theorem RowA.here {N : Nat} (w : World) (hN : N ≤ w.heap.size) : RowA N w.heap.size (w.alloc (.cells (numL 86 (fun _ => 0)).toArray 47)) := ⟨heap_alloc_last _ _, hN⟩
theorem fMode_hW (n : Int) : fMode (hW n) = hM n := by
  have := hB_bd n; have := hR_bd n; have := hP_bd n; have := hM_bd n; have := hJ_bd n; have := hV_bd n; have := hK_bd n
  unfold fMode hW wordOf; omega
theorem fProt_hW (n : Int) : fProt (hW n) = 1 := by
  have := hB_bd n; have := hR_bd n; have := hP_bd n; have := hM_bd n; have := hJ_bd n; have := hV_bd n; have := hK_bd n
  unfold fProt hW wordOf; omega
/-- The writer of side information, as the law needs it. -/
theorem side_step (n : Int) (m : Nat) (hm : chans (hM n) = m) (S2 : Nat → Int) (fit : ∀ g c, g < 2 → c < m → GcFit S2 g c) (shape : ∀ g c, g < 2 → c < m → GcShape S2 g c) (s0 : 0 ≤ S2 0 ∧ S2 0 < 512) (s1 : 0 ≤ S2 1 ∧ S2 1 < 8) (sc : ∀ j, 2 ≤ j → j < 10 → 0 ≤ S2 j ∧ S2 j < 2)
    (gone : ∀ j, 2 ≤ j → j < 82 → (∀ c k, c < m → k < 4 → j ≠ 2 + c * 4 + k) → (∀ g c, g < 2 → c < m → ¬ GcCell g c j) → S2 j = 0) (w6 wq : World) (hq : Below w6.heap.size w6 wq) :
    Calls Tryd.prog 15 #[.agg #[.int .i64 (hB n), .int .i64 (hR n), .int .i64 (hP n), .int .i64 (hM n), .int .i64 (hJ n), .int .i64 (hV n), .int .i64 (hK n)], .agg (numL 86 S2).toArray] wq
      fun e w' => ∃ L a cap, e = .returned (.slice a L.length cap) ∧ w'.ownsRow w6.heap.size 5 1 (.slice a L.length cap) L.length (L.map (Value.int .u8)) ∧ SideIn (hW n) m S2 L ∧ Below w6.heap.size w6 w' ∧ Below wq.heap.size wq w' := by
  have ht := hW_top n
  have hb := hW_bd n
  have hr := hR_bd n
  have hmm : (m = 1 ∧ hM n = 3) ∨ (m = 2 ∧ ¬ hM n = 3) := by
    rw [← hm]; unfold chans
    by_cases q : hM n = 3
    · rw [if_pos q]; exact .inl ⟨rfl, q⟩
    · rw [if_neg q]; exact .inr ⟨rfl, q⟩
  have fin : ∀ (L : List Int), Packed L (preN m + 118 * m) → SideSaid L S2 m → SideIn (hW n) m S2 L := fun L hp hs => by
    have hl := hp.len
    refine ⟨hb.1, hb.2, fID_hW n, ht.2.1, by rw [fSF_hW]; exact hr.2, fProt_hW n, ?_, ⟨hp.bd, ?_⟩, hs, fit, shape, s0, s1, sc, gone⟩
    · rw [fMode_hW]
      rcases hmm with ⟨rfl, q⟩ | ⟨rfl, q⟩
      · exact .inl ⟨rfl, q, hl⟩
      · exact .inr ⟨rfl, q, hl⟩
    · rcases hmm with ⟨rfl, q⟩ | ⟨rfl, q⟩ <;> (rw [hl]; decide)
  rcases hmm with ⟨rfl, q⟩ | ⟨rfl, q⟩
  · refine (sideBytes_1 _ _ _ _ _ _ _ S2 hm s0 s1 sc fit wq).mono ?_
    rintro e w' ⟨L, a, cap, rfl, ho, hp, hs, hb⟩
    exact ⟨L, a, cap, rfl, owns_lower ho hq.size, fin L hp hs, stp hq hb, hb⟩
  · refine (sideBytes_2 _ _ _ _ _ _ _ S2 hm s0 s1 sc fit wq).mono ?_
    rintro e w' ⟨L, a, cap, rfl, ho, hp, hs, hb⟩
    exact ⟨L, a, cap, rfl, owns_lower ho hq.size, fin L hp hs, stp hq hb, hb⟩
theorem SideIn.small {x : Int} {n : Nat} {S : Nat → Int} {L : List Int} (h : SideIn x n S L) : 17 ≤ L.length ∧ L.length ≤ 32 := by
  rcases h.hm with ⟨_, _, q⟩ | ⟨_, _, q⟩ <;> omega
theorem bigLd30 (v : Value) : Instr.loadAt 30 v = bigLd 30 v := rfl
end Go.Proofs.YtppfldobgemddaaDoor
namespace Go.Proofs.YtppfldobgemddaaDoor
open Go.RowKit
set_option linter.unusedVariables false

theorem S0_seven (a b c d e f g : Int) : ∀ j, 7 ≤ j → S0 a b c d e f g j = 0 := fun j hj => S0_zero _ _ _ _ _ _ _ j hj
/-- A frame's row, cut in three. -/
theorem frame_head {S : Nat → Int} {Lv : Nat → Value} {cs : Array Value} {w : World} {F : Nat} (h : FrameCells S Lv cs) (hr : w.heap[F]? = some (.cells cs 60 (0, 0))) {a b c d e f g : Int} (hs : ∀ j, j < 7 → S j = S0 a b c d e f g j) :
    w.rangeAt F 0 [.int .i64 a, .int .i64 b, .int .i64 c, .int .i64 d, .int .i64 e, .int .i64 f, .int .i64 g] := by
  intro j v hv
  have hj : j < 7 := by
    have := (List.getElem?_eq_some_iff.1 hv).1; simpa using this
  rw [Nat.zero_add, cell_of_row w F j _ _ _ hr, h.num j (by omega), hs j hj]
  have : j = 0 ∨ j = 1 ∨ j = 2 ∨ j = 3 ∨ j = 4 ∨ j = 5 ∨ j = 6 := by omega
  rcases this with rfl | rfl | rfl | rfl | rfl | rfl | rfl <;> exact hv
theorem frame_side {S : Nat → Int} {Lv : Nat → Value} {cs : Array Value} {w : World} {F : Nat} (h : FrameCells S Lv cs) (hr : w.heap[F]? = some (.cells cs 60 (0, 0))) : w.rangeAt F 7 (numL 86 (sideOf S)) :=
  numL_range fun j hj => by rw [cell_of_row w F _ _ _ _ hr, h.num (7 + j) (by omega)]; rfl
def mainL (S : Nat → Int) (Lv : Nat → Value) : List Value := numL 244 (fun i => S (93 + i)) ++ [Lv 0, Lv 1, Lv 2, Lv 3]
theorem mainL_len (S : Nat → Int) (Lv : Nat → Value) : (mainL S Lv).length = 248 := by unfold mainL; rw [List.length_append, numL_len]; rfl
theorem mainL_num (S : Nat → Int) (Lv : Nat → Value) (j : Nat) (hj : j < 244) : (mainL S Lv)[j]? = some (.int .i64 (S (93 + j))) := by
  unfold mainL; rw [List.getElem?_append_left (by rw [numL_len]; exact hj)]; exact numL_at 244 _ j hj
theorem mainL_lin (S : Nat → Int) (Lv : Nat → Value) (j : Nat) (hj : j < 4) : (mainL S Lv)[244 + j]? = some (Lv j) := by
  unfold mainL; rw [List.getElem?_append_right (by rw [numL_len]; omega), numL_len, show 244 + j - 244 = j by omega]
  have : j = 0 ∨ j = 1 ∨ j = 2 ∨ j = 3 := by omega
  rcases this with rfl | rfl | rfl | rfl <;> rfl
theorem frame_mainL {S : Nat → Int} {Lv : Nat → Value} {cs : Array Value} {w : World} {F : Nat} (h : FrameCells S Lv cs) (hr : w.heap[F]? = some (.cells cs 60 (0, 0))) : w.rangeAt F 93 (mainL S Lv) := by
  intro j v hv
  have hj : j < 248 := by have := (List.getElem?_eq_some_iff.1 hv).1; rw [mainL_len] at this; exact this
  rw [cell_of_row w F _ _ _ _ hr]
  by_cases q : j < 244
  · rw [h.num (93 + j) (by omega), ← mainL_num S Lv j q]; exact hv
  · obtain ⟨i, rfl⟩ : ∃ i, j = 244 + i := ⟨j - 244, by omega⟩
    rw [show 93 + (244 + i) = 337 + i by omega, h.lin i (by omega), ← mainL_lin S Lv i (by omega)]; exact hv
theorem ld_row {w : World} {b : Nat} {T : Nat → Int} (h : w.heap[b]? = some (.cells (numL 86 T).toArray 47 (0, 0))) : Sem.run Tryd.prog (bigLd 47 (.pointer (some ⟨b, 0, none⟩))) w = .ok (.agg (numL 86 T).toArray) w :=
  run_loadAt_mid w b 0 47 _ _ (fun j v hv => by rw [Nat.zero_add, cell_of_row w _ j _ _ _ h, List.getElem?_toArray]; exact hv) Tryd.underlying47 rfl (by rw [numL_len]; kernel_rfl)
attribute [local go_sem ↓] bigLd30 bigLd47 bigSt47
set_option maxRecDepth 1000000 in
set_option maxHeartbeats 16000000 in
theorem fnSide_main (n : Int) (h0 : 0 ≤ n) (h1 : n ≤ 4294967295) (na : Option Addr) (nl nc : Nat) (va : Option Addr) (vl vc : Nat) (a3 : Option Addr) (cap3 : Nat) (C : List Int) (hC : ∀ j, 0 ≤ C.getD j 0 ∧ C.getD j 0 ≤ 255) (hl3 : C.length ≤ 100) (hnl : nl ≤ 100) (hvl : vl ≤ 1000) (w : World)
    (hn : nl = 0 ∨ ∃ nb no, na = some ⟨nb, no, none⟩ ∧ nb < w.heap.size ∧ ∀ j, j < nl → ∃ z : Int, 0 ≤ z ∧ z ≤ 4294967295 ∧ w.cell? ⟨nb, no + j, none⟩ = some (.int .u32 z))
    (hv : vl = 0 ∨ ∃ vb vo, va = some ⟨vb, vo, none⟩ ∧ vb < w.heap.size ∧ ∀ j, j < vl → ∃ z : Int, -128 ≤ z ∧ z ≤ 127 ∧ w.cell? ⟨vb, vo + j, none⟩ = some (.int .i8 z))
    (hd3 : DataIn w a3 C cap3) (tab : BitsTab w) :
    Calls Tryd.prog 5 #[.int .u32 n, .slice na nl nc, .slice va vl vc, .slice a3 C.length cap3] w fun e w' => e = .returned (.bool true) ∧ Below w.heap.size w w' := by
  have hz60 := (zero_of_info zero60).1
  have hz47 := (zero_of_info zero47').1
  have HNN := Lib.hid hn
  have HVV := Lib.hid hv
  have HD3 := Lib.hid hd3
  have HT := Lib.hid tab
  have HC := Lib.hid hC
  have hZ2 : 2 < w.heap.size := block_lt_of_cell tab.b0
  clear hn hv hd3 tab hC
  have l1 : ¬ (2147483647 < (nl : Int)) := by omega
  have l2 : ¬ (2147483647 < (vl : Int)) := by omega
  have l3 : ¬ (2147483647 < (C.length : Int)) := by omega
  have l4 : ¬ (100 < (C.length : Int)) := by omega
  go_enter Tryd.func5, Tryd.ntmps5
  go_wp2_with (go_at_call 11; refine (few_any na va nl vl nc vc _).mono ?_; rintro e w' ⟨rfl, rfl⟩; rw [decide_eq_true (show nl ≤ 100 ∧ vl ≤ 1000 from ⟨hnl, hvl⟩)])
  refine (headOf_any n h0 h1 _).mono ?_
  rintro e w1 ⟨rfl, hb1⟩
  have HB1 := Lib.hid hb1
  have hR0 := hR_bd n
  obtain ⟨m, hm⟩ : ∃ m, chans (hM n) = m := ⟨_, rfl⟩
  have hm12 : m = 1 ∨ m = 2 := by rw [← hm]; unfold chans; split; exact .inl rfl; exact .inr rfl
  have HM := Lib.hid hm
  clear hb1 hm l1 l2 l3
  go_wp2_with fail
  refine (frameOf_any (hB n) (hR n) (hP n) (hM n) (hJ n) (hV n) (hK n) hR0.1 hR0.2 na nl nc va vl vc m HM.out (by omega) (by omega) hvl w1 (HNN.out.imp id fun ⟨nb, no, q1, q2, q3⟩ => ⟨nb, no, q1, Nat.lt_of_lt_of_le q2 HB1.out.size, fun j hj => by
    obtain ⟨z, z0, z1, z2⟩ := q3 j hj
    exact ⟨z, z0, z1, by rw [HB1.out.cell (p := ⟨nb, no + j, none⟩) q2]; exact z2⟩⟩) (HVV.out.imp id fun ⟨nb, no, q1, q2, q3⟩ => ⟨nb, no, q1, Nat.lt_of_lt_of_le q2 HB1.out.size, fun j hj => by
    obtain ⟨z, z0, z1, z2⟩ := q3 j hj
    exact ⟨z, z0, z1, by rw [HB1.out.cell (p := ⟨nb, no + j, none⟩) q2]; exact z2⟩⟩)).mono ?_
  rintro e w2 ⟨cs, S, Lv, rfl, hcells, hok, hb2⟩
  have HB2 := Lib.hid (stp HB1.out hb2)
  have HCE := Lib.hid hcells
  have HOK := Lib.hid hok
  have HO60 : Hid ((w2.alloc (.cells Z341 60)).heap[w2.heap.size]? = some (.cells Z341 60 (0, 0))) := Lib.hid (heap_alloc_last _ _)
  have HI60 : Hid ((Tryd.prog.info? 60).map (·.size) = some cs.size) := Lib.hid (by rw [hcells.size]; kernel_rfl)
  obtain ⟨w3, hw3⟩ : ∃ w3, w3 = (w2.alloc (.cells Z341 60)).setRow w2.heap.size cs := ⟨_, rfl⟩
  have HW3 := Lib.hid hw3
  have hr3 : w3.heap[w2.heap.size]? = some (.cells cs 60 (0, 0)) := by rw [hw3]; exact setRow_heap _ _ _ _ 60 (0, 0) (heap_alloc_last _ _)
  have hb3 : Below w2.heap.size w2 w3 := by rw [hw3]; exact below_setRow (stpA (stp0 w2) _) (Nat.le_refl _) _
  have HR3 := Lib.hid hr3
  have HB3 := Lib.hid hb3
  have HRH := Lib.hid (frame_head hcells hr3 (a := hB n) (b := hR n) (c := hP n) (d := hM n) (e := hJ n) (f := hV n) (g := hK n) (fun j hj => hok.early j (by omega)))
  have HRS := Lib.hid (frame_side hcells hr3)
  have HRM := Lib.hid (frame_mainL hcells hr3)
  clear hb2 hcells hok hw3 hr3 hb3
  go_wp2_with (first
    | (refine wpList_store_rowTo rfl 60 (.tmp 9) (.tmp 40) rfl rfl w2.heap.size cs rfl rfl 60 _ HO60.out HI60.out (by rw [HCE.out.size]; decide) (HCE.out.one HOK.out.lin) ?_; rw [← HW3.out])
    | (refine wpList_load_mid rfl 30 (.tmp 42) rfl w2.heap.size 0 rfl _ _ HRH.out Tryd.underlying30 rfl (by kernel_rfl) ?_)
    | (refine wpList_load_mid rfl 47 (.tmp 44) rfl w2.heap.size 7 rfl _ _ HRS.out Tryd.underlying47 rfl (by rw [numL_len]; kernel_rfl) ?_)
    | (refine wpList_load_mid rfl 58 (.tmp 46) rfl w2.heap.size 93 rfl _ _ HRM.out Tryd.underlying58 rfl (by rw [mainL_len]; kernel_rfl) ?_))
  refine (mainBytes_any (hB n) (hR n) (hP n) (hM n) (hJ n) (hV n) (hK n) (sideOf S) (fun i => S (93 + i)) (mainL S Lv).toArray m HM.out (by omega) (by omega) hR0.1 hR0.2 (by rw [List.size_toArray, mainL_len]) (fun j hj => by rw [List.getElem?_toArray]; exact mainL_num S Lv j hj) (fun j hj => HOK.out.main (93 + j) (by omega) (by omega)) w3
    (frame_main HOK.out (by omega) HB3.out _ (fun j hj => by rw [List.getElem?_toArray]; exact mainL_lin S Lv j hj)) (fun g c hg hc => by
      rw [sideOf_at S (show 17 + g * 2 + c = 7 + (10 + g * 2 + c) by omega), HOK.out.none _ (by omega) (by omega)]; decide)).mono ?_
  rintro e w4 ⟨S1, b1, k1, c1, rfl, hsame, hlen, hb4⟩
  have HB4 := Lib.hid hb4
  have HSL := Lib.hid (And.intro hsame hlen)
  clear hsame hlen hb4
  have HI47 : Hid (∀ S, (Tryd.prog.info? 47).map (·.size) = some (numL 86 S).toArray.size) := Lib.hid (fun S => by rw [List.size_toArray, numL_len]; kernel_rfl)
  have HO47 : Hid ((w4.alloc (.cells (numL 86 (fun _ => 0)).toArray 47)).heap[w4.heap.size]? = some (.cells (numL 86 (fun _ => 0)).toArray 47 (0, 0))) := Lib.hid (heap_alloc_last _ _)
  obtain ⟨w5, hw5⟩ : ∃ w5, w5 = (w4.alloc (.cells (numL 86 (fun _ => 0)).toArray 47)).setRow w4.heap.size (numL 86 S1).toArray := ⟨_, rfl⟩
  have HW5 := Lib.hid hw5
  have hr5 : w5.heap[w4.heap.size]? = some (.cells (numL 86 S1).toArray 47 (0, 0)) := by rw [hw5]; exact setRow_heap _ _ _ _ 47 (0, 0) (heap_alloc_last _ _)
  have hb5 : Below w4.heap.size w4 w5 := by rw [hw5]; exact below_setRow (stpA (stp0 w4) _) (Nat.le_refl _) _
  have d0 : w5.cell? ⟨w4.heap.size, 0, none⟩ = some (.int .i64 (S1 0)) := by rw [cell_of_row w5 _ 0 _ _ _ hr5]; rfl
  have d1 : w5.cell? ⟨w4.heap.size, 1, none⟩ = some (.int .i64 (S1 1)) := by rw [cell_of_row w5 _ 1 _ _ _ hr5]; rfl
  have f0 := frozen_of_row w5 w4.heap.size 0 _ _ hr5
  have f1 := frozen_of_row w5 w4.heap.size 1 _ _ hr5
  have HR5 := Lib.hid hr5
  have HB5 := Lib.hid hb5
  clear hw5 hr5 hb5
  go_wp2_with (first
    | (refine wpList_store_rowTo rfl 47 (.tmp 11) (.tmp 50) rfl rfl w4.heap.size (numL 86 S1).toArray rfl rfl 47 _ HO47.out (HI47.out S1) (by rw [List.size_toArray, List.size_toArray, numL_len, numL_len]) (numL_one 86 S1) ?_; rw [← HW5.out]))
  obtain ⟨bb, hbb⟩ : ∃ z, z = n / 32 % 512 := ⟨_, rfl⟩
  obtain ⟨pp, hpp⟩ : ∃ z, z = n / 1048576 % 8 := ⟨_, rfl⟩
  rw [← hbb, ← hpp]
  obtain ⟨S2, hS2⟩ : ∃ z, z = upd (upd S1 0 bb) 1 pp := ⟨_, rfl⟩
  have W : Written S S2 m := hS2 ▸ written_of HSL.out.1 HSL.out.2 (by omega) (by omega)
  have hm1 : 1 ≤ m := by omega
  have hm2 : m ≤ 2 := by omega
  have fit : ∀ g c, g < 2 → c < m → GcFit S2 g c := fun g c hg hc => frame_fit HOK.out hm2 W hg hc
  have shape : ∀ g c, g < 2 → c < m → GcShape S2 g c := fun g c hg hc => frame_shape HOK.out hm2 W hg hc
  have sc := frame_sc HOK.out hm1 hm2 W
  have gone := frame_gone HOK.out hm1 hm2 (S0_seven _ _ _ _ _ _ _) W
  have HBD := Lib.hid (frame_bd m ⟨hm1, hm2⟩ fit W.s0 W.s1 sc gone)
  obtain ⟨w6, hw6⟩ : ∃ z, z = (w5.setCell ⟨w4.heap.size, 0, none⟩ (.int .i64 bb)).setCell ⟨w4.heap.size, 1, none⟩ (.int .i64 pp) := ⟨_, rfl⟩
  rw [← hw6]
  have hr6 : w6.heap[w4.heap.size]? = some (.cells (numL 86 S2).toArray 47 (0, 0)) := by
    rw [hw6, heap_setCell_same _ _ _ _ _ _ (heap_setCell_same _ _ _ _ _ _ HR5.out), numL_set 86 _ _ _ (by decide), numL_set 86 _ _ _ (by decide), hS2]
  have hb46 : Below w4.heap.size w4 w6 := by rw [hw6]; exact (HB5.out.setCell (by exact Nat.le_refl _) _).setCell (by exact Nat.le_refl _) _
  have hb36 : Below w3.heap.size w3 w6 := stp HB4.out hb46
  have hb6 : Below w.heap.size w w6 := stp (stp HB2.out HB3.out) hb36
  have hlt4 : w4.heap.size < w6.heap.size := lt_of_heap hr6
  have hlt2 : w2.heap.size < w3.heap.size := lt_of_heap HR3.out
  have HBA := Lib.hid (And.intro hb6 (And.intro hlt4 hr6))
  have SK : Hid (∀ wq, Below w6.heap.size w6 wq → Sem.run Tryd.prog (bigLd 30 (.pointer (some ⟨w2.heap.size, 0, none⟩))) wq = .ok (.agg #[.int .i64 (hB n), .int .i64 (hR n), .int .i64 (hP n), .int .i64 (hM n), .int .i64 (hJ n), .int .i64 (hV n), .int .i64 (hK n)]) wq ∧ Sem.run Tryd.prog (bigLd 47 (.pointer (some ⟨w4.heap.size, 0, none⟩))) wq = .ok (.agg (numL 86 S2).toArray) wq) := Lib.hid fun wq hq => by
    have hq3 : Below w3.heap.size w3 wq := stp hb36 hq
    refine ⟨run_loadAt_mid wq w2.heap.size 0 30 _ _ (fun j v hv => by rw [Nat.zero_add, hq3.cell (p := ⟨w2.heap.size, j, none⟩) hlt2, ← Nat.zero_add j]; exact HRH.out j v hv) Tryd.underlying30 rfl (by kernel_rfl), run_loadAt_mid wq w4.heap.size 0 47 _ _ (fun j v hv => by
      rw [Nat.zero_add, cell_of_row wq _ j _ _ _ ((hq.block _ hlt4).trans hr6), List.getElem?_toArray]; exact hv) Tryd.underlying47 rfl (by rw [numL_len]; kernel_rfl)⟩
  have SS : Hid (∀ wq, Below w6.heap.size w6 wq → _) := Lib.hid fun wq hq => side_step n m HM.out S2 fit shape W.s0 W.s1 sc gone w6 wq hq
  have hst : ∀ (wq : World) (A : Nat) (T : Nat → Int), RowA w6.heap.size A wq → Sem.run Tryd.prog (bigSt 47 (.pointer (some ⟨A, 0, none⟩)) (.agg (numL 86 T).toArray)) wq = .ok () (wq.setRow A (numL 86 T).toArray) := fun wq A T hA =>
    run_storeAt_row' wq A 47 47 _ _ hA.1 (HI47.out T) (by rw [List.size_toArray, List.size_toArray, numL_len, numL_len]) (numL_one 86 T)
  obtain ⟨k0, k1'⟩ := SK.out w6.drew (stpD (stp0 _))
  obtain ⟨i0, hi, hq0, hq1, hq2⟩ := info_parts info5
  have HBT : Hid (∀ wq, Below w6.heap.size w6 wq → BitsTab wq) := Lib.hid fun wq hq => HT.out.below hZ2 (stp hb6 hq)
  have HDD : Hid (∀ wq, Below w6.heap.size w6 wq → (a3 = none ∧ C.length = 0 ∧ cap3 = 0) ∨ ∃ ad, a3 = some ad ∧ ∀ j u, (C.map (Value.int .u8))[j]? = some u → wq.cell? (ad.add j) = some u) := Lib.hid fun wq hq => HD3.out.below (stp hb6 hq)
  clear hbb hpp hS2 W fit shape sc gone hw6 hr6 hb46 hb36 hb6 hlt4 hlt2 d0 d1 f0 f1
  go_wp2_with fail
  go_region_held3 (fun w' => Sem.run Tryd.prog (bigLd 30 (.pointer (some ⟨w2.heap.size, 0, none⟩))) w' = .ok (.agg #[.int .i64 (hB n), .int .i64 (hR n), .int .i64 (hP n), .int .i64 (hM n), .int .i64 (hJ n), .int .i64 (hV n), .int .i64 (hK n)]) w' ∧ Sem.run Tryd.prog (bigLd 47 (.pointer (some ⟨w4.heap.size, 0, none⟩))) w' = .ok (.agg (numL 86 S2).toArray) w')
    ((first | exact SK.out _ (stpD (stp0 _)) | exact SK.out _ (stpA (stpD (stp0 _)) _) | exact SK.out _ hB15 | exact SK.out _ (stpA hB15 _) | exact SK.out _ hB17 | exact SK.out _ (stpA hB17 _) | exact SK.out _ hB18 | exact SK.out _ (stpA hB18 _) | exact SK.out _ hB19 | exact SK.out _ (stpA hB19 _) | exact SK.out _ (below_setRow hB19 hA19.2 _) | exact SK.out _ (below_setRow (stpA hB19 _) hA20.2 _)))
    ((first
      | (go_at_call 15
         refine (SS.out _ (by first | exact stpD (stp0 _) | exact stpA (stpD (stp0 _)) _)).mono ?_
         rintro e w15 ⟨L, a15, cap15, rfl, hO15, hI15, hB15, hb15⟩
         first
           | (have hA15 : RowA w6.heap.size w6.heap.size w15 := RowA.new (N := w6.heap.size) (w := w6.drew) (Nat.le_refl _) hb15)
           | skip
         clear hb15)
      | (refine step_append_data rfl (.tmp 65) (.tmp 66) 23 rfl w6.heap.size 5 i0 (.int .u8 0) 1 Tryd.underlying23 hi hq0 hq1 hq2 rfl _ L.length _ rfl (by first | exact hO15 | exact hO15.alloc _) a3 C.length cap3 (C.map (Value.int .u8)) rfl (by simp) (by first | exact HDD.out _ hB15 | exact HDD.out _ (stpA hB15 _)) oneCell_ints (by have := hI15.small; unfold maxLen; omega) (by have := hI15.small; omega) (by have := hB15.size; simp; omega) ?_
         intro v17 w17 hO17 hG17
         have hB17 : Below w6.heap.size w6 w17 := (by first | exact hB15.grown hG17 hB15.size (by intro j hj; exact ownedGe hO15 hj) | exact (stpA hB15 _).grown hG17 (by have := hB15.size; simp; omega) (by intro j hj; exact ownedGe hO15 hj))
         first
           | (have hA17 := RowA.grew hA15 hO15 hG17)
           | (have hA17 := RowA.grew (RowA.here (N := w6.heap.size) w15 hB15.size) (hO15.alloc _) hG17)
           | skip
         obtain ⟨g17, c17, rfl, hge17⟩ := ownedSome hO17 (by have := hI15.small; omega)
         have hO17' : w17.ownsRow w6.heap.size 5 1 (.slice (some ⟨g17, 0, none⟩) (L.length + C.length) c17) (L.length + C.length) ((L ++ C).map (Value.int .u8)) := (by rw [List.map_append]; exact hO17)
         have hH17 := hld_of hO17'
         clear hG17 hO17 hO17')
      | (go_at_call 9
         refine (wordH n _).mono ?_
         rintro e w18 ⟨rfl, hb18⟩
         have hB18 : Below w6.heap.size w6 w18 := (by first | exact stp hB17 hb18 | exact stp (stpA hB17 _) hb18)
         have hH18 : Hld g17 (L.length + C.length) (L ++ C) w18 := (by first | exact hH17.below hb18 | exact (hH17.alloc _).below hb18)
         first
           | (have hA18 := RowA.keep hA17 hb18)
           | (have hA18 := RowA.new (N := w6.heap.size) hB17.size hb18)
           | skip
         clear hb18)
      | (go_at_call 14
         refine (implSide_any hI15 C g17 (L.length + C.length) c17 (by rw [List.length_append]) (by have := hI15.small; omega) _ (by first | exact hH18.cell | exact (hH18.alloc _).cell) (by first | exact HBT.out _ hB18 | exact HBT.out _ (stpA hB18 _))).mono ?_
         rintro e w19 ⟨T, rfl, hT, hb19⟩
         have hB19 : Below w6.heap.size w6 w19 := (by first | exact stp hB18 hb19 | exact stp (stpA hB18 _) hb19)
         first
           | (have hA19 := RowA.keep hA18 hb19)
           | (have hA19 := RowA.new (N := w6.heap.size) hB18.size hb19)
           | (have hA20 := RowA.here (N := w6.heap.size) w19 hB19.size)
         clear hb19)))
  all_goals
    clear hst k0 k1'
    first
      | (have hrow := setRow_heap w19 _ _ (numL 86 T).toArray 47 (0, 0) hA19.1
         have hbel := below_setRow hB19 hA19.2 (numL 86 T).toArray)
      | (have hrow := setRow_heap (w19.alloc (.cells (numL 86 (fun _ => 0)).toArray 47)) _ _ (numL 86 T).toArray 47 (0, 0) hA20.1
         have hbel := below_setRow (stpA hB19 (.cells (numL 86 (fun _ => 0)).toArray 47)) hA20.2 (numL 86 T).toArray)
    have hl12 := ld_row hrow
    have hl11 := (SK.out _ hbel).2
    have HBL := Lib.hid hbel
    clear hrow hbel
    go_wp2_with fail
    refine (sideIs_any T S2 hT (fun j hj => by rw [hT j hj]; exact HBD.out j hj) _).mono ?_
    rintro e w20 ⟨rfl, hb20⟩
    have hbF : Below w.heap.size w w20 := stp (stp HBA.out.1 HBL.out) hb20
    clear hb20
    go_wp2_with fail
    go_ret
    exact ⟨rfl, hbF⟩
end Go.Proofs.YtppfldobgemddaaDoor
namespace Go.Proofs.YtppfldobgemddaaDoor
open Go.RowKit
set_option linter.unusedVariables false

/-- The numbers of a slice that came in. -/
theorem isRow_nums {k : IntKind} {lo hi : Int} (hk : ∀ z : Int, (Lit.int k z).wf = true → lo ≤ z ∧ z ≤ hi) {w : World} {a : Option Addr} {len cap : Nat} {zs : List Int} (h : IsRowP k w a len cap zs) :
    len = 0 ∨ ∃ b o, a = some ⟨b, o, none⟩ ∧ b < w.heap.size ∧ ∀ j, j < len → ∃ z : Int, lo ≤ z ∧ z ≤ hi ∧ w.cell? ⟨b, o + j, none⟩ = some (.int k z) := by
  rcases h with ⟨_, h0, _⟩ | ⟨x, rfl, hlc, hm, hz, hc, hwz⟩
  · exact .inl h0
  · by_cases h0 : len = 0
    · exact .inl h0
    · obtain ⟨b, off, spot⟩ := x
      have h1 := hc 0 (by omega)
      have hspot : spot = none := by simpa [Addr.add] using World.cell?_spot h1
      subst hspot
      have hadd : ∀ j, (⟨b, off, none⟩ : Addr).add j = ⟨b, off + j, none⟩ := fun j => by unfold Addr.add; split <;> simp_all
      refine .inr ⟨b, off, rfl, ?_, fun j hj => ?_⟩
      · have := block_lt_of_cell h1
        simpa [hadd] using this
      · have hj' : j < zs.length := by omega
        refine ⟨zs.getD j 0, ?_, ?_, by rw [← hadd]; exact hc j hj'⟩
        · rw [List.getD_eq_getElem?_getD, List.getElem?_eq_getElem hj']; exact (hk _ (hwz _ (List.getElem_mem _))).1
        · rw [List.getD_eq_getElem?_getD, List.getElem?_eq_getElem hj']; exact (hk _ (hwz _ (List.getElem_mem _))).2
theorem wf_u32 (z : Int) (h : (Lit.int .u32 z).wf = true) : 0 ≤ z ∧ z ≤ 4294967295 := bounds_u32 h
theorem wf_i8 (z : Int) (h : (Lit.int .i8 z).wf = true) : -128 ≤ z ∧ z ≤ 127 := by
  have h' : (decide (IntKind.i8.min ≤ z) && decide (z ≤ IntKind.i8.max)) = true := h
  have e1 : IntKind.i8.min = -128 := by decide
  have e2 : IntKind.i8.max = 127 := by decide
  rw [e1, e2, Bool.and_eq_true, decide_eq_true_eq, decide_eq_true_eq] at h'
  exact h'
set_option maxRecDepth 100000 in
set_option maxHeartbeats 1000000 in
theorem fnSide_big (n : Int) (a1 : Option Addr) (len1 cap1 : Nat) (a2 : Option Addr) (len2 cap2 : Nat) (a3 : Option Addr) (len3 cap3 : Nat) (h : ¬ (len1 ≤ 100 ∧ len2 ≤ 1000) ∨ 100 < len3) (w : World) :
    Calls Tryd.prog 5 #[.int .u32 n, .slice a1 len1 cap1, .slice a2 len2 cap2, .slice a3 len3 cap3] w fun e w' => e = .returned (.bool true) ∧ Below w.heap.size w w' := by
  by_cases hf : len1 ≤ 100 ∧ len2 ≤ 1000
  · have hf' := decide_eq_true hf
    have h3 : 100 < len3 := by rcases h with q | q; exact absurd hf q; exact q
    have h3' : (100 : Int) < len3 := by omega
    have HF := Lib.hid hf'
    clear h hf hf'
    go_each [2147483647 < len1, 2147483647 < len2, 2147483647 < len3] => (go_enter Tryd.func5, Tryd.ntmps5; go_wp2_with (go_at_call 11; refine (few_any _ _ _ _ _ _ _).mono ?_; rintro e w' ⟨rfl, rfl⟩; rw [HF.out]); go_returns; exact ⟨rfl, stp0 w⟩)
  · have hf' := decide_eq_false hf
    have HF := Lib.hid hf'
    clear h hf hf'
    go_each [2147483647 < len1, 2147483647 < len2, 2147483647 < len3] => (go_enter Tryd.func5, Tryd.ntmps5; go_wp2_with (go_at_call 11; refine (few_any _ _ _ _ _ _ _).mono ?_; rintro e w' ⟨rfl, rfl⟩; rw [HF.out]); go_returns; exact ⟨rfl, stp0 w⟩)
theorem fnSideInfo_walk (a0 : Int) (a1 : Option Addr) (len1 cap1 : Nat) (z1 : List Int) (a2 : Option Addr) (len2 cap2 : Nat) (z2 : List Int) (a3 : Option Addr) (len3 cap3 : Nat) (z3 : List Int) (w : World) (w0 : (Lit.int .u32 a0).wf = true) (w1 : IsRowP .u32 w a1 len1 cap1 z1) (w2 : IsRowP .i8 w a2 len2 cap2 z2) (w3 : IsRowP .u8 w a3 len3 cap3 z3) (tab : BitsTab w) :
    Calls Tryd.prog 5 #[.int .u32 a0, .slice a1 len1 cap1, .slice a2 len2 cap2, .slice a3 len3 cap3] w fun e w' => e = .returned (.bool true) ∧ Below w.heap.size w w' := by
  by_cases h : ¬ (len1 ≤ 100 ∧ len2 ≤ 1000) ∨ 100 < len3
  · exact fnSide_big a0 a1 len1 cap1 a2 len2 cap2 a3 len3 cap3 h w
  · obtain ⟨C, hC, dC, wC⟩ := isRow_dataIn w3
    subst hC
    have hCb : ∀ j, 0 ≤ C.getD j 0 ∧ C.getD j 0 ≤ 255 := fun j => by
      rw [List.getD_eq_getElem?_getD]
      cases hd : C[j]? with
      | none => simp
      | some z => exact bounds_u8 (wC z (List.mem_of_getElem? hd))
    have hb := bounds_u32 w0
    exact fnSide_main a0 hb.1 hb.2 a1 len1 cap1 a2 len2 cap2 a3 cap3 C hCb (by omega) (by omega) (by omega) w (isRow_nums wf_u32 w1) (isRow_nums wf_i8 w2) dC tab
end Go.Proofs.YtppfldobgemddaaDoor
