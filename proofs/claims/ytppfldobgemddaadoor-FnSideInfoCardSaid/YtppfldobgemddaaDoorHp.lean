/-
  The beginning of laws.frameOf.
-/
import Derived.Test.YtppfldobgemddaaDoorMo
import Derived.Test.YtppfldobgemddaaDoorMq
import Derived.Outline
import Derived.Laws.Tables
import Derived.Great.BuildSlice
import Derived.Deep.WholeRow
namespace Go.Proofs.YtppfldobgemddaaDoor
open Go.RowKit
set_option linter.unusedVariables false

/-- A frame's 341 cells, all nought. -/
def Z341 : Array Value := (List.replicate 337 (Value.int .i64 0) ++ List.replicate 4 (Value.slice none 0 0)).toArray
theorem zero60 : (Tryd.prog.info? 60).map (fun i => (i.zero, i.size)) = some (some (.agg Z341), 341) := by kernel_rfl
/-- A frame of a header alone. -/
def F341 (hB hR hP hM hJ hV hK : Int) : Array Value := ([Value.int .i64 hB, .int .i64 hR, .int .i64 hP, .int .i64 hM, .int .i64 hJ, .int .i64 hV, .int .i64 hK] ++ (List.replicate 330 (Value.int .i64 0) ++ List.replicate 4 (Value.slice none 0 0))).toArray
def S0 (hB hR hP hM hJ hV hK : Int) (j : Nat) : Int := if j = 0 then hB else if j = 1 then hR else if j = 2 then hP else if j = 3 then hM else if j = 4 then hJ else if j = 5 then hV else if j = 6 then hK else 0
theorem F341_size (hB hR hP hM hJ hV hK : Int) : (F341 hB hR hP hM hJ hV hK).size = 341 := by unfold F341; rw [List.size_toArray, List.length_append, List.length_append, List.length_replicate, List.length_replicate]; rfl
theorem F341_num (hB hR hP hM hJ hV hK : Int) (j : Nat) (h : j < 337) : (F341 hB hR hP hM hJ hV hK)[j]? = some (.int .i64 (S0 hB hR hP hM hJ hV hK j)) := by
  unfold F341
  rw [List.getElem?_toArray]
  by_cases h7 : j < 7
  · have hj : j = 0 ∨ j = 1 ∨ j = 2 ∨ j = 3 ∨ j = 4 ∨ j = 5 ∨ j = 6 := by omega
    rcases hj with rfl | rfl | rfl | rfl | rfl | rfl | rfl <;> rfl
  · rw [List.getElem?_append_right (by show 7 ≤ j; omega), List.getElem?_append_left (by rw [List.length_replicate]; show j - 7 < 330; omega)]
    have e : S0 hB hR hP hM hJ hV hK j = 0 := by unfold S0; simp only [show j ≠ 0 by omega, show j ≠ 1 by omega, show j ≠ 2 by omega, show j ≠ 3 by omega, show j ≠ 4 by omega, show j ≠ 5 by omega, show j ≠ 6 by omega, if_false]
    rw [e, List.getElem?_replicate]; exact if_pos (show j - 7 < 330 by omega)
theorem F341_lin (hB hR hP hM hJ hV hK : Int) (j : Nat) (h : j < 4) : (F341 hB hR hP hM hJ hV hK)[337 + j]? = some (.slice none 0 0) := by
  unfold F341
  rw [List.getElem?_toArray, List.getElem?_append_right (by show 7 ≤ 337 + j; omega), List.getElem?_append_right (by rw [List.length_replicate]; show 330 ≤ 337 + j - 7; omega), List.getElem?_replicate, List.length_replicate]; exact if_pos (show 337 + j - 7 - 330 < 4 by omega)
theorem F341_one (hB hR hP hM hJ hV hK : Int) : (F341 hB hR hP hM hJ hV hK).all (·.oneCell') = true := by
  refine all_oneCell_toArray fun v hv => ?_
  rw [List.mem_append, List.mem_append, List.mem_replicate, List.mem_replicate] at hv
  rcases hv with hv | ⟨-, rfl⟩ | ⟨-, rfl⟩
  · simp only [List.mem_cons, List.not_mem_nil, or_false] at hv
    rcases hv with rfl | rfl | rfl | rfl | rfl | rfl | rfl <;> rfl
  · rfl
  · rfl
set_option maxRecDepth 1000000 in
set_option maxHeartbeats 4000000 in
theorem start_any (hB hR hP hM hJ hV hK : Int) (na : Option Addr) (nl nc : Nat) (va : Option Addr) (vl vc : Nat) (w : World) (R : Ending → World → Prop)
    (hR' : ∀ (a : Act), Fr w.heap.size na nl nc undef undef undef undef undef undef undef undef undef undef undef undef undef undef a →
      Code.wp Tryd.prog (.seq (.seq fr5 (.block 0 (.loop frLoop0))) (.seq frS (.seq (nthS 7 frBody) .ret))) (bodyPost Tryd.prog Tryd.f12 R) a (((((w.alloc (.cells #[.int .i64 hB, .int .i64 hR, .int .i64 hP, .int .i64 hM, .int .i64 hJ, .int .i64 hV, .int .i64 hK] 30)).alloc (.cells #[.slice va vl vc] 37)).alloc (.cells Z341 60)).alloc (.cells (F341 hB hR hP hM hJ hV hK) 60)).alloc (.cells #[.int .i64 0] 3))) :
    Calls Tryd.prog 12 #[.agg #[.int .i64 hB, .int .i64 hR, .int .i64 hP, .int .i64 hM, .int .i64 hJ, .int .i64 hV, .int .i64 hK], .slice na nl nc, .slice va vl vc] w R := by
  have hz := (zero_of_info zero60).1
  refine calls_of_wp (c := frBody) Tryd.func12 rfl ?_
  rw [frBody_eq]
  obtain ⟨X, hX⟩ : ∃ X, X = Code.seq (.seq fr5 (.block 0 (.loop frLoop0))) (.seq frS (.seq (nthS 7 frBody) .ret)) := ⟨_, rfl⟩
  rw [← hX] at hR' ⊢
  clear hX
  have HQ := Lib.hid hR'
  clear hR'
  simp only [Tryd.ntmps12, List.size_toArray, List.length_cons, List.length_nil, Nat.reduceAdd, Nat.reduceSub, Array.replicate_succ, Array.replicate_zero, List.push_toArray, List.append_toArray, List.nil_append, List.cons_append]
  refine wp_seq_k fun K hK => ?_
  conv => arg 2; whnf
  go_wp2_with fail
  conv => arg 2; whnf
  obtain ⟨w1, hw1⟩ : ∃ w1, w1 = ((w.alloc (.cells #[.int .i64 hB, .int .i64 hR, .int .i64 hP, .int .i64 hM, .int .i64 hJ, .int .i64 hV, .int .i64 hK] 30)).alloc (.cells #[.slice va vl vc] 37)).alloc (.cells Z341 60) := ⟨_, rfl⟩
  have HL := Lib.hid (show w1.rangeAt w.heap.size 0 [.int .i64 hB, .int .i64 hR, .int .i64 hP, .int .i64 hM, .int .i64 hJ, .int .i64 hV, .int .i64 hK] from by
    intro j v hv
    rw [Nat.zero_add, cell_of_row w1 w.heap.size j #[.int .i64 hB, .int .i64 hR, .int .i64 hP, .int .i64 hM, .int .i64 hJ, .int .i64 hV, .int .i64 hK] 30 (0, 0) (by rw [hw1, heap_alloc_old _ _ (by simp; omega), heap_alloc_old _ _ (by simp), heap_alloc_last])]
    simpa using hv)
  have HS := Lib.hid (show w1.heap.size = w.heap.size + 3 by rw [hw1]; simp)
  rw [← hw1]
  have HW := Lib.hid hw1
  clear hw1
  go_wp2_with (first | (refine wpList_load_mid rfl 30 (.tmp 3) rfl w.heap.size 0 rfl [.int .i64 hB, .int .i64 hR, .int .i64 hP, .int .i64 hM, .int .i64 hJ, .int .i64 hV, .int .i64 hK] _ HL.out Tryd.underlying30 rfl (by kernel_rfl) ?_) | (refine wpList_buildTo rfl 60 #[(0, Operand.tmp 35)] rfl (some 36) rfl (F341 hB hR hP hM hJ hV hK) (by kernel_rfl) ?_) | (refine wpList_store_rowTo rfl 60 (.tmp 7) (.tmp 36) rfl rfl w1.heap.size (F341 hB hR hP hM hJ hV hK) rfl rfl 60 Z341 (heap_alloc_last _ _) (by rw [F341_size]; kernel_rfl) (by rw [F341_size]; kernel_rfl) (F341_one _ _ _ _ _ _ _) ?_; rw [World.setRow_alloc_new]))
  conv => arg 2; whnf
  go_wp2_with fail
  conv => arg 2; whnf
  go_wp2_with fail
  conv => arg 2; whnf
  go_wp2_with fail
  have hs := HS.out
  have hw := HW.out
  clear HL HS HW hz
  rw [hs]
  subst hw
  refine HQ.out _ ⟨rfl, rfl, rfl, rfl, rfl, rfl, rfl, rfl, rfl, rfl, rfl, rfl, rfl, rfl, rfl, rfl, rfl, rfl, rfl, rfl, rfl, rfl, rfl⟩
end Go.Proofs.YtppfldobgemddaaDoor
