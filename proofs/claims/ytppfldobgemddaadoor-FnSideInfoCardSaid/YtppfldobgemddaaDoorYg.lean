/-
  The contracts of impl.told and laws.sideIs.
-/
import Derived.Test.YtppfldobgemddaaDoorMl
import Derived.DeepKeys
import Derived.Great.BuildSlice
import Derived.StillTailTactics
import Derived.Laws.CopyOwn
import Derived.Laws.Rows
import Derived.Deep.MidRow
import Derived.Deep.WholeRow
namespace Go.Proofs.YtppfldobgemddaaDoor
open Go.RowKit
set_option linter.unusedVariables false

/-- Numbers alone, in arrays and structs. -/
def numTree (P : Program) : Nat → TypeId → Bool
  | 0, _ => false
  | m + 1, t => match P.underlying t with
    | some (.int .i64) => P.cellsOf t == 1
    | some (.array n e) => numTree P m e && P.cellsOf t == n * P.cellsOf e
    | some (.struct fs) => fs.all fun f => f.name != "_" && numTree P m f.type && decide (f.offset + P.cellsOf f.type ≤ P.cellsOf t)
    | _ => false
theorem mapM_some {α β : Type} {f : α → Option β} : ∀ (l : List α), (∀ x ∈ l, ∃ y, f x = some y) → ∃ ys, l.mapM f = some ys
  | [], _ => ⟨[], rfl⟩
  | x :: l, h => by
    obtain ⟨y, hy⟩ := h x (List.mem_cons_self ..)
    obtain ⟨ys, hys⟩ := mapM_some l fun z hz => h z (List.mem_cons_of_mem _ hz)
    exact ⟨y :: ys, by simp [List.mapM_cons, hy, hys]⟩
theorem keyLits_num {P : Program} : ∀ (m D : Nat) (t : TypeId) (cs : List Value), numTree P m t = true → m ≤ D → cs.length = P.cellsOf t → (∀ v ∈ cs, ∃ z : Int, v = .int .i64 z ∧ (Lit.int .i64 z).wf = true) → ∃ L, P.keyLits D t cs = some L
  | 0, _, _, _, h, _, _, _ => by cases h
  | m + 1, 0, _, _, _, h, _, _ => by omega
  | m + 1, D + 1, t, cs, h, hD, hl, hc => by
    unfold numTree at h
    unfold Program.keyLits
    cases hu : P.underlying t with
    | none => rw [hu] at h; cases h
    | some d =>
      rw [hu] at h
      cases d with
      | int q =>
        cases q <;> try cases h
        have h1 : cs.length = 1 := by rw [hl]; simpa using h
        obtain ⟨v, rfl⟩ := List.length_eq_one_iff.1 h1
        obtain ⟨z, rfl, hz⟩ := hc v (List.mem_cons_self ..)
        exact ⟨_, if_pos ⟨rfl, hz⟩⟩
      | array n e =>
        simp only [Bool.and_eq_true, beq_iff_eq] at h
        have key : ∀ i ∈ List.range n, ∃ y, P.keyLits D e ((cs.drop (i * P.cellsOf e)).take (P.cellsOf e)) = some y := fun i hi => by
          refine keyLits_num m D e _ h.1 (by omega) ?_ fun v hv => hc v (List.mem_of_mem_drop (List.mem_of_mem_take hv))
          have hi' := List.mem_range.1 hi
          have : (i + 1) * P.cellsOf e ≤ n * P.cellsOf e := Nat.mul_le_mul_right _ hi'
          rw [Nat.succ_mul] at this
          rw [List.length_take, List.length_drop, hl, h.2]
          omega
        obtain ⟨ys, hys⟩ := mapM_some _ key
        cases cs with
        | nil => exact ⟨_, by simp only [hl, if_true, hys]; rfl⟩
        | cons a r => exact ⟨_, by simp only [hl, if_true, hys]; rfl⟩
      | struct fs =>
        simp only [Array.all_eq_true_iff_forall_mem, Bool.and_eq_true, decide_eq_true_eq] at h
        have key : ∀ f ∈ fs.toList, ∃ y, P.keyLits D f.type ((cs.drop f.offset).take (P.cellsOf f.type)) = some y := fun f hf => by
          obtain ⟨⟨h1, h2⟩, h3⟩ := h f (by simpa using hf)
          refine keyLits_num m D f.type _ h2 (by omega) ?_ fun v hv => hc v (List.mem_of_mem_drop (List.mem_of_mem_take hv))
          rw [List.length_take, List.length_drop, hl]
          omega
        obtain ⟨ys, hys⟩ := mapM_some _ key
        have hn : fs.all (fun x => x.name != "_") = true := Array.all_eq_true_iff_forall_mem.2 fun f hf => (h f hf).1.1
        exact ⟨_, by simp only [hl, hn, and_self, if_true, hys]; rfl⟩
      | _ => cases h
set_option maxRecDepth 100000 in
theorem eq_side (T : Nat → Int) (hb : ∀ j, j < 86 → -1000000 ≤ T j ∧ T j ≤ 1000000) (w : World) : (binOp .eql 47 (.agg (numL 86 T).toArray) (.agg (numL 86 T).toArray)).run Tryd.prog w = .ok (.bool true) w := by
  obtain ⟨L, hL⟩ := keyLits_num (P := Tryd.prog) 5 5 47 (numL 86 T) (by kernel_rfl) (Nat.le_refl _) (by rw [numL_len]; kernel_rfl) fun v hv => by
    obtain ⟨j, hj⟩ := List.mem_iff_getElem?.1 hv
    obtain ⟨h1, h2⟩ := numL_get hj
    refine ⟨T j, h2, ?_⟩
    have := hb j h1
    show (decide (IntKind.i64.min ≤ T j) && decide (T j ≤ IntKind.i64.max)) = true
    have e1 : IntKind.i64.min = -9223372036854775808 := by decide
    have e2 : IntKind.i64.max = 9223372036854775807 := by decide
    rw [e1, e2, Bool.and_eq_true, decide_eq_true_eq, decide_eq_true_eq]
    omega
  have hk := run_equalIn_deep (P := Tryd.prog) 9995 5 47 (by kernel_rfl) w 5 5 (.agg (numL 86 T).toArray) (.agg (numL 86 T).toArray) L L (by kernel_rfl) (by kernel_rfl) (by simpa [Value.cells] using hL) (by simpa [Value.cells] using hL)
  obtain ⟨r, hr, hiff⟩ := hk
  rw [run_eql_struct, hr, hiff.2 rfl]; rfl
/-- Loads, a build and a store of many cells, each under one name. -/
def bigLd (t : TypeId) (v : Value) : Sem Value := Instr.loadAt t v
theorem bigLd40 (v : Value) : Instr.loadAt 40 v = bigLd 40 v := rfl
theorem bigLd42 (v : Value) : Instr.loadAt 42 v = bigLd 42 v := rfl
theorem bigLd45 (v : Value) : Instr.loadAt 45 v = bigLd 45 v := rfl
theorem bigLd47 (v : Value) : Instr.loadAt 47 v = bigLd 47 v := rfl
def bigBd (t : TypeId) (parts : Array (Nat × Value)) : Sem Value := Instr.build t parts
theorem bigBd47 (v : Array (Nat × Value)) : Instr.build 47 v = bigBd 47 v := rfl
def bigSt (t : TypeId) (p v : Value) : Sem Unit := Instr.storeAt t p v
theorem bigSt47 (p v : Value) : Instr.storeAt 47 p v = bigSt 47 p v := rfl
theorem run_storeAt_row' (w : World) (g : Nat) (t ty : TypeId) (old cells : Array Value) (hg : w.heap[g]? = some (.cells old t (0, 0))) (hi : (Tryd.prog.info? ty).map (·.size) = some cells.size)
    (ho : old.size = cells.size) (h1 : cells.all (·.oneCell') = true) :
    (Instr.storeAt ty (.pointer (some ⟨g, 0, none⟩)) (.agg cells)).run Tryd.prog w = .ok () (w.setRow g cells) := by
  simp only [Instr.storeAt, Instr.sureAddr, Sem.run_bind, Sem.run_pure, Result.andThen_ok, run_storeVar_row w g t ty old cells hg hi ho h1]
attribute [local go_sem ↓] bigLd40 bigLd42 bigLd45
theorem zero47' : (Tryd.prog.info? 47).map (fun i => (i.zero, i.size)) = some (some (.agg (numL 86 (fun _ => 0)).toArray), 86) := by kernel_rfl
set_option maxRecDepth 1000000 in
set_option maxHeartbeats 8000000 in
theorem told_any (p : Nat) (T : Nat → Int) (w : World) (h : w.heap[p]? = some (.cells (numL 86 T).toArray 133 (0, 0))) :
    Calls Tryd.prog 32 #[.pointer (some ⟨p, 0, none⟩)] w fun e w' => e = .returned (.agg (numL 86 T).toArray) ∧ Below w.heap.size w w' := by
  have hz := (zero_of_info zero47').1
  obtain ⟨w1, hw1⟩ : ∃ w1, w1 = w.alloc (.cells (numL 86 (fun _ => 0)).toArray 47) := ⟨_, rfl⟩
  have hp : w1.heap[p]? = some (.cells (numL 86 T).toArray 133 (0, 0)) := by rw [hw1, heap_alloc_old _ _ (lt_of_heap h)]; exact h
  have c0 : ∀ j, j < 86 → w1.cell? ⟨p, j, none⟩ = some (.int .i64 (T j)) := fun j hj => by
    rw [cell_of_row w1 p j _ _ _ hp, List.getElem?_toArray]; exact numL_at 86 T j hj
  have HR : Hid (∀ o n, o + n ≤ 86 → w1.rangeAt p o (numL n (fun i => T (o + i)))) := Lib.hid fun o n hn => numL_range fun j hj => c0 (o + j) (by omega)
  have d0 := c0 0 (by decide)
  have d1 := c0 1 (by decide)
  have HO := Lib.hid (show w1.heap[w.heap.size]? = some (.cells (numL 86 (fun _ => 0)).toArray 47 (0, 0)) by rw [hw1, heap_alloc_last])
  have HI : Hid ((Tryd.prog.info? 47).map (·.size) = some (numL 86 T).toArray.size) := Lib.hid (by rw [List.size_toArray, numL_len]; kernel_rfl)
  have HB := Lib.hid (show Below w.heap.size w w1 from hw1 ▸ stpA (stp0 w) _)
  rw [hw1] at d0 d1
  have HW1 := Lib.hid hw1
  clear hw1 hp c0 h
  go_enter Tryd.func32, Tryd.ntmps32
  go_wp2_with fail
  rw [← HW1.out]
  rw [← HW1.out] at d0 d1
  have l2 : Sem.run Tryd.prog (bigLd 40 (.pointer (some ⟨p, 2, none⟩))) w1.drew = .ok (.agg (numL 8 (fun i => T (2 + i))).toArray) w1.drew := run_loadAt_mid w1.drew p 2 40 _ _ (HR.out 2 8 (by omega)) Tryd.underlying40 rfl (by kernel_rfl)
  have l10 : Sem.run Tryd.prog (bigLd 42 (.pointer (some ⟨p, 10, none⟩))) w1.drew = .ok (.agg (numL 4 (fun i => T (10 + i))).toArray) w1.drew := run_loadAt_mid w1.drew p 10 42 _ _ (HR.out 10 4 (by omega)) Tryd.underlying42 rfl (by kernel_rfl)
  have l14 : Sem.run Tryd.prog (bigLd 42 (.pointer (some ⟨p, 14, none⟩))) w1.drew = .ok (.agg (numL 4 (fun i => T (14 + i))).toArray) w1.drew := run_loadAt_mid w1.drew p 14 42 _ _ (HR.out 14 4 (by omega)) Tryd.underlying42 rfl (by kernel_rfl)
  have l18 : Sem.run Tryd.prog (bigLd 42 (.pointer (some ⟨p, 18, none⟩))) w1.drew = .ok (.agg (numL 4 (fun i => T (18 + i))).toArray) w1.drew := run_loadAt_mid w1.drew p 18 42 _ _ (HR.out 18 4 (by omega)) Tryd.underlying42 rfl (by kernel_rfl)
  have l22 : Sem.run Tryd.prog (bigLd 42 (.pointer (some ⟨p, 22, none⟩))) w1.drew = .ok (.agg (numL 4 (fun i => T (22 + i))).toArray) w1.drew := run_loadAt_mid w1.drew p 22 42 _ _ (HR.out 22 4 (by omega)) Tryd.underlying42 rfl (by kernel_rfl)
  have l26 : Sem.run Tryd.prog (bigLd 42 (.pointer (some ⟨p, 26, none⟩))) w1.drew = .ok (.agg (numL 4 (fun i => T (26 + i))).toArray) w1.drew := run_loadAt_mid w1.drew p 26 42 _ _ (HR.out 26 4 (by omega)) Tryd.underlying42 rfl (by kernel_rfl)
  have l30 : Sem.run Tryd.prog (bigLd 42 (.pointer (some ⟨p, 30, none⟩))) w1.drew = .ok (.agg (numL 4 (fun i => T (30 + i))).toArray) w1.drew := run_loadAt_mid w1.drew p 30 42 _ _ (HR.out 30 4 (by omega)) Tryd.underlying42 rfl (by kernel_rfl)
  have l34 : Sem.run Tryd.prog (bigLd 42 (.pointer (some ⟨p, 34, none⟩))) w1.drew = .ok (.agg (numL 4 (fun i => T (34 + i))).toArray) w1.drew := run_loadAt_mid w1.drew p 34 42 _ _ (HR.out 34 4 (by omega)) Tryd.underlying42 rfl (by kernel_rfl)
  have l38 : Sem.run Tryd.prog (bigLd 45 (.pointer (some ⟨p, 38, none⟩))) w1.drew = .ok (.agg (numL 12 (fun i => T (38 + i))).toArray) w1.drew := run_loadAt_mid w1.drew p 38 45 _ _ (HR.out 38 12 (by omega)) Tryd.underlying45 rfl (by kernel_rfl)
  have l50 : Sem.run Tryd.prog (bigLd 45 (.pointer (some ⟨p, 50, none⟩))) w1.drew = .ok (.agg (numL 12 (fun i => T (50 + i))).toArray) w1.drew := run_loadAt_mid w1.drew p 50 45 _ _ (HR.out 50 12 (by omega)) Tryd.underlying45 rfl (by kernel_rfl)
  have l62 : Sem.run Tryd.prog (bigLd 42 (.pointer (some ⟨p, 62, none⟩))) w1.drew = .ok (.agg (numL 4 (fun i => T (62 + i))).toArray) w1.drew := run_loadAt_mid w1.drew p 62 42 _ _ (HR.out 62 4 (by omega)) Tryd.underlying42 rfl (by kernel_rfl)
  have l66 : Sem.run Tryd.prog (bigLd 42 (.pointer (some ⟨p, 66, none⟩))) w1.drew = .ok (.agg (numL 4 (fun i => T (66 + i))).toArray) w1.drew := run_loadAt_mid w1.drew p 66 42 _ _ (HR.out 66 4 (by omega)) Tryd.underlying42 rfl (by kernel_rfl)
  have l70 : Sem.run Tryd.prog (bigLd 42 (.pointer (some ⟨p, 70, none⟩))) w1.drew = .ok (.agg (numL 4 (fun i => T (70 + i))).toArray) w1.drew := run_loadAt_mid w1.drew p 70 42 _ _ (HR.out 70 4 (by omega)) Tryd.underlying42 rfl (by kernel_rfl)
  have l74 : Sem.run Tryd.prog (bigLd 42 (.pointer (some ⟨p, 74, none⟩))) w1.drew = .ok (.agg (numL 4 (fun i => T (74 + i))).toArray) w1.drew := run_loadAt_mid w1.drew p 74 42 _ _ (HR.out 74 4 (by omega)) Tryd.underlying42 rfl (by kernel_rfl)
  have l78 : Sem.run Tryd.prog (bigLd 42 (.pointer (some ⟨p, 78, none⟩))) w1.drew = .ok (.agg (numL 4 (fun i => T (78 + i))).toArray) w1.drew := run_loadAt_mid w1.drew p 78 42 _ _ (HR.out 78 4 (by omega)) Tryd.underlying42 rfl (by kernel_rfl)
  have l82 : Sem.run Tryd.prog (bigLd 42 (.pointer (some ⟨p, 82, none⟩))) w1.drew = .ok (.agg (numL 4 (fun i => T (82 + i))).toArray) w1.drew := run_loadAt_mid w1.drew p 82 42 _ _ (HR.out 82 4 (by omega)) Tryd.underlying42 rfl (by kernel_rfl)
  have d0 := show w1.drew.cell? ⟨p, 0, none⟩ = _ from d0
  have d1 := show w1.drew.cell? ⟨p, 1, none⟩ = _ from d1
  clear hz
  simp only [List.append_eq, List.cons_append, List.nil_append]
  refine wp_region_still_tail 72 (by kernel_rfl) (by kernel_rfl) ?_
  simp only [List.take_succ_cons, List.take_zero, List.drop_succ_cons, List.drop_zero]
  change wpStill _ _ w1.drew _ _ _
  repeat still_step
  refine wpStill_nil ?_
  change wpList _ _ _ _ _ w1.drew
  clear d0 d1
  go_wp2_with (first | (refine wpList_buildTo rfl 47 #[(0, Operand.tmp 6), (1, Operand.tmp 10), (2, Operand.tmp 14), (3, Operand.tmp 18), (4, Operand.tmp 22), (5, Operand.tmp 26), (6, Operand.tmp 30), (7, Operand.tmp 34), (8, Operand.tmp 38), (9, Operand.tmp 42), (10, Operand.tmp 46), (11, Operand.tmp 50), (12, Operand.tmp 54), (13, Operand.tmp 58), (14, Operand.tmp 62), (15, Operand.tmp 66), (16, Operand.tmp 70), (17, Operand.tmp 74)] rfl (some 75) rfl (numL 86 T).toArray (by kernel_rfl) ?_) | (refine wpList_store_rowTo rfl 47 (.tmp 2) (.tmp 75) rfl rfl w.heap.size (numL 86 T).toArray rfl rfl 47 _ HO.out HI.out (by rw [List.size_toArray, List.size_toArray, numL_len, numL_len]) (numL_one 86 T) ?_))
  exact ⟨rfl, _, results_cell_row rfl _ _ w.heap.size 47 (numL 86 T).toArray (0, 0) _ rfl (setRow_heap w1.drew w.heap.size _ _ 47 (0, 0) HO.out) Tryd.underlying47 rfl HI.out, rfl, below_setRow (stpD HB.out) (Nat.le_refl _) _⟩
end Go.Proofs.YtppfldobgemddaaDoor
