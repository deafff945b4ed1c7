/-
  The contracts of slices.Clone at bytes.
-/
import Derived.Test.YtppfldobgemddaaDoorRows
import Derived.Test.YtppfldobgemddaaDoorAid
import Derived.WalkSpells
import Derived.Handy
namespace Go.Proofs.YtppfldobgemddaaDoor
open Go.RowKit
set_option linter.unusedVariables false

theorem info3 : (Tryd.prog.info? 3).map (fun i => (i.zero, i.size, i.bytes)) = some (some (.int .i64 0), 1, 8) := by kernel_rfl
theorem info5 : (Tryd.prog.info? 5).map (fun i => (i.zero, i.size, i.bytes)) = some (some (.int .u8 0), 1, 1) := by kernel_rfl

theorem cells_at {k : IntKind} {w : World} {b off n : Nat} {zs : List Int} (hn : zs.length = n) (hc : ∀ j, j < n → w.cell? ⟨b, off + j, none⟩ = some (.int k (zs.getD j 0))) (o : Obj) :
    ∀ j u, (zs.map (Value.int k))[j]? = some u → (w.alloc o).cell? ((⟨b, off, none⟩ : Addr).add j) = some u := by
  intro j u hu
  rw [List.getElem?_map] at hu
  cases hz : zs[j]? with
  | none => rw [hz] at hu; simp at hu
  | some z =>
    rw [hz] at hu
    simp at hu
    subst hu
    have hj : j < n := by rw [← hn]; exact (List.getElem?_eq_some_iff.1 hz).1
    have h1 := hc j hj
    have h2 : zs.getD j 0 = z := by rw [List.getD_eq_getElem?_getD, hz]; rfl
    rw [h2] at h1
    have ha : (⟨b, off, none⟩ : Addr).add j = ⟨b, off + j, none⟩ := by unfold Addr.add; split <;> simp_all
    rw [ha]
    have hlt : b < w.heap.size := block_lt_of_cell h1
    rw [World.cell?_alloc_past _ _ _ hlt]
    exact h1
theorem oneCell_ints {k : IntKind} {zs : List Int} : ∀ u ∈ zs.map (Value.int k), u.oneCell' = true := by
  intro u hu
  obtain ⟨z, _, rfl⟩ := List.mem_map.1 hu
  rfl

set_option maxHeartbeats 400000 in
theorem cloneBytes_any (b off n cap : Nat) (zs : List Int) (hn : zs.length = n) (hm : n ≤ 1000000) (w : World) (hc : ∀ j, j < n → w.cell? ⟨b, off + j, none⟩ = some (.int .u8 (zs.getD j 0))) :
    Calls Tryd.prog 22 #[.slice (some ⟨b, off, none⟩) n cap] w fun e w' => (∃ v, e = .returned v ∧ w'.ownsRow w.heap.size 5 1 v n (zs.map (Value.int .u8))) ∧ Below w.heap.size w w' := by
  obtain ⟨i0, hi, hz0, hz1, hz2⟩ := info_parts info5
  have H0 : (w.alloc (.cells #[] 5)).ownsRow w.heap.size 5 1 (.slice (some ⟨w.heap.size, 0, none⟩) 0 0) 0 [] := World.ownsRow_made w #[] 0 (Nat.le_refl _) (by unfold maxLen; omega) rfl
  have HC := Lib.hid (cells_at hn hc (.cells #[] 5))
  have HM := Lib.hid (show 0 + n ≤ maxLen by unfold maxLen; omega)
  have HL := Lib.hid (show (zs.map (Value.int .u8)).length = n * 1 by simp [hn])
  clear hc
  have hq := fun wx => Lib.run_eql_slice_nil (P := Tryd.prog) (w := wx) (t := 23)
  go_enter Tryd.func22, Tryd.ntmps22
  go_wp2_with (at_builtin; refine wpList_append_own _ rfl _ _ 23 rfl w.heap.size 5 i0 (.int .u8 0) 1 1 Tryd.underlying23 hi hz0 hz1 hz2 rfl (by decide) (.slice (some ⟨w.heap.size, 0, none⟩) 0 0) 0 [] rfl H0 ⟨b, off, none⟩ n cap (zs.map (Value.int .u8)) rfl HL.out HC.out oneCell_ints HM.out (by omega) (by simp) ?_; intro v' w1 hown hgrow _)
  go_returns
  refine ⟨⟨_, rfl, by simpa using hown⟩, ?_⟩
  exact (stpA (stp0 w) _).grown hgrow (by simp) (by intro k hk; cases hk; exact Nat.le_refl _)

set_option maxHeartbeats 400000 in
theorem cloneNil_any (w : World) :
    Calls Tryd.prog 22 #[.slice none 0 0] w fun e w' => e = .returned (.slice none 0 0) ∧ w = w' := by
  have hq := fun wx => Lib.run_eql_slice_nil (P := Tryd.prog) (w := wx) (t := 23)
  go_enter Tryd.func22, Tryd.ntmps22
  go_wp2_with fail
  go_ret
  exact ⟨rfl, rfl⟩
set_option maxHeartbeats 400000 in
theorem cloneEmpty_any (x : Addr) (cap : Nat) (w : World) :
    Calls Tryd.prog 22 #[.slice (some x) 0 cap] w fun e w' => (∃ v, e = .returned v ∧ w'.ownsRow w.heap.size 5 1 v 0 []) ∧ Below w.heap.size w w' := by
  obtain ⟨i0, hi, hz0, hz1, hz2⟩ := info_parts info5
  have H0 : (w.alloc (.cells #[] 5)).ownsRow w.heap.size 5 1 (.slice (some ⟨w.heap.size, 0, none⟩) 0 0) 0 [] := World.ownsRow_made w #[] 0 (Nat.le_refl _) (by unfold maxLen; omega) rfl
  have hq := fun wx => Lib.run_eql_slice_nil (P := Tryd.prog) (w := wx) (t := 23)
  go_enter Tryd.func22, Tryd.ntmps22
  go_wp2_with (at_builtin; refine wpList_append_own _ rfl _ _ 23 rfl w.heap.size 5 i0 (.int .u8 0) 1 1 Tryd.underlying23 hi hz0 hz1 hz2 rfl (by decide) (.slice (some ⟨w.heap.size, 0, none⟩) 0 0) 0 [] rfl H0 x 0 cap [] rfl rfl (by intro j u hu; simp at hu) (by intro u hu; cases hu) (by unfold maxLen; omega) (by omega) (by simp) ?_; intro v' w1 hown hgrow _)
  go_returns
  refine ⟨⟨_, rfl, by simpa using hown⟩, ?_⟩
  exact (stpA (stp0 w) _).grown hgrow (by simp) (by intro k hk; cases hk; exact Nat.le_refl _)
end Go.Proofs.YtppfldobgemddaaDoor
