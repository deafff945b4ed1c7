/-
  The contracts of (*source).Unread and (*source).skipTags.
-/
import Derived.Test.YtppfldobgemddaaDoorSo
import Derived.Test.YtppfldobgemddaaDoorCl
import Derived.Laws.BytesString
namespace Go.Proofs.YtppfldobgemddaaDoor
open Go.RowKit
set_option linter.unusedVariables false

theorem owned_slice {w : World} {base n : Nat} {e : TypeId} {v : Value} {xs : List Value} (h : w.ownsRow base e 1 v n xs) : ∃ a c, v = .slice a n c := by
  rcases h.2 with ⟨rfl, h0⟩ | ⟨g, cap, cur, rfl, _, _⟩
  · exact ⟨none, 0, by rw [h0]⟩
  · exact ⟨_, _, rfl⟩

/-- Three bytes as a string. -/
theorem conv3 (w : World) (B c : Nat) (x y z : Int) (h : w.heap[B]? = some (.cells [Value.int .u8 x, .int .u8 y, .int .u8 z].toArray 5 (0, 0))) :
    (convert 23 9 (.slice (some ⟨B, 0, none⟩) 3 c)).run Tryd.prog w = .ok (.string ⟨#[UInt8.ofNat x.toNat, UInt8.ofNat y.toNat, UInt8.ofNat z.toNat]⟩) w := by
  rw [run_convert_bytes_string w 23 9 5 _ 3 c Tryd.underlying23 Tryd.underlying5 Tryd.underlying9]
  have hl : (loadCells ⟨B, 0, none⟩ 3).run Tryd.prog w = .ok ([x, y, z].map (Value.int .u8)).toArray w := by
    refine run_loadCells_list w ⟨B, 0, none⟩ [Value.int .u8 x, .int .u8 y, .int .u8 z] ?_
    intro j v hv
    have ha : (⟨B, 0, none⟩ : Addr).add j = ⟨B, j, none⟩ := by unfold Addr.add; split <;> simp_all
    rw [ha, cell_of_row _ _ _ _ _ _ h]
    simpa using hv
  rw [run_bytesToString w ⟨B, 0, none⟩ 3 c [x, y, z] hl]
  rfl

set_option maxHeartbeats 1000000 in
theorem unread_any (S B k bc i : Nat) (news : List Value) (hk : 1 ≤ k) (hki : k ≤ i) (hi : i ≤ 1000000) (hn : news.length = k) (h1 : ∀ u ∈ news, u.oneCell' = true) (w : World)
    (s1 : w.cell? ⟨S, 1, none⟩ = some (.slice none 0 0)) (s2 : w.cell? ⟨S, 2, none⟩ = some (.int .i64 i)) (f1 : w.frozen? ⟨S, 1, none⟩ = false) (f2 : w.frozen? ⟨S, 2, none⟩ = false)
    (hB : w.heap[B]? = some (.cells news.toArray 5 (0, 0))) (hS : S < w.heap.size) :
    Calls Tryd.prog 56 #[.pointer (some ⟨S, 0, none⟩), .slice (some ⟨B, 0, none⟩) k bc] w fun e w' => e = .returned (.tuple #[]) ∧ w'.cell? ⟨S, 2, none⟩ = some (.int .i64 (i - k : Nat)) ∧ Below S w w' := by
  obtain ⟨i0, hi0, hz0, hz1, hz2⟩ := info_parts info5
  have hc : ∀ j u, news[j]? = some u → w.cell? ((⟨B, 0, none⟩ : Addr).add j) = some u := by
    intro j u hu
    have ha : (⟨B, 0, none⟩ : Addr).add j = ⟨B, j, none⟩ := by unfold Addr.add; split <;> simp_all
    rw [ha, cell_of_row _ _ _ _ _ _ hB]
    simpa using hu
  have HC := Lib.hid hc
  have HN := Lib.hid hn
  have H1 := Lib.hid h1
  have S2 := Lib.hid s2
  have F2 := Lib.hid f2
  have F1 := Lib.hid f1
  have S1 := Lib.hid s1
  clear hc hn h1 hB
  have t1 : IntKind.i64.wrap ((i : Int) - k) = i - k := IntWalk.i64_in _ (by omega)
  go_enter Tryd.func56, Tryd.ntmps56
  go_wp2_with (at_builtin; refine wpList_append_own _ rfl _ _ 23 rfl w.heap.size 5 i0 (.int .u8 0) 1 1 Tryd.underlying23 hi0 hz0 hz1 hz2 rfl (by decide) (.slice none 0 0) 0 [] rfl (World.ownsRow_nil _ _ _ _) ⟨B, 0, none⟩ k bc news rfl (by rw [HN.out]; simp) HC.out H1.out (by unfold maxLen; omega) (by omega) (Nat.le_refl _) ?_; intro v' w1 hown hgrow _; (have hb : Below w.heap.size w w1 := (stp0 w).grown hgrow (Nat.le_refl _) (by intro k hk; cases hk)); (have c1 : w1.cell? ⟨S, 1, none⟩ = some (.slice none 0 0) := by rw [hb.cell (by exact hS)]; exact S1.out); (have c2 : w1.cell? ⟨S, 2, none⟩ = some (.int .i64 i) := by rw [hb.cell (by exact hS)]; exact S2.out); (have c3 : w1.frozen? ⟨S, 1, none⟩ = false := by rw [hb.frozen (by exact hS)]; exact F1.out); (have c4 : w1.frozen? ⟨S, 2, none⟩ = false := by rw [hb.frozen (by exact hS)]; exact F2.out); (obtain ⟨a', c', rfl⟩ := owned_slice hown); clear hown hgrow)
  go_returns
  have e0 : ((i - k : Nat) : Int) = i - k := by omega
  refine ⟨rfl, ?_, ?_⟩
  · rw [e0]
    refine cs_same (u := .int .i64 i) ?_
    rw [cs_other (by simp)]
    exact c2
  · exact ((hb.mono (Nat.le_of_lt hS)).setCell (by exact Nat.le_refl S) _).setCell (by exact Nat.le_refl S) _

theorem mk3 (w : World) : (Instr.makeSlice 23 (.int .i64 3) (.int .i64 3)).run Tryd.prog w = .ok (.slice (some ⟨w.heap.size, 0, none⟩) 3 3) (w.alloc (.cells #[.int .u8 0, .int .u8 0, .int .u8 0] 5)) := by kernel_rfl
theorem mk4 (w : World) : (Instr.makeSlice 23 (.int .i64 4) (.int .i64 4)).run Tryd.prog w = .ok (.slice (some ⟨w.heap.size, 0, none⟩) 4 4) (w.alloc (.cells #[.int .u8 0, .int .u8 0, .int .u8 0, .int .u8 0] 5)) := by kernel_rfl

theorem drop_cons (D : List Int) (i : Nat) (h : i < D.length) : D.drop i = D.getD i 0 :: D.drop (i + 1) := by
  rw [List.getD_eq_getElem?_getD, List.getElem?_eq_getElem h]
  exact List.drop_eq_getElem_cons h
theorem bytesOf3 (D : List Int) (i : Nat) (h : i + 3 ≤ D.length) : bytesOf D i 3 = [Value.int .u8 (D.getD i 0), .int .u8 (D.getD (i + 1) 0), .int .u8 (D.getD (i + 2) 0)] := by
  unfold bytesOf
  rw [drop_cons D i (by omega), drop_cons D (i + 1) (by omega), drop_cons D (i + 1 + 1) (by omega)]
  rfl
theorem bytesOf4 (D : List Int) (i : Nat) (h : i + 4 ≤ D.length) : bytesOf D i 4 = [Value.int .u8 (D.getD i 0), .int .u8 (D.getD (i + 1) 0), .int .u8 (D.getD (i + 2) 0), .int .u8 (D.getD (i + 3) 0)] := by
  unfold bytesOf
  rw [drop_cons D i (by omega), drop_cons D (i + 1) (by omega), drop_cons D (i + 1 + 1) (by omega), drop_cons D (i + 1 + 1 + 1) (by omega)]
  rfl

set_option maxHeartbeats 1000000 in
/-- Other bytes at the front: nothing is gone over. -/
theorem skip_none (S Q X cap : Nat) (D : List Int) (h3 : 3 ≤ D.length) (d0 : D.getD 0 0 = 255) (d1 : D.getD 1 0 = 251) (d2 : D.getD 2 0 = 144) (w : World) (h : Src w S Q X cap D 0) :
    Calls Tryd.prog 40 #[.pointer (some ⟨S, 0, none⟩)] w fun e w' => e = .returned .nilIface ∧ w'.cell? ⟨S, 2, none⟩ = some (.int .i64 0) ∧ Below Q w w' := by
  have hmk := fun wx => mk3 wx
  have hS := h.hS
  have H := Lib.hid h
  clear h
  go_enter Tryd.func40, Tryd.ntmps40
  go_wp2_with fail
  refine (srcRead_any S Q X w.heap.size 3 3 0 cap D [.int .u8 0, .int .u8 0, .int .u8 0] (by decide) (by omega) rfl (Nat.le_refl _) _ (H.out.below (stpA (stp0 w) _)) (heap_alloc_new w _) hS).mono ?_
  rintro e w1 ⟨rfl, hs1, hb1, hrow⟩
  rw [bytesOf3 D 0 (by omega), d0, d1, d2] at hrow
  have hcv := conv3 w1 w.heap.size 3 255 251 144 hrow
  have HROW := Lib.hid hrow
  have HB1 := Lib.hid hb1
  have HS1 := Lib.hid hs1
  clear hrow hb1 hs1
  go_wp2_with fail
  refine (unread_any S w.heap.size 3 3 3 [.int .u8 255, .int .u8 251, .int .u8 144] (by decide) (by decide) (by decide) rfl (by simp [Value.oneCell']) w1 HS1.out.buf HS1.out.pos (HS1.out.free 1) (HS1.out.free 2) HROW.out HS1.out.hS).mono ?_
  rintro e w2 ⟨rfl, hp, hb2⟩
  have HP := Lib.hid hp
  have hQS := HS1.out.hQS
  have hbb : Below Q w w2 := ((stpA (stp0 w) _).mono (by omega)).trans (HB1.out.trans (hb2.mono (by omega)))
  clear hp hb2
  go_wp2_with fail
  go_returns
  exact ⟨rfl, HP.out, hbb⟩
end Go.Proofs.YtppfldobgemddaaDoor
