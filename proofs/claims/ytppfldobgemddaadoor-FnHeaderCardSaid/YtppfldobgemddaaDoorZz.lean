/-
  The contract of (*zzSource).ReadFull (package frameheader) where all that is asked for is there (printed by wip/genzz.py).
-/
import Derived.Test.YtppfldobgemddaaDoorZs
namespace Go.Proofs.YtppfldobgemddaaDoor
open Go.RowKit
set_option linter.unusedVariables false


set_option maxRecDepth 100000 in
set_option maxHeartbeats 1000000 in
theorem zf_more (Z X B k bc i n c : Nat) (XS cur : List Value) (hk : 1 ≤ k) (hkn : k ≤ n) (hnc : n ≤ c) (hkc : k < c) (hc : c ≤ maxLen) (hcur : cur.length = k) (hkb : k ≤ bc) (hXl : XS.length = k) (hXo : ∀ v ∈ XS, v.oneCell' = true) (w : World)
    (q0 : w.cell? ⟨Z, 0, none⟩ = some (.slice (some ⟨X, i, none⟩) n c)) (f0 : w.frozen? ⟨Z, 0, none⟩ = false) (hZ : Z < B)
    (hB : w.heap[B]? = some (.cells cur.toArray 5 (0, 0))) (hXc : ∀ (j : Nat) (v : Value), XS[j]? = some v → w.cell? ((⟨X, i, none⟩ : Addr).add j) = some v) :
    Calls Tryd.prog 109 #[.pointer (some ⟨Z, 0, none⟩), .slice (some ⟨B, 0, none⟩) k bc] w fun e w' => ∃ w1 a, e = .returned (.tuple #[.int .i64 k, .nilIface]) ∧ w' = w1.setCell ⟨Z, 0, none⟩ (.slice a (n - k) (c - k)) ∧ (True → a = some ⟨X, i + k, none⟩) ∧ Below B w w1 ∧ w1.heap[B]? = some (.cells XS.toArray 5 (0, 0)) := by
  have HXc := Lib.hid hXc
  have HXl := Lib.hid hXl
  have HXo := Lib.hid hXo
  have HB := Lib.hid hB
  have HC := Lib.hid hcur
  have F0 := Lib.hid f0
  have Q0 := Lib.hid q0
  have hk2 : (k : Int) ≤ n := by omega
  have hk3 : (n : Int) ≤ c := by omega
  have hk4 : (k : Int) ≤ c := by omega
  have hk5 : ¬ c = k := by omega
  clear hXl hXo hXc hB hcur f0
  go_enter Tryd.func109, Tryd.ntmps109
  go_wp2_with (refine wpList_copy_splice rfl (.tmp 7) (.tmp 11) 23 23 rfl 5 Tryd.underlying23 (by kernel_rfl) (some ⟨B, 0, none⟩) (some ⟨X, i, none⟩) k bc n c rfl rfl B 0 cur 5 HB.out XS (by rw [HXl.out]; simp [Nat.min_def] <;> omega) (fun _ => ⟨rfl, _, rfl, HXc.out⟩) (by rw [HXl.out, HC.out]; omega) HXo.out B w (Below.refl _ _) (Nat.le_refl _) ?_; intro w3 HG hb3; (have g0 : w3.cell? ⟨Z, 0, none⟩ = some (.slice (some ⟨X, i, none⟩) n c) := by rw [hb3.cell (by exact hZ)]; exact Q0.out); (have g1 : w3.frozen? ⟨Z, 0, none⟩ = false := by rw [hb3.frozen (by exact hZ)]; exact F0.out); (have hl3 : XS.length = k := HXl.out); rw [hl3])
  go_returns
  refine ⟨_, _, rfl, rfl, fun _ => rfl, hb3, ?_⟩
  have h := HG.out
  have h3 : splice cur 0 XS = XS := by
    unfold splice
    rw [List.take_zero, List.nil_append, Nat.zero_add, List.drop_eq_nil_of_le (by rw [hl3, HC.out]; exact Nat.le_refl _), List.append_nil]
  rw [h3] at h
  exact h


set_option maxRecDepth 100000 in
set_option maxHeartbeats 1000000 in
theorem zf_last (Z X B k bc i  : Nat) (XS cur : List Value) (hk : 1 ≤ k) (hc : k ≤ maxLen) (hcur : cur.length = k) (hkb : k ≤ bc) (hXl : XS.length = k) (hXo : ∀ v ∈ XS, v.oneCell' = true) (w : World)
    (q0 : w.cell? ⟨Z, 0, none⟩ = some (.slice (some ⟨X, i, none⟩) k k)) (f0 : w.frozen? ⟨Z, 0, none⟩ = false) (hZ : Z < B)
    (hB : w.heap[B]? = some (.cells cur.toArray 5 (0, 0))) (hXc : ∀ (j : Nat) (v : Value), XS[j]? = some v → w.cell? ((⟨X, i, none⟩ : Addr).add j) = some v) :
    Calls Tryd.prog 109 #[.pointer (some ⟨Z, 0, none⟩), .slice (some ⟨B, 0, none⟩) k bc] w fun e w' => ∃ w1 a, e = .returned (.tuple #[.int .i64 k, .nilIface]) ∧ w' = w1.setCell ⟨Z, 0, none⟩ (.slice a 0 0) ∧ True ∧ Below B w w1 ∧ w1.heap[B]? = some (.cells XS.toArray 5 (0, 0)) := by
  have HXc := Lib.hid hXc
  have HXl := Lib.hid hXl
  have HXo := Lib.hid hXo
  have HB := Lib.hid hB
  have HC := Lib.hid hcur
  have F0 := Lib.hid f0
  have Q0 := Lib.hid q0
  skip
  skip
  skip
  skip
  clear hXl hXo hXc hB hcur f0
  go_enter Tryd.func109, Tryd.ntmps109
  go_wp2_with (refine wpList_copy_splice rfl (.tmp 7) (.tmp 11) 23 23 rfl 5 Tryd.underlying23 (by kernel_rfl) (some ⟨B, 0, none⟩) (some ⟨X, i, none⟩) k bc k k rfl rfl B 0 cur 5 HB.out XS (by rw [HXl.out]; simp [Nat.min_def] <;> omega) (fun _ => ⟨rfl, _, rfl, HXc.out⟩) (by rw [HXl.out, HC.out]; omega) HXo.out B w (Below.refl _ _) (Nat.le_refl _) ?_; intro w3 HG hb3; (have g0 : w3.cell? ⟨Z, 0, none⟩ = some (.slice (some ⟨X, i, none⟩) k k) := by rw [hb3.cell (by exact hZ)]; exact Q0.out); (have g1 : w3.frozen? ⟨Z, 0, none⟩ = false := by rw [hb3.frozen (by exact hZ)]; exact F0.out); (have hl3 : XS.length = k := HXl.out); rw [hl3])
  go_returns
  refine ⟨_, _, rfl, rfl, trivial, hb3, ?_⟩
  have h := HG.out
  have h3 : splice cur 0 XS = XS := by
    unfold splice
    rw [List.take_zero, List.nil_append, Nat.zero_add, List.drop_eq_nil_of_le (by rw [hl3, HC.out]; exact Nat.le_refl _), List.append_nil]
  rw [h3] at h
  exact h


theorem zfRead_any (Z X B k bc i cap : Nat) (D : List Int) (cur : List Value) (hk : 1 ≤ k) (hik : i + k ≤ D.length) (hcur : cur.length = k) (hkb : k ≤ bc) (w : World) (h : Zz w Z X cap D i)
    (hB : w.heap[B]? = some (.cells cur.toArray 5 (0, 0))) (hZB : Z < B) :
    Calls Tryd.prog 109 #[.pointer (some ⟨Z, 0, none⟩), .slice (some ⟨B, 0, none⟩) k bc] w fun e w' => e = .returned (.tuple #[.int .i64 k, .nilIface]) ∧ Zz w' Z X cap D (i + k) ∧ Below Z w w' ∧ w'.heap[B]? = some (.cells (bytesOf D i k).toArray 5 (0, 0)) := by
  obtain ⟨a, ha, hai⟩ := h.vec
  obtain rfl := hai (by have := h.fits; omega)
  have hXc := bytes_there w X i k D h.cells hik
  have hXl : (bytesOf D i k).length = k := by unfold bytesOf; simp; omega
  have hXo : ∀ v ∈ bytesOf D i k, v.oneCell' = true := by intro v hv; obtain ⟨z, _, rfl⟩ := List.mem_map.1 hv; rfl
  have hf := h.fits
  have hf2 := h.fits2
  by_cases hck : cap - i = k
  · have hn : D.length - i = k := by omega
    rw [hck, hn] at ha
    refine (zf_last Z X B k bc i (bytesOf D i k) cur hk (by omega) hcur hkb hXl hXo w ha (h.free 0) hZB hB hXc).mono ?_
    rintro e w' ⟨w1, a, rfl, rfl, _, hb, hrow⟩
    refine ⟨rfl, zz_left h hik hZB hb _ (by omega) (by omega) (by omega), (hb.mono (by omega)).setCell (by exact Nat.le_refl Z) _, ?_⟩
    rw [heap_setCell_other _ _ _ _ (by show B ≠ Z; omega)]; exact hrow
  · refine (zf_more Z X B k bc i (D.length - i) (cap - i) (bytesOf D i k) cur hk (by omega) (by omega) (by omega) (by omega) hcur hkb hXl hXo w ha (h.free 0) hZB hB hXc).mono ?_
    rintro e w' ⟨w1, a, rfl, rfl, ha', hb, hrow⟩
    obtain rfl := ha' trivial
    refine ⟨rfl, zz_left h hik hZB hb _ (by omega) (by omega) (fun _ => rfl), (hb.mono (by omega)).setCell (by exact Nat.le_refl Z) _, ?_⟩
    rw [heap_setCell_other _ _ _ _ (by show B ≠ Z; omega)]; exact hrow
end Go.Proofs.YtppfldobgemddaaDoor
