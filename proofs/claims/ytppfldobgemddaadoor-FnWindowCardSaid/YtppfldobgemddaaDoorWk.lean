/-
  The contracts of slices.Clone at words of 32 bits and of impl.Window.
-/
import Derived.Test.YtppfldobgemddaaDoorWj
import Derived.Test.YtppfldobgemddaaDoorRw
import Derived.Laws.OwnMore
namespace Go.Proofs.YtppfldobgemddaaDoor
open Go.RowKit
set_option linter.unusedVariables false

theorem info72 : (Tryd.prog.info? 72).map (fun i => (i.zero, i.size, i.bytes)) = some (some (.float .f32 0), 1, 4) := by kernel_rfl
def rowF (k : FloatKind) (x : Nat → Nat) (n : Nat) : List Value := (List.range n).map fun j => .float k (x j)
theorem rowF_len (k : FloatKind) (x : Nat → Nat) (n : Nat) : (rowF k x n).length = n := by simp [rowF]
theorem rowF_get {k : FloatKind} {x : Nat → Nat} {n j : Nat} {u : Value} (h : (rowF k x n)[j]? = some u) : j < n ∧ u = .float k (x j) := by
  have hj : j < n := by have := (List.getElem?_eq_some_iff.1 h).1; rwa [rowF_len] at this
  simp [rowF, hj] at h
  exact ⟨hj, h.symm⟩
theorem rowF_at (k : FloatKind) (x : Nat → Nat) (n j : Nat) (h : j < n) : (rowF k x n)[j]? = some (.float k (x j)) := by simp [rowF, h]
theorem rowF_one (k : FloatKind) (x : Nat → Nat) (n : Nat) : ∀ u ∈ rowF k x n, u.oneCell' = true := by
  intro u hu
  simp [rowF] at hu
  obtain ⟨j, _, rfl⟩ := hu
  rfl
theorem rowF_cells {k : FloatKind} {x : Nat → Nat} {n bi : Nat} {w : World} (hx : ∀ j, j < n → w.cell? ⟨bi, j, none⟩ = some (.float k (x j))) (o : Obj) :
    ∀ j u, (rowF k x n)[j]? = some u → (w.alloc o).cell? ((⟨bi, 0, none⟩ : Addr).add j) = some u := by
  intro j u hu
  obtain ⟨hj, rfl⟩ := rowF_get hu
  have ha : (⟨bi, 0, none⟩ : Addr).add j = ⟨bi, j, none⟩ := by unfold Addr.add; split <;> simp_all
  have h1 := hx j hj
  rw [ha, World.cell?_alloc_past _ _ _ (block_lt_of_cell h1)]
  exact h1
theorem ownedSomeT {w : World} {base n : Nat} {T : TypeId} {v : Value} {xs : List Value} (h : w.ownsRow base T 1 v n xs) (hn : n ≠ 0) : ∃ g c, v = .slice (some ⟨g, 0, none⟩) n c ∧ base ≤ g := by
  rcases h.2 with ⟨_, h0⟩ | ⟨g, cap, cur, rfl, hb, _⟩
  · omega
  · exact ⟨g, cap, rfl, hb⟩
/-- A copy of words of 32 bits in a block of the call's own. -/
def Copied (n : Nat) (x : Nat → Nat) (w : World) (e : Ending) (w' : World) : Prop :=
  ∃ g cp, e = .returned (.slice (some ⟨g, 0, none⟩) n cp) ∧ w.heap.size ≤ g ∧ g < w'.heap.size ∧ (∀ j, j < n → w'.cell? ⟨g, j, none⟩ = some (.float .f32 (x j))) ∧ Below w.heap.size w w'

set_option maxRecDepth 100000 in
set_option maxHeartbeats 1000000 in
theorem clone32_any (bi n c : Nat) (x : Nat → Nat) (w : World) (hn : 0 < n) (hn2 : n ≤ 100) (hx : ∀ j, j < n → w.cell? ⟨bi, j, none⟩ = some (.float .f32 (x j))) :
    Calls Tryd.prog 34 #[.slice (some ⟨bi, 0, none⟩) n c] w (Copied n x w) := by
  obtain ⟨i0, hi, hz0, hz1, hz2⟩ := info_parts info72
  have H0 : (w.alloc (.cells #[] 72)).ownsRow w.heap.size 72 1 (.slice (some ⟨w.heap.size, 0, none⟩) 0 0) 0 [] := World.ownsRow_made w #[] 0 (Nat.le_refl _) (by unfold maxLen; omega) rfl
  have HC := Lib.hid (rowF_cells hx (.cells #[] 72))
  have HM := Lib.hid (show 0 + n ≤ maxLen by unfold maxLen; omega)
  have HL := Lib.hid (show (rowF .f32 x n).length = n * 1 by simp [rowF])
  clear hx
  have hq := fun wx => Lib.run_eql_slice_nil (P := Tryd.prog) (w := wx) (t := 54)
  go_enter Tryd.func34, Tryd.ntmps34
  go_wp2_with (at_builtin; refine wpList_append_own _ rfl _ _ 54 rfl w.heap.size 72 i0 (.float .f32 0) 1 4 Tryd.underlying54 hi hz0 hz1 hz2 rfl (by decide) (.slice (some ⟨w.heap.size, 0, none⟩) 0 0) 0 [] rfl H0 ⟨bi, 0, none⟩ n c (rowF .f32 x n) rfl HL.out HC.out (rowF_one _ _ _) HM.out (by omega) (by simp) ?_; intro v' w1 hown hgrow _)
  go_returns
  simp only [List.nil_append, Nat.zero_add] at hown
  obtain ⟨g, cp, rfl, hge⟩ := ownedSomeT hown (by omega)
  refine ⟨g, cp, rfl, hge, (hown.lt g rfl).2, fun j hj => ?_, (stpA (stp0 w) _).grown hgrow (by simp) (by intro k hk; cases hk; exact Nat.le_refl _)⟩
  rw [hown.cellAt j (by omega)]
  exact rowF_at _ _ _ _ hj

set_option maxRecDepth 100000 in
set_option maxHeartbeats 1000000 in
/-- impl.Window: what Win makes, copied. -/
theorem window_of (b : Nat) (x Y : Nat → Nat) (hwin : ∀ bi c w, Tabs w → bi < w.heap.size → (∀ j, j < 18 → w.cell? ⟨bi, j, none⟩ = some (.float .f32 (x j))) → Calls Tryd.prog 35 #[.slice (some ⟨bi, 0, none⟩) 18 c, .int .i64 b] w (Told36 Y w))
    (bi c : Nat) (w : World) (hT : Tabs w) (hx : ∀ j, j < 18 → w.cell? ⟨bi, j, none⟩ = some (.float .f32 (x j))) :
    Calls Tryd.prog 18 #[.slice (some ⟨bi, 0, none⟩) 18 c, .int .i64 b] w (Copied 36 Y w) := by
  have HX := Lib.hid hx
  have HW := Lib.hid hwin
  clear hx hwin
  go_enter Tryd.func18, Tryd.ntmps18
  go_wp2_with fail
  refine (clone32_any _ _ _ x _ (by decide) (by decide) HX.out).mono ?_
  rintro e w1 ⟨g, cp, rfl, hge, hlt, hc, hb⟩
  have HC := Lib.hid hc
  have HB := Lib.hid hb
  clear hc hb
  go_wp2_with fail
  refine (HW.out g cp _ (hT.below HB.out) hlt HC.out).mono ?_
  rintro e w2 ⟨g2, rfl, hge2, ht2, hb2⟩
  have HB2 := Lib.hid (stp HB.out hb2)
  have HC2 : Hid (∀ j, j < 36 → w2.cell? ⟨g2, j, none⟩ = some (.float .f32 (Y j))) := Lib.hid fun j hj => by
    obtain ⟨v, hv, hp⟩ := ht2.cell j hj
    rw [hv, hp hj]
  clear ht2 hb2
  go_wp2_with fail
  refine (clone32_any _ _ _ Y _ (by decide) (by decide) HC2.out).mono ?_
  rintro e w3 ⟨g3, cp3, rfl, hge3, hlt3, hc3, hb3⟩
  have HC3 := Lib.hid hc3
  have HB3 := Lib.hid hb3
  have hsz := HB2.out.size
  clear hc3 hb3
  go_wp2_with fail
  go_ret
  exact ⟨_, _, rfl, by omega, hlt3, HC3.out, stp HB2.out HB3.out⟩
end Go.Proofs.YtppfldobgemddaaDoor
