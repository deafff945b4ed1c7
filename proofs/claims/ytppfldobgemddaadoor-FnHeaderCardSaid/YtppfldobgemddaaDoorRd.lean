/-
  The contract of (*bytes.Reader).Read where all that is asked for is there.
-/
import Derived.Test.YtppfldobgemddaaDoorRows
import Derived.Test.YtppfldobgemddaaDoorAid
import Derived.WalkSpells
import Derived.Handy
import Derived.Laws.CopyOwn
import Derived.Deep.QuietTactic
import Derived.BigQuiet
import Derived.Deep.RegionHeld3
namespace Go.Proofs.YtppfldobgemddaaDoor
open Go.RowKit
set_option linter.unusedVariables false

def bytesOf (D : List Int) (i k : Nat) : List Value := ((D.drop i).take k).map (Value.int .u8)

set_option maxHeartbeats 1000000 in
theorem read_core (Q X B k bc i cap : Nat) (D : List Int) (cur : List Value) (hL : D.length ≤ 1000000) (hk : 1 ≤ k) (hik : i + k ≤ D.length) (hcap : D.length ≤ cap) (hcap2 : cap ≤ maxLen) (hcur : cur.length = k) (hkb : k ≤ bc) (w : World)
    (q0 : w.cell? ⟨Q, 0, none⟩ = some (.slice (some ⟨X, 0, none⟩) D.length cap)) (q1 : w.cell? ⟨Q, 1, none⟩ = some (.int .i64 i)) (q2 : w.cell? ⟨Q, 2, none⟩ = some (.int .i64 (-1)))
    (f1 : w.frozen? ⟨Q, 1, none⟩ = false) (f2 : w.frozen? ⟨Q, 2, none⟩ = false) (hQ : Q < B) (hX : X < B) (hQX : X ≠ Q)
    (hB : w.heap[B]? = some (.cells cur.toArray 5 (0, 0))) (hc : ∀ j, j < D.length → w.cell? ⟨X, j, none⟩ = some (.int .u8 (D.getD j 0))) :
    Calls Tryd.prog 108 #[.pointer (some ⟨Q, 0, none⟩), .slice (some ⟨B, 0, none⟩) k bc] w fun e w' => ∃ w1, e = .returned (.tuple #[.int .i64 k, .nilIface]) ∧ w' = w1.setCell ⟨Q, 1, none⟩ (.int .i64 (i + k : Nat)) ∧ (∃ nq, Below B ((w.drewN nq).setCell ⟨Q, 2, none⟩ (.int .i64 (-1))) w1) ∧ w1.heap[B]? = some (.cells (bytesOf D i k).toArray 5 (0, 0)) := by
  obtain ⟨XS, hXS⟩ : ∃ XS, XS = bytesOf D i k := ⟨_, rfl⟩
  have hXl : XS.length = k := by rw [hXS]; unfold bytesOf; simp; omega
  have hXo : ∀ v ∈ XS, v.oneCell' = true := by rw [hXS]; intro v hv; obtain ⟨z, _, rfl⟩ := List.mem_map.1 hv; rfl
  have hXc : ∀ (nq : Nat) (j : Nat) (v : Value), XS[j]? = some v → ((w.drewN nq).setCell ⟨Q, 2, none⟩ (.int .i64 (-1))).cell? ((⟨X, i, none⟩ : Addr).add j) = some v := by
    intro nq j v hv
    have ha : (⟨X, i, none⟩ : Addr).add j = ⟨X, i + j, none⟩ := by unfold Addr.add; split <;> simp_all
    have hj : j < XS.length := (List.getElem?_eq_some_iff.1 hv).1
    have hne : (⟨Q, 2, none⟩ : Addr) ≠ ⟨X, i + j, none⟩ := by intro h; injection h with h; exact hQX h.symm
    rw [ha, cs_other hne]
    show w.cell? _ = _
    rw [hc (i + j) (by omega), List.getD_eq_getElem?_getD]
    rw [hXS] at hv
    unfold bytesOf at hv
    rw [List.getElem?_map, List.getElem?_take, if_pos (by omega), List.getElem?_drop] at hv
    cases hd : D[i + j]? with
    | none => rw [hd] at hv; simp at hv
    | some z => rw [hd] at hv; simpa using hv
  have HX := Lib.hid hXS
  have HXc := Lib.hid hXc
  have HXl := Lib.hid hXl
  have HXo := Lib.hid hXo
  have HB := Lib.hid hB
  have HC := Lib.hid hcur
  have hk1 : (i : Int) < D.length := by omega
  have hk2 : (i : Int) < cap := by omega
  have hk3 : (D.length : Int) ≤ cap := by omega
  have hk4 : i ≤ D.length := by omega
  have hk5 : ¬ cap = i := by omega
  clear hXS hXc hXl hXo hc hB hcur
  go_enter Tryd.func108, Tryd.ntmps108
  go_wp2_with fail
  go_quiet (fail)
  go_wp2_with fail
  have e0 : ((w.drewN nq).setCell ⟨Q, 2, none⟩ (.int .i64 (-1))).cell? ⟨Q, 0, none⟩ = some (.slice (some ⟨X, 0, none⟩) D.length cap) := by rw [cs_other (by simp)]; exact q0
  have e1 : ((w.drewN nq).setCell ⟨Q, 2, none⟩ (.int .i64 (-1))).cell? ⟨Q, 1, none⟩ = some (.int .i64 i) := by rw [cs_other (by simp)]; exact q1
  have ef : ((w.drewN nq).setCell ⟨Q, 2, none⟩ (.int .i64 (-1))).frozen? ⟨Q, 1, none⟩ = false := by rw [World.frozen?_setCell]; exact f1
  have eb : ((w.drewN nq).setCell ⟨Q, 2, none⟩ (.int .i64 (-1))).heap[B]? = some (.cells cur.toArray 5 (0, 0)) := by rw [heap_setCell_other _ _ _ _ (by show B ≠ Q; omega)]; exact HB.out
  have hx : ∀ j v, XS[j]? = some v → ((w.drewN nq).setCell ⟨Q, 2, none⟩ (.int .i64 (-1))).cell? ((⟨X, i, none⟩ : Addr).add j) = some v := HXc.out nq
  have HXd := Lib.hid hx
  have EB := Lib.hid eb
  clear hx HXc q0 q1 q2 f1 f2 eb HB
  have hbz : Below B ((w.drewN nq).setCell ⟨Q, 2, none⟩ (.int .i64 (-1))) ((w.drewN nq).setCell ⟨Q, 2, none⟩ (.int .i64 (-1))) := Below.refl _ _
  have E1 := Lib.hid e1
  have EF := Lib.hid ef
  have HW2 : Hid (∃ n, (w.drewN nq).setCell ⟨Q, 2, none⟩ (.int .i64 (-1)) = (w.drewN n).setCell ⟨Q, 2, none⟩ (.int .i64 (-1))) := Lib.hid ⟨nq, rfl⟩
  generalize (w.drewN nq).setCell ⟨Q, 2, none⟩ (.int .i64 (-1)) = w2 at *
  go_region_law (refine step_copy_splice rfl _ _ 23 23 rfl 5 Tryd.underlying23 (by kernel_rfl) (some ⟨B, 0, none⟩) (some ⟨X, i, none⟩) k bc (D.length - i) (cap - i) rfl rfl B 0 cur 5 EB.out XS (by rw [HXl.out]; simp [Nat.min_def]; omega) (fun _ => ⟨rfl, _, rfl, HXd.out⟩) (by rw [HXl.out, HC.out]; omega) HXo.out B w2 (by exact hbz.drew) (Nat.le_refl _) ?_; intro w3 HG hb3)
  all_goals
    have g1 : w3.cell? ⟨Q, 1, none⟩ = some (.int .i64 i) := by rw [hb3.cell (by exact hQ)]; exact E1.out
    have g2 : w3.frozen? ⟨Q, 1, none⟩ = false := by rw [hb3.frozen (by exact hQ)]; exact EF.out
    have t1 : IntKind.i64.wrap ((i : Int) + k) = i + k := IntWalk.i64_in _ (by omega)
    have HXl' : XS.length = k := HXl.out
    go_wp2_with fail
    go_returns
    refine ⟨_, rfl, by simp; rfl, ?_, ?_⟩
    · obtain ⟨n, hn⟩ := HW2.out
      exact ⟨n, by rw [← hn]; exact hb3⟩
    · have h := HG.out
      have h3 : splice cur 0 XS = bytesOf D i k := by
        unfold splice
        rw [List.take_zero, List.nil_append, Nat.zero_add, List.drop_eq_nil_of_le (by rw [HXl', HC.out]; exact Nat.le_refl _), List.append_nil, HX.out]
      rw [h3] at h
      exact h

/-- A reader in block Q over the bytes D in block X, at place i. -/
structure Rdr (w : World) (Q X cap : Nat) (D : List Int) (i : Nat) : Prop where
  vec : w.cell? ⟨Q, 0, none⟩ = some (.slice (some ⟨X, 0, none⟩) D.length cap)
  at' : w.cell? ⟨Q, 1, none⟩ = some (.int .i64 i)
  prev : w.cell? ⟨Q, 2, none⟩ = some (.int .i64 (-1))
  free : ∀ j, w.frozen? ⟨Q, j, none⟩ = false
  cells : ∀ j, j < D.length → w.cell? ⟨X, j, none⟩ = some (.int .u8 (D.getD j 0))
  small : D.length ≤ 1000000
  fits : D.length ≤ cap
  fits2 : cap ≤ maxLen
  apart : X ≠ Q

/-- What is kept: all blocks below B but Q. -/
structure KeptBut (w w' : World) (Q B : Nat) : Prop where
  os : w'.os = w.os
  tape : w'.tape = w.tape
  output : w'.output = w.output
  size : w.heap.size ≤ w'.heap.size
  block : ∀ b, b < B → b ≠ Q → w'.heap[b]? = w.heap[b]?

theorem KeptBut.below {w w' : World} {Q B base : Nat} (h : KeptBut w w' Q B) (h1 : base ≤ Q) (h2 : base ≤ B) : Below base w w' :=
  ⟨h.os, h.tape, h.output, h.size, fun k hk => h.block k (by omega) (by omega)⟩

theorem read_any (Q X B k bc i cap : Nat) (D : List Int) (cur : List Value) (hk : 1 ≤ k) (hik : i + k ≤ D.length) (hcur : cur.length = k) (hkb : k ≤ bc) (w : World) (h : Rdr w Q X cap D i)
    (hQ : Q < B) (hX : X < B) (hB : w.heap[B]? = some (.cells cur.toArray 5 (0, 0))) :
    Calls Tryd.prog 108 #[.pointer (some ⟨Q, 0, none⟩), .slice (some ⟨B, 0, none⟩) k bc] w fun e w' => e = .returned (.tuple #[.int .i64 k, .nilIface]) ∧ Rdr w' Q X cap D (i + k) ∧ KeptBut w w' Q B ∧ w'.heap[B]? = some (.cells (bytesOf D i k).toArray 5 (0, 0)) := by
  refine (read_core Q X B k bc i cap D cur h.small hk hik h.fits h.fits2 hcur hkb w h.vec h.at' h.prev (h.free 1) (h.free 2) hQ hX h.apart hB h.cells).mono ?_
  rintro e w' ⟨w1, rfl, rfl, ⟨n, hb⟩, hrow⟩
  have hblk : ∀ b, b < B → b ≠ Q → (w1.setCell ⟨Q, 1, none⟩ (.int .i64 (i + k : Nat))).heap[b]? = w.heap[b]? := fun b h1 h2 => by
    rw [heap_setCell_other _ _ _ _ (by exact h2), hb.block b h1, heap_setCell_other _ _ _ _ (by exact h2)]; rfl
  have c0 : w1.cell? ⟨Q, 0, none⟩ = some (.slice (some ⟨X, 0, none⟩) D.length cap) := by
    rw [hb.cell (by exact hQ), cs_other (by simp)]; exact h.vec
  have c1 : w1.cell? ⟨Q, 1, none⟩ = some (.int .i64 i) := by
    rw [hb.cell (by exact hQ), cs_other (by simp)]; exact h.at'
  have c2 : w1.cell? ⟨Q, 2, none⟩ = some (.int .i64 (-1)) := by
    rw [hb.cell (by exact hQ), cs_same (u := .int .i64 (-1)) (by exact h.prev)]
  refine ⟨rfl, ⟨?_, ?_, ?_, fun j => ?_, fun j hj => ?_, h.small, h.fits, h.fits2, h.apart⟩, ⟨hb.os, hb.tape, hb.output, ?_, hblk⟩, ?_⟩
  · rw [cs_other (by simp)]; exact c0
  · rw [cs_same c1]
  · rw [cs_other (by simp)]; exact c2
  · rw [World.frozen?_setCell, hb.frozen (by exact hQ), World.frozen?_setCell]; exact h.free j
  · rw [World.cell?_of_block (a := ⟨X, j, none⟩) (hblk X hX h.apart)]; exact h.cells j hj
  · have := hb.size; simp at this ⊢; omega
  · rw [heap_setCell_other _ _ _ _ (by show B ≠ Q; omega)]; exact hrow
end Go.Proofs.YtppfldobgemddaaDoor
