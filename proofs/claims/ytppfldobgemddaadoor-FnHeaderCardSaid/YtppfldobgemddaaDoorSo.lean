/-
  The contract of (*source).ReadFull where nothing has been put back and all that is asked for is there.
-/
import Derived.Test.YtppfldobgemddaaDoorSr
namespace Go.Proofs.YtppfldobgemddaaDoor
open Go.RowKit
set_option linter.unusedVariables false

/-- A source in block S that reads by the reader in block Q, at place i. -/
structure Src (w : World) (S Q X cap : Nat) (D : List Int) (i : Nat) : Prop where
  rd : w.cell? ⟨S, 0, none⟩ = some (.iface 109 (.pointer (some ⟨Q, 0, none⟩)))
  buf : w.cell? ⟨S, 1, none⟩ = some (.slice none 0 0)
  pos : w.cell? ⟨S, 2, none⟩ = some (.int .i64 i)
  free : ∀ j, w.frozen? ⟨S, j, none⟩ = false
  rdr : Rdr w Q X cap D i
  hXQ : X < Q
  hQS : Q < S
  hS : S < w.heap.size

theorem ioFull_at (Q X B k bc i cap : Nat) (D : List Int) (cur : List Value) (hk : 1 ≤ k) (hik : i + k ≤ D.length) (hcur : cur.length = k) (hkb : k ≤ bc) (w w1 : World) (h : Rdr w Q X cap D i)
    (hQ : Q < B) (hX : X < B) (hB : w.heap[B]? = some (.cells cur.toArray 5 (0, 0))) (n : Nat) (hw : w1 = w.drewN n) :
    Calls Tryd.prog 76 #[.iface 109 (.pointer (some ⟨Q, 0, none⟩)), .slice (some ⟨B, 0, none⟩) k bc] w1 (Got w Q X B k i cap D) := by
  subst hw
  refine (ioFull_any Q X B k bc i cap D cur hk hik hcur hkb (w.drewN n) (rdr_drewN h n) hQ hX hB).mono ?_
  rintro e w' ⟨he, h1, h2, h3⟩
  exact ⟨he, h1, kept_drewN0 h2, h3⟩

/-- What a whole read of the source leaves. -/
def GotS (w : World) (S Q X B k i cap : Nat) (D : List Int) (e : Ending) (w' : World) : Prop :=
  e = .returned (.tuple #[.int .i64 k, .nilIface]) ∧ Src w' S Q X cap D (i + k) ∧ Below Q w w' ∧ w'.heap[B]? = some (.cells (bytesOf D i k).toArray 5 (0, 0))

set_option maxHeartbeats 1000000 in
theorem srcRead_core (S Q X B k bc i cap : Nat) (D : List Int) (cur : List Value) (hk : 1 ≤ k) (hik : i + k ≤ D.length) (hcur : cur.length = k) (hkb : k ≤ bc) (w : World) (h : Src w S Q X cap D i)
    (hB : w.heap[B]? = some (.cells cur.toArray 5 (0, 0))) (hSB : S < B) :
    Calls Tryd.prog 55 #[.pointer (some ⟨S, 0, none⟩), .slice (some ⟨B, 0, none⟩) k bc] w fun e w' => ∃ w1, e = .returned (.tuple #[.int .i64 k, .nilIface]) ∧ w' = w1.setCell ⟨S, 2, none⟩ (.int .i64 (i + k : Nat)) ∧ Rdr w1 Q X cap D (i + k) ∧ KeptBut w w1 Q B ∧ w1.heap[B]? = some (.cells (bytesOf D i k).toArray 5 (0, 0)) := by
  have hsm := h.rdr.small
  have s0 := h.rd
  have s1 := h.buf
  have s2 := h.pos
  have f2 := h.free 2
  have hQS := h.hQS
  have hXQ := h.hXQ
  have HR := Lib.hid h.rdr
  have HB := Lib.hid hB
  have S2 := Lib.hid s2
  have F2 := Lib.hid f2
  clear h hB
  have hk1 : (k : Int) ≤ bc := by omega
  go_enter Tryd.func55, Tryd.ntmps55
  go_wp2_with fail
  go_region_with (refine (ioFull_at Q X B k bc i cap D cur hk hik hcur hkb w _ HR.out (by omega) (by omega) HB.out _ (by first | rfl | (show _ = w.drewN 1; rfl) | (show _ = w.drewN 2; rfl) | (show _ = w.drewN 3; rfl) | (show _ = w.drewN 4; rfl) | (show _ = w.drewN 5; rfl) | (show _ = w.drewN 6; rfl))).mono ?_; rintro e w1 ⟨rfl, g1, g2, g3⟩)
  all_goals
    have c2 : w1.cell? ⟨S, 2, none⟩ = some (.int .i64 i) := by rw [World.cell?_of_block (a := ⟨S, 2, none⟩) (g2.block S hSB (by omega))]; exact S2.out
    have c3 : w1.frozen? ⟨S, 2, none⟩ = false := by rw [World.frozen?_of_block (a := ⟨S, 2, none⟩) (g2.block S hSB (by omega))]; exact F2.out
    have t1 : IntKind.i64.wrap ((i : Int) + k) = i + k := IntWalk.i64_in _ (by omega)
    have t2 : IntKind.i64.wrap ((k : Int) + 0) = k := by rw [Int.add_zero]; exact IntWalk.i64_in _ (by omega)
    go_wp2_with fail
    go_returns
    exact ⟨w1, rfl, by simp, g1, g2, g3⟩

theorem srcRead_any (S Q X B k bc i cap : Nat) (D : List Int) (cur : List Value) (hk : 1 ≤ k) (hik : i + k ≤ D.length) (hcur : cur.length = k) (hkb : k ≤ bc) (w : World) (h : Src w S Q X cap D i)
    (hB : w.heap[B]? = some (.cells cur.toArray 5 (0, 0))) (hSB : S < B) :
    Calls Tryd.prog 55 #[.pointer (some ⟨S, 0, none⟩), .slice (some ⟨B, 0, none⟩) k bc] w (GotS w S Q X B k i cap D) := by
  refine (srcRead_core S Q X B k bc i cap D cur hk hik hcur hkb w h hB hSB).mono ?_
  rintro e w' ⟨w1, rfl, rfl, hr, hkept, hrow⟩
  have hQS := h.hQS
  have hXQ := h.hXQ
  have eS := hkept.block S hSB (by omega)
  have c0 : w1.cell? ⟨S, 0, none⟩ = some (.iface 109 (.pointer (some ⟨Q, 0, none⟩))) := by rw [World.cell?_of_block (a := ⟨S, 0, none⟩) eS]; exact h.rd
  have c1 : w1.cell? ⟨S, 1, none⟩ = some (.slice none 0 0) := by rw [World.cell?_of_block (a := ⟨S, 1, none⟩) eS]; exact h.buf
  have c2 : w1.cell? ⟨S, 2, none⟩ = some (.int .i64 i) := by rw [World.cell?_of_block (a := ⟨S, 2, none⟩) eS]; exact h.pos
  have cf : ∀ j, w1.frozen? ⟨S, j, none⟩ = false := fun j => by rw [World.frozen?_of_block (a := ⟨S, j, none⟩) eS]; exact h.free j
  have hb1 : Below Q w w1 := hkept.below (Nat.le_refl _) (by omega)
  have hblk : ∀ b, b ≠ S → (w1.setCell ⟨S, 2, none⟩ (.int .i64 (i + k : Nat))).heap[b]? = w1.heap[b]? := fun b hb => heap_setCell_other _ _ _ _ (by exact hb)
  refine ⟨rfl, ⟨?_, ?_, ?_, ?_, ⟨?_, ?_, ?_, ?_, ?_, hr.small, hr.fits, hr.fits2, hr.apart⟩, hXQ, hQS, ?_⟩, ?_, ?_⟩
  · rw [cs_other (by simp)]; exact c0
  · rw [cs_other (by simp)]; exact c1
  · rw [cs_same c2]
  · intro j; rw [World.frozen?_setCell]; exact cf j
  · rw [World.cell?_of_block (a := ⟨Q, 0, none⟩) (hblk Q (by omega))]; exact hr.vec
  · rw [World.cell?_of_block (a := ⟨Q, 1, none⟩) (hblk Q (by omega))]; exact hr.at'
  · rw [World.cell?_of_block (a := ⟨Q, 2, none⟩) (hblk Q (by omega))]; exact hr.prev
  · intro j; rw [World.frozen?_setCell]; exact hr.free j
  · intro j hj; rw [World.cell?_of_block (a := ⟨X, j, none⟩) (hblk X (by omega))]; exact hr.cells j hj
  · have := h.hS; have := hkept.size; simp; omega
  · exact hb1.setCell (by show Q ≤ S; omega) _
  · rw [hblk B (by omega)]; exact hrow

theorem Src.drewN {w : World} {S Q X cap i : Nat} {D : List Int} (h : Src w S Q X cap D i) (n : Nat) : Src (w.drewN n) S Q X cap D i :=
  ⟨h.rd, h.buf, h.pos, h.free, rdr_drewN h.rdr n, h.hXQ, h.hQS, h.hS⟩
theorem Src.below {w w' : World} {S Q X cap i : Nat} {D : List Int} (h : Src w S Q X cap D i) (hb : Below w.heap.size w w') : Src w' S Q X cap D i := by
  have hQS := h.hQS
  have hXQ := h.hXQ
  have hS := h.hS
  have bS := hb.block S hS
  have bQ := hb.block Q (by omega)
  have bX := hb.block X (by omega)
  exact ⟨(World.cell?_of_block (a := ⟨S, 0, none⟩) bS).trans h.rd, (World.cell?_of_block (a := ⟨S, 1, none⟩) bS).trans h.buf, (World.cell?_of_block (a := ⟨S, 2, none⟩) bS).trans h.pos, fun j => (World.frozen?_of_block (a := ⟨S, j, none⟩) bS).trans (h.free j),
    ⟨(World.cell?_of_block (a := ⟨Q, 0, none⟩) bQ).trans h.rdr.vec, (World.cell?_of_block (a := ⟨Q, 1, none⟩) bQ).trans h.rdr.at', (World.cell?_of_block (a := ⟨Q, 2, none⟩) bQ).trans h.rdr.prev, fun j => (World.frozen?_of_block (a := ⟨Q, j, none⟩) bQ).trans (h.rdr.free j),
      fun j hj => (World.cell?_of_block (a := ⟨X, j, none⟩) bX).trans (h.rdr.cells j hj), h.rdr.small, h.rdr.fits, h.rdr.fits2, h.rdr.apart⟩, hXQ, hQS, Nat.lt_of_lt_of_le hS hb.size⟩

set_option maxHeartbeats 1000000 in
theorem srcRead_zero (S Q X bc i cap : Nat) (b : Option Addr) (D : List Int) (w : World) (h : Src w S Q X cap D i) (hi : i ≤ 1000000) :
    Calls Tryd.prog 55 #[.pointer (some ⟨S, 0, none⟩), .slice b 0 bc] w fun e w' => e = .returned (.tuple #[.int .i64 0, .nilIface]) ∧ w'.cell? ⟨S, 2, none⟩ = some (.int .i64 i) ∧ Below Q w w' := by
  have s0 := h.rd
  have s1 := h.buf
  have s2 := h.pos
  have f2 := h.free 2
  have hQS := h.hQS
  clear h
  have t1 : IntKind.i64.wrap ((i : Int) + 0) = i := by rw [Int.add_zero]; exact IntWalk.i64_in _ (by omega)
  go_enter Tryd.func55, Tryd.ntmps55
  go_wp2_with fail
  go_region_with (refine (ioFull_none _ _ _ _).mono ?_; rintro e w1 ⟨rfl, rfl⟩)
  all_goals
    go_wp2_with fail
    go_returns
    refine ⟨rfl, ?_, ?_⟩
    · show (w.setCell ⟨S, 2, none⟩ (.int .i64 i)).cell? _ = _
      rw [cs_same s2]
    · have hb : Below Q w (w.setCell ⟨S, 2, none⟩ (.int .i64 i)) := (Below.refl _ _).setCell (by exact Nat.le_of_lt hQS) _
      first | exact hb | exact hb.drew | exact hb.drew.drew | exact hb.drew.drew.drew
end Go.Proofs.YtppfldobgemddaaDoor
