/-
  A source over bytes (zzSource): what it holds, and what a read leaves of it.
-/
import Derived.Test.YtppfldobgemddaaDoorRd
namespace Go.Proofs.YtppfldobgemddaaDoor
open Go.RowKit
set_option linter.unusedVariables false

/-- A source in block Z: what is left of the bytes D in block X from place i on. -/
structure Zz (w : World) (Z X cap : Nat) (D : List Int) (i : Nat) : Prop where
  vec : ∃ a, w.cell? ⟨Z, 0, none⟩ = some (.slice a (D.length - i) (cap - i)) ∧ (i < cap → a = some ⟨X, i, none⟩)
  free : ∀ j, w.frozen? ⟨Z, j, none⟩ = false
  cells : ∀ j, j < D.length → w.cell? ⟨X, j, none⟩ = some (.int .u8 (D.getD j 0))
  small : D.length ≤ 1000000
  fits : D.length ≤ cap
  fits2 : cap ≤ maxLen
  hXZ : X < Z
  hZ : Z < w.heap.size

theorem Zz.below {w w' : World} {Z X cap i : Nat} {D : List Int} (h : Zz w Z X cap D i) (hb : Below w.heap.size w w') : Zz w' Z X cap D i := by
  have hZ := h.hZ
  have hX := h.hXZ
  have bZ := hb.block Z hZ
  have bX := hb.block X (by omega)
  obtain ⟨a, ha, hi⟩ := h.vec
  exact ⟨⟨a, (World.cell?_of_block (a := ⟨Z, 0, none⟩) bZ).trans ha, hi⟩, fun j => (World.frozen?_of_block (a := ⟨Z, j, none⟩) bZ).trans (h.free j),
    fun j hj => (World.cell?_of_block (a := ⟨X, j, none⟩) bX).trans (h.cells j hj), h.small, h.fits, h.fits2, hX, Nat.lt_of_lt_of_le hZ hb.size⟩

theorem bytes_there (w : World) (X i k : Nat) (D : List Int) (hc : ∀ j, j < D.length → w.cell? ⟨X, j, none⟩ = some (.int .u8 (D.getD j 0))) (hik : i + k ≤ D.length) :
    ∀ (j : Nat) (v : Value), (bytesOf D i k)[j]? = some v → w.cell? ((⟨X, i, none⟩ : Addr).add j) = some v := by
  intro j v hv
  have ha : (⟨X, i, none⟩ : Addr).add j = ⟨X, i + j, none⟩ := by unfold Addr.add; split <;> simp_all
  have hXl : (bytesOf D i k).length = k := by unfold bytesOf; simp; omega
  have hj : j < k := by rw [← hXl]; exact (List.getElem?_eq_some_iff.1 hv).1
  rw [ha, hc (i + j) (by omega), List.getD_eq_getElem?_getD]
  unfold bytesOf at hv
  rw [List.getElem?_map, List.getElem?_take, if_pos (by omega), List.getElem?_drop] at hv
  cases hd : D[i + j]? with
  | none => rw [hd] at hv; simp at hv
  | some z => rw [hd] at hv; simpa using hv

/-- What a read leaves of the source. -/
theorem zz_left {w w1 : World} {Z X B cap i k l c : Nat} {D : List Int} (h : Zz w Z X cap D i) (hik : i + k ≤ D.length) (hZB : Z < B) (hb : Below B w w1) (a : Option Addr) (hl : l = D.length - (i + k)) (hc : c = cap - (i + k)) (ha : i + k < cap → a = some ⟨X, i + k, none⟩) :
    Zz (w1.setCell ⟨Z, 0, none⟩ (.slice a l c)) Z X cap D (i + k) := by
  subst hl
  subst hc
  obtain ⟨a0, h0, _⟩ := h.vec
  have hX := h.hXZ
  have hZ := h.hZ
  have bZ := hb.block Z hZB
  have bX := hb.block X (by omega)
  refine ⟨⟨a, ?_, ha⟩, fun j => ?_, fun j hj => ?_, h.small, h.fits, h.fits2, hX, ?_⟩
  · exact cs_same ((World.cell?_of_block (a := ⟨Z, 0, none⟩) bZ).trans h0)
  · rw [World.frozen?_setCell, World.frozen?_of_block (a := ⟨Z, j, none⟩) bZ]; exact h.free j
  · rw [cs_other (by intro e; injection e with e; omega), World.cell?_of_block (a := ⟨X, j, none⟩) bX]; exact h.cells j hj
  · have := hb.size; simp; omega
end Go.Proofs.YtppfldobgemddaaDoor
