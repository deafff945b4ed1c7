/-
  What the frame tells of a slice of bytes that came in, as the walks want it; Small facts on rows of bytes that a call makes and owns.
-/
import Derived.Test.YtppfldobgemddaaDoorMb
import Derived.RowKit
import Derived.OpenShut
import Derived.WalkSpells
namespace Go.Proofs.YtppfldobgemddaaDoor
open Go.RowKit
set_option linter.unusedVariables false

/-- What the frame tells of a slice of integers that came in. -/
def IsRowP (k : IntKind) (w : World) (a : Option Addr) (len cap : Nat) (zs : List Int) : Prop :=
  (a = none ∧ len = 0 ∧ cap = 0 ∧ zs = []) ∨
  ∃ x, a = some x ∧ len ≤ cap ∧ cap ≤ maxLen ∧ zs.length = cap ∧ (∀ i, i < zs.length → w.cell? (x.add i) = some (.int k (zs.getD i 0))) ∧ ∀ n ∈ zs, (Lit.int k n).wf = true
/-- What is known of a slice of bytes that came in: nil, or its cells. -/
def DataIn (w : World) (a : Option Addr) (D : List Int) (cap : Nat) : Prop :=
  (a = none ∧ D.length = 0 ∧ cap = 0) ∨ ∃ ad, a = some ad ∧ (D.length = 0 ∨ ad.block < w.heap.size) ∧ ∀ j u, (D.map (Value.int .u8))[j]? = some u → w.cell? (ad.add j) = some u
theorem add_block (a : Addr) (j : Nat) : (a.add j).block = a.block := by unfold Addr.add; split <;> rfl
theorem DataIn.below {w w' : World} {a : Option Addr} {D : List Int} {cap : Nat} (h : DataIn w a D cap) (hb : Below w.heap.size w w') :
    (a = none ∧ D.length = 0 ∧ cap = 0) ∨ ∃ ad, a = some ad ∧ ∀ j u, (D.map (Value.int .u8))[j]? = some u → w'.cell? (ad.add j) = some u := by
  rcases h with h | ⟨ad, rfl, hlt, hc⟩
  · exact .inl h
  · refine .inr ⟨ad, rfl, fun j u hu => ?_⟩
    have hj := (List.getElem?_eq_some_iff.1 hu).1
    simp at hj
    rw [hb.cell (by rw [add_block]; rcases hlt with h0 | h0; (· omega); (· exact h0))]
    exact hc j u hu

theorem isRow_dataIn {w : World} {a : Option Addr} {len cap : Nat} {zs : List Int} (h : IsRowP .u8 w a len cap zs) :
    ∃ D : List Int, D.length = len ∧ DataIn w a D cap ∧ ∀ n ∈ D, (Lit.int .u8 n).wf = true := by
  rcases h with ⟨rfl, rfl, rfl, rfl⟩ | ⟨x, rfl, hlc, hm, hz, hc, hwz⟩
  · exact ⟨[], rfl, .inl ⟨rfl, rfl, rfl⟩, by simp⟩
  · have hlen : (zs.take len).length = len := by simp; omega
    refine ⟨zs.take len, hlen, .inr ⟨x, rfl, ?_, fun j u hu => ?_⟩, fun n hn => hwz n (List.mem_of_mem_take hn)⟩
    · by_cases h0 : len = 0
      · exact .inl (by omega)
      · have h1 := hc 0 (by omega)
        have := block_lt_of_cell h1
        rw [add_block] at this
        exact .inr this
    · have hj := (List.getElem?_eq_some_iff.1 hu).1
      simp at hj
      rw [hc j (by omega), List.getD_eq_getElem?_getD]
      rw [List.getElem?_map, List.getElem?_take, if_pos (by omega)] at hu
      cases hd : zs[j]? with
      | none => rw [hd] at hu; simp at hu
      | some z => rw [hd] at hu; simpa using hu

def Bytes (D : List Int) : Prop := (∀ j, 0 ≤ D.getD j 0 ∧ D.getD j 0 ≤ 255) ∧ D.length ≤ 1000000
/-- What is known of a slice of bytes that came in: no element, or its cells. -/
def DataIs (w : World) (a : Option Addr) (D : List Int) : Prop :=
  D.length = 0 ∨ ∃ b off, a = some ⟨b, off, none⟩ ∧ b < w.heap.size ∧ ∀ j, j < D.length → w.cell? ⟨b, off + j, none⟩ = some (.int .u8 (D.getD j 0))

theorem DataIs.below {w w' : World} {a : Option Addr} {D : List Int} (h : DataIs w a D) (hb : Below w.heap.size w w') : DataIs w' a D := by
  rcases h with h | ⟨b, off, ha, hlt, hc⟩
  · exact .inl h
  · exact .inr ⟨b, off, ha, Nat.lt_of_lt_of_le hlt hb.size, fun j hj => (hb.cell (p := ⟨b, off + j, none⟩) hlt).trans (hc j hj)⟩
theorem isRow_data {w : World} {a : Option Addr} {len cap : Nat} {zs : List Int} (h : IsRowP .u8 w a len cap zs) (hl : len ≤ 1000000) :
    ∃ D : List Int, D.length = len ∧ Bytes D ∧ DataIs w a D ∧ (a = none → cap = 0) := by
  rcases h with ⟨rfl, rfl, rfl, rfl⟩ | ⟨x, rfl, hlc, hm, hz, hc, hwz⟩
  · exact ⟨[], rfl, ⟨fun j => by simp, by simp⟩, .inl rfl, fun _ => rfl⟩
  · have hlen : (zs.take len).length = len := by simp; omega
    have hget : ∀ j, j < len → (zs.take len).getD j 0 = zs.getD j 0 := by
      intro j hj
      rw [List.getD_eq_getElem?_getD, List.getElem?_take, if_pos hj, List.getD_eq_getElem?_getD]
    have hby : Bytes (zs.take len) := by
      refine ⟨fun j => ?_, by omega⟩
      by_cases hj : j < len
      · rw [hget j hj, List.getD_eq_getElem?_getD, List.getElem?_eq_getElem (by omega)]
        exact bounds_u8 (hwz _ (List.getElem_mem _))
      · rw [List.getD_eq_getElem?_getD, List.getElem?_eq_none (by omega)]; simp
    refine ⟨zs.take len, hlen, hby, ?_, (fun h => nomatch h)⟩
    · by_cases h0 : len = 0
      · exact .inl (by omega)
      · obtain ⟨b, off, spot⟩ := x
        have h1 := hc 0 (by omega)
        have hspot : spot = none := by simpa [Addr.add] using World.cell?_spot h1
        subst hspot
        have hadd : ∀ j, (⟨b, off, none⟩ : Addr).add j = ⟨b, off + j, none⟩ := fun j => by unfold Addr.add; split <;> simp_all
        refine .inr ⟨b, off, rfl, ?_, fun j hj => ?_⟩
        · have := block_lt_of_cell h1
          simpa [hadd] using this
        · rw [hget j (by omega), ← hadd]; exact hc j (by omega)

end Go.Proofs.YtppfldobgemddaaDoor
namespace Go.Proofs.YtppfldobgemddaaDoor
open Go.RowKit
set_option linter.unusedVariables false

theorem ownedGe {w : World} {base n size : Nat} {e : TypeId} {v : Value} {xs : List Value} (h : w.ownsRow base e size v n xs) {j : Nat} (hj : v.ownBlock = some j) : base ≤ j := (h.lt j hj).1
theorem newRow {w : World} {xs : List Value} : ∀ j u, xs[j]? = some u → (w.alloc (.cells xs.toArray 5)).cell? ((⟨w.heap.size, 0, none⟩ : Addr).add j) = some u := by
  intro j u hu
  have ha : (⟨w.heap.size, 0, none⟩ : Addr).add j = ⟨w.heap.size, j, none⟩ := by unfold Addr.add; split <;> simp_all
  rw [ha, World.cell?_alloc_new]
  simpa using hu
theorem ownedSome {w : World} {base n : Nat} {v : Value} {xs : List Value} (h : w.ownsRow base 5 1 v n xs) (hn : n ≠ 0) : ∃ g c, v = .slice (some ⟨g, 0, none⟩) n c ∧ base ≤ g := by
  rcases h.2 with ⟨_, h0⟩ | ⟨g, cap, cur, rfl, hb, _⟩
  · omega
  · exact ⟨g, cap, rfl, hb⟩
theorem ownedSlice {w : World} {base n : Nat} {v : Value} {xs : List Value} (h : w.ownsRow base 5 1 v n xs) : ∃ a c, v = .slice a n c := by
  rcases h.2 with ⟨rfl, h0⟩ | ⟨g, cap, cur, rfl, _, _⟩
  · exact ⟨none, 0, by rw [h0]⟩
  · exact ⟨_, _, rfl⟩
theorem ownedBytes {w : World} {base n c g : Nat} {zs : List Int} (h : w.ownsRow base 5 1 (.slice (some ⟨g, 0, none⟩) n c) n (zs.map (Value.int .u8))) : ∀ j, j < n → w.cell? ⟨g, 0 + j, none⟩ = some (.int .u8 (zs.getD j 0)) := by
  intro j hj
  have hl : zs.length = n := by have := h.1; simpa using this
  rw [Nat.zero_add, h.cellAt j (by omega), List.getD_eq_getElem?_getD]
  simp [hl, hj]
end Go.Proofs.YtppfldobgemddaaDoor
