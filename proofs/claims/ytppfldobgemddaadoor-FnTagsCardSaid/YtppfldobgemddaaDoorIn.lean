/-
  What the frame tells of a slice of bytes that came in, as the walks want it.
-/
import Derived.Test.YtppfldobgemddaaDoorAid
namespace Go.Proofs.YtppfldobgemddaaDoor
open Go.RowKit
set_option linter.unusedVariables false

/-- What the frame tells of a slice of integers that came in. -/
def IsRowP (k : IntKind) (w : World) (a : Option Addr) (len cap : Nat) (zs : List Int) : Prop :=
  (a = none ∧ len = 0 ∧ cap = 0 ∧ zs = []) ∨
  ∃ x, a = some x ∧ len ≤ cap ∧ cap ≤ maxLen ∧ zs.length = cap ∧ (∀ i, i < zs.length → w.cell? (x.add i) = some (.int k (zs.getD i 0))) ∧ ∀ n ∈ zs, (Lit.int k n).wf = true
/-- What is known of a slice of bytes that came in: nil, or its cells. -/
def DataIn (w : World) (a : Option Addr) (D : List Int) (cap : Nat) : Prop :=
  (a = none ∧ D.length = 0 ∧ cap = 0) ∨ ∃ ad, a = some ad ∧ (D.length = 0 ∨ ad.block < w.heap.size) ∧ ∀ j u, (D.map (Value.int .u8))[j]? = some u → w.cell? (ad.add j) = some u
theorem add_block (a : Addr) (j : Nat) : (a.add j).block = a.block := by unfold Addr.add; split <;> rfl
theorem DataIn.below {w w' : World} {a : Option Addr} {D : List Int} {cap : Nat} (h : DataIn w a D cap) (hb : Below w.heap.size w w') :
    (a = none ∧ D.length = 0 ∧ cap = 0) ∨ ∃ ad, a = some ad ∧ ∀ j u, (D.map (Value.int .u8))[j]? = some u → w'.cell? (ad.add j) = some u := by
  rcases h with h | ⟨ad, rfl, hlt, hc⟩
  · exact .inl h
  · refine .inr ⟨ad, rfl, fun j u hu => ?_⟩
    have hj := (List.getElem?_eq_some_iff.1 hu).1
    simp at hj
    rw [hb.cell (by rw [add_block]; rcases hlt with h0 | h0; (· omega); (· exact h0))]
    exact hc j u hu

theorem isRow_dataIn {w : World} {a : Option Addr} {len cap : Nat} {zs : List Int} (h : IsRowP .u8 w a len cap zs) :
    ∃ D : List Int, D.length = len ∧ DataIn w a D cap ∧ ∀ n ∈ D, (Lit.int .u8 n).wf = true := by
  rcases h with ⟨rfl, rfl, rfl, rfl⟩ | ⟨x, rfl, hlc, hm, hz, hc, hwz⟩
  · exact ⟨[], rfl, .inl ⟨rfl, rfl, rfl⟩, by simp⟩
  · have hlen : (zs.take len).length = len := by simp; omega
    refine ⟨zs.take len, hlen, .inr ⟨x, rfl, ?_, fun j u hu => ?_⟩, fun n hn => hwz n (List.mem_of_mem_take hn)⟩
    · by_cases h0 : len = 0
      · exact .inl (by omega)
      · have h1 := hc 0 (by omega)
        have := block_lt_of_cell h1
        rw [add_block] at this
        exact .inr this
    · have hj := (List.getElem?_eq_some_iff.1 hu).1
      simp at hj
      rw [hc j (by omega), List.getD_eq_getElem?_getD]
      rw [List.getElem?_map, List.getElem?_take, if_pos (by omega)] at hu
      cases hd : zs[j]? with
      | none => rw [hd] at hu; simp at hu
      | some z => rw [hd] at hu; simpa using hu

end Go.Proofs.YtppfldobgemddaaDoor
