/-
  A law for the walk: append of one element to a slice of the call's own: the slice behind it begins at the same block or at a new one.
-/
import Derived.Test.YtppfldobgemddaaDoorAid
import Derived.WalkSpells
namespace Go.Proofs.YtppfldobgemddaaDoor
open Go.RowKit
set_option linter.unusedVariables false

theorem append_apart {P : Program} {w : World} {ops : Array Oper} {rest : List Oper} {o : Oper} {a : Act} {Q : Exit → Act → World → Prop}
    (hgd : o.guard = none) (s x : Operand) (t : TypeId) (hop : o.op = Op.call { callee := Callee.builtin Builtin.append, args := #[s, x], argTypes := #[t, t] })
    (base : Nat) (e : TypeId) (i : TypeInfo) (z : Value) (bytes : Nat) (h1 : P.underlying t = some (.slice e)) (h2 : P.info? e = some i) (h3 : i.zero = some z) (h4 : i.size = 1) (h5 : i.bytes = bytes) (h6 : z.cells.size = 1)
    (g k cap : Nat) (xs : List Value) (hs : a.eval s = .slice (some ⟨g, 0, none⟩) k cap) (hown : w.ownsRow base e 1 (.slice (some ⟨g, 0, none⟩) k cap) k xs)
    (ad : Addr) (m c : Nat) (news : List Value) (hx : a.eval x = .slice (some ad) m c) (hm : 0 < m) (hn : news.length = m * 1) (hc : ∀ j u, news[j]? = some u → w.cell? (ad.add j) = some u) (h1c : ∀ u ∈ news, u.oneCell' = true)
    (b1 : k + m ≤ maxLen) (b2 : (k + m) * bytes ≤ 140737488355328) (hbase : base ≤ w.heap.size)
    (h : ∀ g' cap' w', w'.ownsRow base e 1 (.slice (some ⟨g', 0, none⟩) (k + m) cap') (k + m) (xs ++ news) → w.grownBy w' (some g) → (g' = g ∨ w.heap.size ≤ g') → wpList P ops Q rest (a.put o.dst (.slice (some ⟨g', 0, none⟩) (k + m) cap')) w') :
    wpList P ops Q (o :: rest) a w := by
  by_cases hroom : k + m ≤ cap
  · exact wpList_append_fits w hgd s x t hop base e i 1 h1 h2 h4 g k cap xs hs hown ad m c news hx hn hc h1c hroom fun w' ho hg => h g cap w' ho hg (.inl rfl)
  · refine wpList_append_grows w hgd s x t hop e i z 1 bytes h1 h2 h3 h4 h5 h6 (by decide) (some ⟨g, 0, none⟩) k cap xs hs (by intro hh; cases hh) hown.1 (fun b hb j u hu => ?_) ad m c news hx hn hc h1c (by omega) b1 b2 fun v' w' ho hg => ?_
    · injection hb with hb; subst hb
      exact hown.cells rfl j u hu
    · rcases ho.2 with ⟨_, h0⟩ | ⟨g', cap', cur, rfl, hge, hh, hrest⟩
      · omega
      · refine h g' cap' w' ⟨ho.1, .inr ⟨g', cap', cur, rfl, by omega, hh, hrest⟩⟩ ⟨hg.os, hg.tape, hg.output, hg.size, fun j hj _ => hg.block j hj (by simp)⟩ (.inr hge)
end Go.Proofs.YtppfldobgemddaaDoor
