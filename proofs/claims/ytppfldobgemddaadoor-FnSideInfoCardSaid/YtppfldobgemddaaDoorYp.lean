/-
  The table of the package, as the row's list lays it, is what the walk wants.
-/
import Derived.Test.YtppfldobgemddaaDoorMl
import Derived.ProofKit
import Derived.OpenShut
import Derived.Lay
import Derived.LaidMore
import Derived.LaidLaws
namespace Go.Proofs.YtppfldobgemddaaDoor
open Go.ChangeShapes Go.WideShapes Go.ChangeAt Go.RowKit
set_option linter.unusedVariables false

theorem trod_num {H : Type} {enc : TypeId × Value → H} {P : Program} {w : World} {base : Nat} {spare : Nat → Bool} {held : Bool} {fuel : Nat} {t : TypeId} {cs : List Value} {x : DataW H × List MemPlace} {k : IntKind}
    (ht : P.underlying t = some (.int k)) (h : DataW.trod enc P w base spare held fuel t cs = some x) : ∃ n, cs = [.int k n] ∧ x = (.lit (.int k n), []) := by
  cases fuel with
  | zero => simp [DataW.trod] at h
  | succ n =>
    unfold DataW.trod at h
    rw [ht] at h
    split at h <;> simp_all
def bitsZ : List Int := [9, 5, 3, 4]
set_option maxRecDepth 100000 in
theorem bits_of {W : World} (h : laidMetH Tryd.prog Rows.fnSideInfoRow.laid W) : BitsTab W := by
  rw [MakeChecks.laidMetH_plain _ _ _ (by kernel_rfl)] at h
  obtain ⟨ps, ⟨_, _, _, _, _, _, _, _, _, _, ⟨g', t', cs', fuel', p', q', hg', ht', hv', hd', _⟩, _⟩, _, _⟩ := h
  obtain rfl := Option.some.inj ((show Tryd.prog.globalNamed "loop.example/pub-g03435/pub/mp3sideinfo.sideInfoBitsToRead" = some 2 by kernel_rfl).symm.trans hg')
  obtain rfl := Option.some.inj ((show (Tryd.prog.globals[2]?).map (·.type) = some 40 by kernel_rfl).symm.trans ht')
  have hd2 : DataW.trod (fun _ => ()) Tryd.prog W 0 (fun _ => true) false fuel' 40 cs'.toList = some (.agg [.agg (bitsZ.map fun z => .lit (.int .i64 z)), .agg [.lit (.int .i64 8), .lit (.int .i64 1), .lit (.int .i64 2), .lit (.int .i64 9)]], p') := hd'
  obtain ⟨xs, m, _, ex, _, hl, hel⟩ := DataW.trod_array Tryd.underlying40 hd2
  have c39 : Tryd.prog.cellsOf 39 = 4 := by kernel_rfl
  have c3 : Tryd.prog.cellsOf 3 = 1 := by kernel_rfl
  have hE := hel 0 (by decide)
  rw [c39, Nat.zero_mul, List.drop_zero, List.getElem?_eq_getElem (by omega)] at hE
  have e3 : (xs.map (·.1)) = [.agg (bitsZ.map fun z => .lit (.int .i64 z)), .agg [.lit (.int .i64 8), .lit (.int .i64 1), .lit (.int .i64 2), .lit (.int .i64 9)]] := (DataW.agg.inj (Prod.mk.inj ex).1).symm
  have e4 : (xs[0]'(by omega)).1 = .agg (bitsZ.map fun z => .lit (.int .i64 z)) := by
    have : (xs.map (·.1))[0]? = some (.agg (bitsZ.map fun z => .lit (.int .i64 z))) := by rw [e3]; rfl
    rw [List.getElem?_map, List.getElem?_eq_getElem (by omega : 0 < xs.length)] at this
    exact Option.some.inj this
  obtain ⟨y, hy⟩ : ∃ y, y = xs[0]'(by omega) := ⟨_, rfl⟩
  rw [← hy] at hE e4
  obtain ⟨y1, y2⟩ := y
  simp only at e4
  subst e4
  obtain ⟨zs, m2, _, ez, _, hl2, hel2⟩ := DataW.trod_array Tryd.underlying39 hE
  have e5 : (zs.map (·.1)) = bitsZ.map fun z => .lit (.int .i64 z) := (DataW.agg.inj (Prod.mk.inj ez).1).symm
  have cell : ∀ r, r < 4 → W.cell? ⟨2, r, none⟩ = some (.int .i64 (bitsZ.getD r 0)) := by
    intro r hr
    have hF := hel2 r hr
    rw [c3, Nat.mul_one, List.getElem?_eq_getElem (by omega)] at hF
    obtain ⟨z, e1, e2⟩ := trod_num Tryd.underlying3 hF
    have e6 : (zs.map (·.1))[r]? = (bitsZ.map fun n => (DataW.lit (.int .i64 n) : DataW Unit))[r]? := by rw [e5]
    have hb : bitsZ.length = 4 := rfl
    rw [List.getElem?_map, List.getElem?_map, List.getElem?_eq_getElem (by omega : r < zs.length), List.getElem?_eq_getElem (by omega : r < bitsZ.length), e2] at e6
    have hz : z = bitsZ.getD r 0 := by
      simp only [Option.map_some, Option.some.injEq, DataW.lit.injEq, Lit.int.injEq, true_and] at e6
      rw [e6, List.getD, List.getElem?_eq_getElem (by omega : r < bitsZ.length)]; rfl
    rw [World.var?_cell hg' hv' r, ← hz]
    have : cs'.toList[r]? = some (.int .i64 z) := by
      have h0 : ((((cs'.toList.take 4).drop r).take 1))[0]? = some (.int .i64 z) := by rw [e1]; rfl
      rw [List.getElem?_take, if_pos (by decide), List.getElem?_drop, Nat.add_zero, List.getElem?_take, if_pos hr] at h0
      exact h0
    simpa using this
  exact ⟨cell 0 (by decide), cell 1 (by decide), cell 2 (by decide), cell 3 (by decide)⟩
end Go.Proofs.YtppfldobgemddaaDoor
