/-
  The two tables of math, as the row's list lays them, are what the walks want.
-/
import Derived.Test.YtppfldobgemddaaDoorCw
import Derived.ProofKit
import Derived.OpenShut
import Derived.Lay
import Derived.LaidMore
import Derived.LaidLaws
namespace Go.Proofs.YtppfldobgemddaaDoor
open Go.ChangeShapes Go.WideShapes Go.ChangeAt Go.RowKit
set_option linter.unusedVariables false

theorem trod_float {H : Type} {enc : TypeId × Value → H} {P : Program} {w : World} {base : Nat} {spare : Nat → Bool} {held : Bool} {fuel : Nat} {t : TypeId} {cs : List Value} {x : DataW H × List MemPlace} {k : FloatKind}
    (ht : P.underlying t = some (.float k)) (h : DataW.trod enc P w base spare held fuel t cs = some x) : ∃ n, cs = [.float k n] ∧ x = (.lit (.float k n), []) := by
  cases fuel with
  | zero => simp [DataW.trod] at h
  | succ n =>
    unfold DataW.trod at h
    rw [ht] at h
    split at h <;> simp_all
def sinZ : List Nat := [4460209587652500685, 13716528389658582877, 4523617212962785441, 13774824197404483331, 4575957461383575504, 13818544856648471880]
def cosZ : List Nat := [13666448263388469915, 4477121864728985349, 13732177093698800582, 4537941361668146421, 13787419979223748497, 4586165620538955083]
theorem six_cells {W : World} {n : String} {g : Nat} {cs : Array Value} {fuel : Nat} {p : List MemPlace} {Z : List Nat} (hZ : Z.length = 6) (hg : Tryd.prog.globalNamed n = some g) (hv : W.var? Tryd.prog n = some cs)
    (hd : DataW.trod (fun _ => ()) Tryd.prog W 0 (fun _ => true) false fuel 169 cs.toList = some (.agg (Z.map fun z => .lit (.float .f64 z)), p)) (r : Nat) (hr : r < 6) : W.cell? ⟨g, r, none⟩ = some (.float .f64 (Z.getD r 0)) := by
  obtain ⟨xs, m, _, ex, _, hl, hel⟩ := DataW.trod_array Tryd.underlying169 hd
  have c5 : Tryd.prog.cellsOf 70 = 1 := by kernel_rfl
  have hE := hel r hr
  rw [c5, Nat.mul_one, List.getElem?_eq_getElem (by omega)] at hE
  obtain ⟨z, e1, e2⟩ := trod_float Tryd.underlying70 hE
  have e3 : (xs.map (·.1)) = Z.map fun n => .lit (.float .f64 n) := (DataW.agg.inj (Prod.mk.inj ex).1).symm
  have e4 : (xs.map (·.1))[r]? = (Z.map fun n => (DataW.lit (.float .f64 n) : DataW Unit))[r]? := by rw [e3]
  rw [List.getElem?_map, List.getElem?_map, List.getElem?_eq_getElem (by omega : r < xs.length), List.getElem?_eq_getElem (by omega : r < Z.length), e2] at e4
  have hz : z = Z.getD r 0 := by
    simp only [Option.map_some, Option.some.injEq, DataW.lit.injEq, Lit.float.injEq, true_and] at e4
    rw [e4, List.getD, List.getElem?_eq_getElem (by omega : r < Z.length)]; rfl
  rw [World.var?_cell hg hv r, ← hz]
  have : cs.toList[r]? = some (.float .f64 z) := by
    have h0 : ((cs.toList.drop r).take 1)[0]? = some (.float .f64 z) := by rw [e1]; rfl
    simpa using h0
  simpa using this
theorem tabs_of {W : World} (h : laidMetH Tryd.prog Rows.fnWindowRow.laid W) : Tabs W := by
  rw [MakeChecks.laidMetH_plain _ _ _ (by kernel_rfl)] at h
  obtain ⟨ps, ⟨g, t, cs, fuel, p, q, hg, ht, hv, hd, ⟨g', t', cs', fuel', p', q', hg', ht', hv', hd', _⟩, _⟩, _, _⟩ := h
  obtain rfl := Option.some.inj ((show Tryd.prog.globalNamed "math._sin" = some 3 by kernel_rfl).symm.trans hg)
  obtain rfl := Option.some.inj ((show (Tryd.prog.globals[3]?).map (·.type) = some 169 by kernel_rfl).symm.trans ht)
  obtain rfl := Option.some.inj ((show Tryd.prog.globalNamed "math._cos" = some 4 by kernel_rfl).symm.trans hg')
  obtain rfl := Option.some.inj ((show (Tryd.prog.globals[4]?).map (·.type) = some 169 by kernel_rfl).symm.trans ht')
  have S := six_cells (Z := sinZ) rfl hg hv hd
  have C := six_cells (Z := cosZ) rfl hg' hv' hd'
  exact ⟨S 0 (by decide), S 1 (by decide), S 2 (by decide), S 3 (by decide), S 4 (by decide), S 5 (by decide), C 0 (by decide), C 1 (by decide), C 2 (by decide), C 3 (by decide), C 4 (by decide), C 5 (by decide)⟩
end Go.Proofs.YtppfldobgemddaaDoor
