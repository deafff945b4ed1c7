/-
  The contracts of frameheader.ZZRead and impl.Header.
-/
import Derived.Test.YtppfldobgemddaaDoorRh
import Derived.Test.YtppfldobgemddaaDoorCl
namespace Go.Proofs.YtppfldobgemddaaDoor
open Go.RowKit
set_option linter.unusedVariables false

set_option maxHeartbeats 1000000 in
theorem zzHeader_any (n : Int) (X cap p : Nat) (D : List Int) (hD : ∀ j, 0 ≤ D.getD j 0 ∧ D.getD j 0 ≤ 255) (hL : D.length ≤ 1000000) (hcap : D.length ≤ cap) (hcap2 : cap ≤ maxLen) (hlen : p + 4 ≤ D.length) (hlow : ∀ j, j < p → D.getD j 0 ≤ 254) (hf : four D p = hW n) (w : World) (hX : X < w.heap.size)
    (hc : ∀ j, j < D.length → w.cell? ⟨X, j, none⟩ = some (.int .u8 (D.getD j 0))) :
    Calls Tryd.prog 23 #[.slice (some ⟨X, 0, none⟩) D.length cap] w fun e w' => e = .returned (.tuple #[.int .u32 (hW n), .int .i64 p, .int .i64 (D.length - (p + 4) : Nat), .nilIface]) ∧ Below w.heap.size w w' := by
  have HD := Lib.hid hD
  have HC := Lib.hid hc
  have HL := Lib.hid hlow
  have HF := Lib.hid hf
  clear hD hc hlow hf
  go_enter Tryd.func23, Tryd.ntmps23
  go_wp2_with fail
  have hz : Zz (w.alloc (.cells #[.slice (some ⟨X, 0, none⟩) D.length cap] 118)) w.heap.size X cap D 0 := by
    refine ⟨⟨some ⟨X, 0, none⟩, by simp, fun _ => rfl⟩, fun j => by simp, fun j hj => ?_, hL, hcap, hcap2, hX, by simp⟩
    rw [World.cell?_alloc_past _ _ _ (by exact hX)]; exact HC.out j hj
  have hb0 : Below w.heap.size w (w.alloc (.cells #[.slice (some ⟨X, 0, none⟩) D.length cap] 118)) := stpA (stp0 w) _
  refine (readHeader_any n w.heap.size X cap p D HD.out hlen HL.out HF.out _ hz).mono ?_
  rintro e w1 ⟨rfl, hz1, hb1⟩
  obtain ⟨a, ha, _⟩ := hz1.vec
  obtain ⟨r, hr⟩ : ∃ r, D.length - (p + 4) = r := ⟨_, rfl⟩
  rw [hr] at ha
  have HR := Lib.hid hr
  have hbb := hb0.trans hb1
  clear hz hb0 hz1 hb1 hr
  go_wp2_with fail
  go_quiet (fail)
  go_wp2_with fail
  go_returns
  exact ⟨by rw [HR.out], stpN hbb _⟩

set_option maxHeartbeats 1000000 in
theorem header_any (n : Int) (b off m c p : Nat) (D : List Int) (hm : D.length = m) (hD : ∀ j, 0 ≤ D.getD j 0 ∧ D.getD j 0 ≤ 255) (hL : D.length ≤ 1000000) (hlen : p + 4 ≤ D.length) (hlow : ∀ j, j < p → D.getD j 0 ≤ 254) (hf : four D p = hW n) (w : World)
    (hc : ∀ j, j < m → w.cell? ⟨b, off + j, none⟩ = some (.int .u8 (D.getD j 0))) :
    Calls Tryd.prog 10 #[.slice (some ⟨b, off, none⟩) m c] w fun e w' => e = .returned (.tuple #[.int .u32 (hW n), .int .i64 p, .int .i64 (D.length - (p + 4) : Nat), .bool true]) ∧ Below w.heap.size w w' := by
  have HD := Lib.hid hD
  have HL := Lib.hid hlow
  have HF := Lib.hid hf
  clear hD hlow hf
  go_enter Tryd.func10, Tryd.ntmps10
  go_wp2_with fail
  refine (cloneBytes_any b off m c D hm (by omega) w hc).mono ?_
  rintro e w1 ⟨⟨v, rfl, hown⟩, hb1⟩
  have hcell : ∃ g cap', v = .slice (some ⟨g, 0, none⟩) m cap' ∧ m ≤ cap' ∧ cap' ≤ maxLen ∧ g < w1.heap.size ∧ ∀ j, j < m → w1.cell? ⟨g, j, none⟩ = some (.int .u8 (D.getD j 0)) := by
    rcases hown.2 with ⟨_, h0⟩ | ⟨g, cap', cur, rfl, h1, h2, h3, h4, _⟩
    · omega
    · refine ⟨g, cap', rfl, h3, h4, (hown.lt g rfl).2, fun j hj => ?_⟩
      rw [hown.cellAt j (by omega), List.getD_eq_getElem?_getD]
      simp [hm, hj]
  obtain ⟨g, cap', rfl, hcap1, hcap2, hg, hgc⟩ := hcell
  have HG := Lib.hid hgc
  clear hgc hc hown
  subst hm
  go_wp2_with fail
  refine (zzHeader_any n g cap' p D HD.out hL hcap1 hcap2 hlen HL.out HF.out w1 hg HG.out).mono ?_
  rintro e w2 ⟨rfl, hb2⟩
  have hbb := stp hb1 hb2
  obtain ⟨r, hr⟩ : ∃ r, D.length - (p + 4) = r := ⟨_, rfl⟩
  rw [hr]
  clear hb1 hb2
  go_wp2_with fail
  go_quiet (fail)
  go_wp2_with fail
  go_returns
  exact ⟨by rw [hr], stpN hbb _⟩
end Go.Proofs.YtppfldobgemddaaDoor
