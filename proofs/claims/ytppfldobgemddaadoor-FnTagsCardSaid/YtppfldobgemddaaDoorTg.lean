/-
  The contracts of bytes.NewReader, mp3.ZZSkipTags and impl.Tags.
-/
import Derived.Test.YtppfldobgemddaaDoorSt
namespace Go.Proofs.YtppfldobgemddaaDoor
open Go.RowKit
set_option linter.unusedVariables false

set_option maxHeartbeats 400000 in
theorem newReader_any (a : Option Addr) (n c : Nat) (w : World) :
    Calls Tryd.prog 39 #[.slice a n c] w fun e w' => e = .returned (.pointer (some ⟨w.heap.size, 0, none⟩)) ∧ w' = w.alloc (.cells #[.slice a n c, .int .i64 0, .int .i64 (-1)] 143) := by
  go_enter Tryd.func39, Tryd.ntmps39
  go_wp2_with fail
  go_ret
  exact ⟨rfl, rfl⟩

/-- What skipTags is known to do with these bytes. -/
def Skips (D : List Int) (p : Nat) : Prop := ∀ (S Q X cap : Nat) (w : World), Src w S Q X cap D 0 →
  Calls Tryd.prog 40 #[.pointer (some ⟨S, 0, none⟩)] w fun e w' => e = .returned .nilIface ∧ w'.cell? ⟨S, 2, none⟩ = some (.int .i64 p) ∧ Below Q w w'

set_option maxHeartbeats 1000000 in
theorem zzSkip_any (X cap p : Nat) (D : List Int) (hp : Skips D p) (hL : D.length ≤ 1000000) (hcap : D.length ≤ cap) (hcap2 : cap ≤ maxLen) (w : World) (hX : X < w.heap.size) (hc : ∀ j, j < D.length → w.cell? ⟨X, j, none⟩ = some (.int .u8 (D.getD j 0))) :
    Calls Tryd.prog 21 #[.slice (some ⟨X, 0, none⟩) D.length cap] w fun e w' => e = .returned (.tuple #[.int .i64 p, .nilIface]) ∧ Below w.heap.size w w' := by
  have HP := Lib.hid hp
  have HC := Lib.hid hc
  clear hp hc
  go_enter Tryd.func21, Tryd.ntmps21
  go_wp2_with fail
  refine (newReader_any _ _ _ _).mono ?_
  rintro e w1 ⟨rfl, rfl⟩
  go_wp2_with fail
  have hsrc : Src ((w.alloc (.cells #[.slice (some ⟨X, 0, none⟩) D.length cap, .int .i64 0, .int .i64 (-1)] 143)).alloc (.cells #[.iface 109 (.pointer (some ⟨w.heap.size, 0, none⟩)), .slice none 0 0, .int .i64 0] 114)) (w.heap.size + 1) w.heap.size X cap D 0 := by
    refine ⟨by simp, by simp, by simp, fun j => by simp, ⟨?_, ?_, ?_, fun j => ?_, fun j hj => ?_, hL, hcap, hcap2, by omega⟩, hX, by omega, by simp⟩
    · rw [World.cell?_alloc_past _ _ _ (by simp)]; simp
    · rw [World.cell?_alloc_past _ _ _ (by simp)]; simp
    · rw [World.cell?_alloc_past _ _ _ (by simp)]; simp
    · simp
    · rw [World.cell?_alloc_past _ _ _ (by simp; omega), World.cell?_alloc_past _ _ _ (by exact hX)]; exact HC.out j hj
  have hb0 : Below w.heap.size w ((w.alloc (.cells #[.slice (some ⟨X, 0, none⟩) D.length cap, .int .i64 0, .int .i64 (-1)] 143)).alloc (.cells #[.iface 109 (.pointer (some ⟨w.heap.size, 0, none⟩)), .slice none 0 0, .int .i64 0] 114)) := stpA (stpA (stp0 w) _) _
  refine (HP.out _ _ _ _ _ hsrc).mono ?_
  rintro e w2 ⟨rfl, h2, hb2⟩
  have hbb : Below w.heap.size w w2 := hb0.trans hb2
  clear hsrc hb0 hb2
  go_wp2_with fail
  go_returns
  exact ⟨rfl, hbb⟩

set_option maxHeartbeats 1000000 in
theorem tags_any (b off n c p : Nat) (D : List Int) (hn : D.length = n) (hn1 : 1 ≤ n) (hp : Skips D p) (hL : D.length ≤ 1000000) (w : World) (hc : ∀ j, j < n → w.cell? ⟨b, off + j, none⟩ = some (.int .u8 (D.getD j 0))) :
    Calls Tryd.prog 7 #[.slice (some ⟨b, off, none⟩) n c] w fun e w' => e = .returned (.tuple #[.int .i64 p, .bool true]) ∧ Below w.heap.size w w' := by
  have HP := Lib.hid hp
  clear hp
  go_enter Tryd.func7, Tryd.ntmps7
  go_wp2_with fail
  refine (cloneBytes_any b off n c D hn (by omega) w hc).mono ?_
  rintro e w1 ⟨⟨v, rfl, hown⟩, hb1⟩
  have hcell : ∃ g cap', v = .slice (some ⟨g, 0, none⟩) n cap' ∧ n ≤ cap' ∧ cap' ≤ maxLen ∧ g < w1.heap.size ∧ ∀ j, j < n → w1.cell? ⟨g, j, none⟩ = some (.int .u8 (D.getD j 0)) := by
    rcases hown.2 with ⟨_, h0⟩ | ⟨g, cap', cur, rfl, h1, h2, h3, h4, _⟩
    · omega
    · refine ⟨g, cap', rfl, h3, h4, (hown.lt g rfl).2, fun j hj => ?_⟩
      rw [hown.cellAt j (by omega), List.getD_eq_getElem?_getD]
      simp [hn, hj]
  obtain ⟨g, cap', rfl, hcap1, hcap2, hg, hgc⟩ := hcell
  have HG := Lib.hid hgc
  clear hgc hc hown
  subst hn
  go_wp2_with fail
  refine (zzSkip_any g cap' p D HP.out hL hcap1 hcap2 w1 hg HG.out).mono ?_
  rintro e w2 ⟨rfl, hb2⟩
  have hbb := stp hb1 hb2
  clear hb1 hb2
  go_wp2_with fail
  go_quiet (fail)
  go_wp2_with fail
  go_returns
  exact ⟨rfl, stpN hbb _⟩
end Go.Proofs.YtppfldobgemddaaDoor
