/-
  The contract of frameheader.Read: a header behind bytes that are none.
-/
import Derived.Test.YtppfldobgemddaaDoorZz
import Derived.Test.YtppfldobgemddaaDoorHw
import Derived.Test.YtppfldobgemddaaDoorSk
namespace Go.Proofs.YtppfldobgemddaaDoor
open Go.RowKit
set_option linter.unusedVariables false

theorem method_zf (Z : Nat) (w : World) : Sem.run Tryd.prog (method 308 116 (Value.pointer (some ⟨Z, 0, none⟩)) "ReadFull") w = .ok (109, Value.pointer (some ⟨Z, 0, none⟩)) w := by kernel_rfl
theorem mk1 (w : World) : (Instr.makeSlice 23 (.int .i64 1) (.int .i64 1)).run Tryd.prog w = .ok (.slice (some ⟨w.heap.size, 0, none⟩) 1 1) (w.alloc (.cells #[.int .u8 0] 5)) := by kernel_rfl

/-- The number that four bytes make. -/
def four (D : List Int) (i : Nat) : Int := D.getD i 0 * 16777216 + D.getD (i + 1) 0 * 65536 + D.getD (i + 2) 0 * 256 + D.getD (i + 3) 0

theorem four_or (a0 a1 a2 a3 : Int) (b0 : 0 ≤ a0 ∧ a0 ≤ 255) (b1 : 0 ≤ a1 ∧ a1 ≤ 255) (b2 : 0 ≤ a2 ∧ a2 ≤ 255) (b3 : 0 ≤ a3 ∧ a3 ≤ 255) :
    IntKind.u32.wrap (a0 * 16777216) = a0 * 16777216 ∧ IntKind.u32.wrap (a1 * 65536) = a1 * 65536 ∧ IntKind.u32.wrap (a2 * 256) = a2 * 256 ∧ IntKind.u32.wrap a3 = a3 ∧
    bits .or .u32 (a0 * 16777216) (a1 * 65536) = a0 * 16777216 + a1 * 65536 ∧ bits .or .u32 (a0 * 16777216 + a1 * 65536) (a2 * 256) = a0 * 16777216 + a1 * 65536 + a2 * 256 ∧
    bits .or .u32 (a0 * 16777216 + a1 * 65536 + a2 * 256) a3 = a0 * 16777216 + a1 * 65536 + a2 * 256 + a3 :=
  ⟨IntWalk.u32_in _ (by omega), IntWalk.u32_in _ (by omega), IntWalk.u32_in _ (by omega), IntWalk.u32_in _ (by omega),
    u32_join 24 _ _ (by omega) (by omega) (by omega) (by omega) (by omega) (by omega), u32_join 16 _ _ (by omega) (by omega) (by omega) (by omega) (by omega) (by omega), u32_join 8 _ _ (by omega) (by omega) (by omega) (by omega) (by omega) (by omega)⟩

set_option maxRecDepth 100000 in
set_option maxHeartbeats 2000000 in
theorem readHeader_any (n : Int) (Z X cap p : Nat) (D : List Int) (hD : ∀ j, 0 ≤ D.getD j 0 ∧ D.getD j 0 ≤ 255) (hlen : p + 4 ≤ D.length) (hlow : ∀ j, j < p → D.getD j 0 ≤ 254) (hf : four D p = hW n) (w : World) (h : Zz w Z X cap D 0) :
    Calls Tryd.prog 41 #[.iface 116 (.pointer (some ⟨Z, 0, none⟩)), .int .i64 0] w fun e w' => e = .returned (.tuple #[.int .u32 (hW n), .int .i64 p, .nilIface]) ∧ Zz w' Z X cap D (p + 4) ∧ Below Z w w' := by
  have hme := fun wx => method_zf Z wx
  have hmk := fun wx => mk4 wx
  have hsm := h.small
  have hZ := h.hZ
  have H := Lib.hid h
  have HD := Lib.hid hD
  have HL := Lib.hid hlow
  have HF := Lib.hid hf
  clear h hD hlow hf
  go_enter Tryd.func41, Tryd.ntmps41
  go_wp2_with fail
  refine (zfRead_any Z X w.heap.size 4 4 0 cap D [.int .u8 0, .int .u8 0, .int .u8 0, .int .u8 0] (by decide) (by omega) rfl (Nat.le_refl _) _ (H.out.below (stpA (stp0 w) _)) (heap_alloc_new w _) hZ).mono ?_
  rintro e w1 ⟨rfl, hz1, hb1, hrow⟩
  rw [bytesOf4 D 0 (by omega)] at hrow
  obtain ⟨a0, h0⟩ : ∃ a, a = D.getD 0 0 := ⟨_, rfl⟩
  obtain ⟨a1, h1⟩ : ∃ a, a = D.getD (0 + 1) 0 := ⟨_, rfl⟩
  obtain ⟨a2, h2⟩ : ∃ a, a = D.getD (0 + 2) 0 := ⟨_, rfl⟩
  obtain ⟨a3, h3⟩ : ∃ a, a = D.getD (0 + 3) 0 := ⟨_, rfl⟩
  rw [← h0, ← h1, ← h2, ← h3] at hrow
  have c0 : w1.cell? ⟨w.heap.size, 0, none⟩ = some (.int .u8 a0) := by rw [cell_of_row _ _ _ _ _ _ hrow]; rfl
  have c1 : w1.cell? ⟨w.heap.size, 1, none⟩ = some (.int .u8 a1) := by rw [cell_of_row _ _ _ _ _ _ hrow]; rfl
  have c2 : w1.cell? ⟨w.heap.size, 2, none⟩ = some (.int .u8 a2) := by rw [cell_of_row _ _ _ _ _ _ hrow]; rfl
  have c3 : w1.cell? ⟨w.heap.size, 3, none⟩ = some (.int .u8 a3) := by rw [cell_of_row _ _ _ _ _ _ hrow]; rfl
  have B0 : 0 ≤ a0 ∧ a0 ≤ 255 := h0 ▸ HD.out 0
  have B1 : 0 ≤ a1 ∧ a1 ≤ 255 := h1 ▸ HD.out (0 + 1)
  have B2 : 0 ≤ a2 ∧ a2 ≤ 255 := h2 ▸ HD.out (0 + 2)
  have B3 : 0 ≤ a3 ∧ a3 ≤ 255 := h3 ▸ HD.out (0 + 3)
  have w0 : IntKind.u32.wrap a0 = a0 := IntWalk.u32_in _ (by omega)
  have w1' : IntKind.u32.wrap a1 = a1 := IntWalk.u32_in _ (by omega)
  have w2' : IntKind.u32.wrap a2 = a2 := IntWalk.u32_in _ (by omega)
  obtain ⟨y0, y1, y2, y3, o1, o2, o3⟩ := four_or a0 a1 a2 a3 B0 B1 B2 B3
  have HFO : Hid (a0 * 16777216 + a1 * 65536 + a2 * 256 + a3 = four D 0) := Lib.hid (by rw [h0, h1, h2, h3]; rfl)
  have H0 := Lib.hid h0
  have H1 := Lib.hid h1
  have H2 := Lib.hid h2
  have H3 := Lib.hid h3
  have HZ1 := Lib.hid hz1
  have HB1 : Hid (Below Z w w1) := Lib.hid (((stpA (stp0 w) _).mono (by omega)).trans hb1)
  clear h0 h1 h2 h3 hrow hz1 hb1 hmk B0 B1 B2 B3
  go_wp2_with fail
  clear w0 w1' w2' y0 y1 y2 y3 o1 o2 o3 c0 c1 c2 c3
  have hmk := fun wx => mk1 wx
  go_loopw [1, 10, 11, 12, 13, 14] (fun v1 v10 v11 v12 v13 v14 wr => ∃ i : Nat, i ≤ p ∧ v1 = .int .i64 i ∧ v10 = .int .u32 (D.getD i 0) ∧ v11 = .int .u32 (D.getD (i + 1) 0) ∧ v12 = .int .u32 (D.getD (i + 2) 0) ∧ v13 = .int .u32 (D.getD (i + 3) 0) ∧ v14 = .int .u32 (four D i) ∧ Hid (Zz wr Z X cap D (i + 4)) ∧ Hid (Below Z w wr))
    (fun v1 _ _ _ _ _ _ => p - (intOf v1).toNat)
  case atStart => exact ⟨0, Nat.zero_le _, rfl, by rw [H0.out], by rw [H1.out], by rw [H2.out], by rw [H3.out], by rw [HFO.out], HZ1, HB1⟩
  case round =>
    clear HFO H0 H1 H2 H3 HZ1 HB1
    obtain ⟨i, hi, rfl, rfl, rfl, rfl, rfl, rfl, HZ, HB⟩ := hrel
    obtain ⟨b0, hb0⟩ : ∃ a, a = D.getD i 0 := ⟨_, rfl⟩
    obtain ⟨b1, hb1⟩ : ∃ a, a = D.getD (i + 1) 0 := ⟨_, rfl⟩
    obtain ⟨b2, hb2⟩ : ∃ a, a = D.getD (i + 2) 0 := ⟨_, rfl⟩
    obtain ⟨b3, hb3⟩ : ∃ a, a = D.getD (i + 3) 0 := ⟨_, rfl⟩
    obtain ⟨hd, hhd⟩ : ∃ a, a = four D i := ⟨_, rfl⟩
    rw [← hb0, ← hb1, ← hb2, ← hb3, ← hhd]
    have hfe : hd = b0 * 16777216 + b1 * 65536 + b2 * 256 + b3 := by rw [hhd, hb0, hb1, hb2, hb3]; rfl
    have B0 : 0 ≤ b0 ∧ b0 ≤ 255 := hb0 ▸ HD.out i
    have B1 : 0 ≤ b1 ∧ b1 ≤ 255 := hb1 ▸ HD.out (i + 1)
    have B2 : 0 ≤ b2 ∧ b2 ≤ 255 := hb2 ▸ HD.out (i + 2)
    have B3 : 0 ≤ b3 ∧ b3 ≤ 255 := hb3 ▸ HD.out (i + 3)
    by_cases hlt : i < p
    · have hb254 : b0 ≤ 254 := hb0 ▸ HL.out i hlt
      obtain ⟨b4, hb4⟩ : ∃ a, a = D.getD (i + 4) 0 := ⟨_, rfl⟩
      have B4 : 0 ≤ b4 ∧ b4 ≤ 255 := hb4 ▸ HD.out (i + 4)
      have hinv : 0 ≤ hd ∧ hd < 4278190080 := by omega
      have w4 : IntKind.u32.wrap b4 = b4 := IntWalk.u32_in _ (by omega)
      have w5 : IntKind.i64.wrap ((i : Int) + 1) = i + 1 := IntWalk.i64_in _ (by omega)
      obtain ⟨y0, y1, y2, y3, o1, o2, o3⟩ := four_or b1 b2 b3 b4 B1 B2 B3 B4
      have HFO : Hid (b1 * 16777216 + b2 * 65536 + b3 * 256 + b4 = four D (i + 1)) := Lib.hid (by rw [hb1, hb2, hb3, hb4]; rfl)
      have E1 := Lib.hid hb1
      have E2 := Lib.hid hb2
      have E3 := Lib.hid hb3
      have E4 := Lib.hid hb4
      clear hb0 hb1 hb2 hb3 hb4 hhd hfe B0 B1 B2 B3 B4 hb254
      go_wp2_with fail
      refine (invalid_any hd hinv.1 hinv.2 _).mono ?_
      rintro e w2 ⟨rfl, rfl⟩
      go_wp2_with fail
      refine (zfRead_any Z X wr.heap.size 1 1 (i + 4) cap D [.int .u8 0] (by decide) (by omega) rfl (Nat.le_refl _) _ (HZ.out.below (stpA (stp0 wr) _)) (heap_alloc_new wr _) HZ.out.hZ).mono ?_
      rintro e w3 ⟨rfl, hz3, hb3, hrow⟩
      have hb1' : bytesOf D (i + 4) 1 = [Value.int .u8 b4] := by
        unfold bytesOf
        rw [drop_cons D (i + 4) (by omega), ← E4.out]
        rfl
      rw [hb1'] at hrow
      have c0 : w3.cell? ⟨wr.heap.size, 0, none⟩ = some (.int .u8 b4) := by rw [cell_of_row _ _ _ _ _ _ hrow]; rfl
      have HZ3 := Lib.hid hz3
      have HB3 : Hid (Below Z w w3) := Lib.hid (HB.out.trans (((stpA (stp0 wr) _).mono (by have := HZ.out.hZ; omega)).trans hb3))
      clear hb1' hrow hz3 hb3
      go_wp2_with fail
      refine ⟨⟨i + 1, by omega, by go_num, by rw [E1.out], by rw [E2.out], by rw [E3.out], by rw [E4.out], by rw [HFO.out], HZ3, HB3⟩, by simp [intOf]; omega⟩
    · obtain rfl : i = p := by omega
      have hn : hd = hW n := by rw [hhd, HF.out]
      subst hn
      have b := hW_bd n
      have hbb := hB_bd n
      have t := (hW_top n).2.2.1
      have hne : ¬ fBI (hW n) = 0 := by omega
      clear hb0 hb1 hb2 hb3 hhd hfe
      go_wp2_with fail
      refine (validH n _).mono ?_
      rintro e w2 ⟨rfl, rfl⟩
      go_wp2_with fail
      refine (BI_any (hW n) b.1 b.2 _).mono ?_
      rintro e w2 ⟨rfl, rfl⟩
      go_wp2_with fail
      go_returns
      exact ⟨rfl, HZ.out, HB.out⟩
end Go.Proofs.YtppfldobgemddaaDoor
