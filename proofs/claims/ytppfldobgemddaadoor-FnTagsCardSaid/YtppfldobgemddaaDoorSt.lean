/-
  The contract of (*source).skipTags where a tag is at the front.
-/
import Derived.Test.YtppfldobgemddaaDoorSk
import Derived.Test.YtppfldobgemddaaDoorBits
import Derived.Laws.MakeOwn
namespace Go.Proofs.YtppfldobgemddaaDoor
open Go.RowKit
set_option linter.unusedVariables false

theorem madeCells_u8 (n : Nat) : madeCells (Value.int .u8 0).cells n = (List.replicate n (Value.int .u8 0)).toArray := by
  apply Array.ext
  · simp [madeCells]
  · intro i h1 h2
    simp [madeCells, Value.cells, Nat.mod_one]
theorem mkN (n : Nat) (hn : n ≤ 1000000) (w : World) : (Instr.makeSlice 23 (.int .u32 n) (.int .u32 n)).run Tryd.prog w = .ok (.slice (some ⟨w.heap.size, 0, none⟩) n n) (w.alloc (.cells (List.replicate n (Value.int .u8 0)).toArray 5)) := by
  obtain ⟨i0, hi0, hz0, hz1, hz2⟩ := info_parts info5
  rw [run_make w 23 5 i0 (.int .u8 0) Tryd.underlying23 hi0 hz0 .u32 .u32 n n (by omega) (Int.le_refl _) (by rw [hz2]; omega) (by omega), hz1]
  simp only [Int.toNat_natCast, Nat.mul_one, madeCells_u8]

/-- The last read: what it leaves of the place. -/
theorem srcRead_last (S Q X B k bc i cap : Nat) (D : List Int) (cur : List Value) (hik : i + k ≤ D.length) (hcur : cur.length = k) (hkb : k ≤ bc) (w : World) (h : Src w S Q X cap D i)
    (hB : w.heap[B]? = some (.cells cur.toArray 5 (0, 0))) (hSB : S < B) :
    Calls Tryd.prog 55 #[.pointer (some ⟨S, 0, none⟩), .slice (some ⟨B, 0, none⟩) k bc] w fun e w' => e = .returned (.tuple #[.int .i64 k, .nilIface]) ∧ w'.cell? ⟨S, 2, none⟩ = some (.int .i64 (i + k : Nat)) ∧ Below Q w w' := by
  by_cases h0 : k = 0
  · subst h0
    have := h.rdr.small
    exact srcRead_zero S Q X bc i cap _ D w h (by omega)
  · exact (srcRead_any S Q X B k bc i cap D cur (by omega) hik hcur hkb w h hB hSB).mono fun e w' ⟨he, hs, hb, _⟩ => ⟨he, hs.pos, hb⟩

set_option maxHeartbeats 2000000 in
/-- A tag at the front: it is gone over. -/
theorem skip_tag (S Q X cap sz : Nat) (D : List Int) (hlen : 10 + sz ≤ D.length) (hsz : sz ≤ 10000) (d0 : D.getD 0 0 = 73) (d1 : D.getD 1 0 = 68) (d2 : D.getD 2 0 = 51) (x6 x7 x8 x9 : Int) (d6 : D.getD 6 0 = x6) (d7 : D.getD 7 0 = x7) (d8 : D.getD 8 0 = x8) (d9 : D.getD 9 0 = x9)
    (h6 : 0 ≤ x6 ∧ x6 ≤ 127) (h7 : 0 ≤ x7 ∧ x7 ≤ 127) (h8 : 0 ≤ x8 ∧ x8 ≤ 127) (h9 : 0 ≤ x9 ∧ x9 ≤ 127) (hx : x6 * 2097152 + x7 * 16384 + x8 * 128 + x9 = sz) (w : World) (h : Src w S Q X cap D 0) :
    Calls Tryd.prog 40 #[.pointer (some ⟨S, 0, none⟩)] w fun e w' => e = .returned .nilIface ∧ w'.cell? ⟨S, 2, none⟩ = some (.int .i64 (10 + sz : Nat)) ∧ Below Q w w' := by
  have hmk := fun wx => mk3 wx
  have hS := h.hS
  have H := Lib.hid h
  have hQS := h.hQS
  clear h
  go_enter Tryd.func40, Tryd.ntmps40
  go_wp2_with fail
  refine (srcRead_any S Q X w.heap.size 3 3 0 cap D [.int .u8 0, .int .u8 0, .int .u8 0] (by decide) (by omega) rfl (Nat.le_refl _) _ (H.out.below (stpA (stp0 w) _)) (heap_alloc_new w _) hS).mono ?_
  rintro e w1 ⟨rfl, hs1, hb1, hrow⟩
  rw [bytesOf3 D 0 (by omega), d0, d1, d2] at hrow
  have hcv := conv3 w1 w.heap.size 3 73 68 51 hrow
  have HB1 : Hid (Below Q w w1) := Lib.hid (((stpA (stp0 w) _).mono (by omega)).trans hb1)
  have HS1 := Lib.hid hs1
  clear hrow hb1 hs1
  go_wp2_with fail
  refine (srcRead_any S Q X w1.heap.size 3 3 3 cap D [.int .u8 0, .int .u8 0, .int .u8 0] (by decide) (by omega) rfl (Nat.le_refl _) _ (HS1.out.below (stpA (stp0 w1) _)) (heap_alloc_new w1 _) HS1.out.hS).mono ?_
  rintro e w2 ⟨rfl, hs2, hb2, hrow⟩
  have HB2 : Hid (Below Q w w2) := Lib.hid (HB1.out.trans (((stpA (stp0 w1) _).mono (by have := HS1.out.hS; omega)).trans hb2))
  have HS2 := Lib.hid hs2
  have hmk4 := fun wx => mk4 wx
  clear hrow hb2 hs2 hcv hmk
  go_wp2_with fail
  refine (srcRead_any S Q X w2.heap.size 4 4 6 cap D [.int .u8 0, .int .u8 0, .int .u8 0, .int .u8 0] (by decide) (by omega) rfl (Nat.le_refl _) _ (HS2.out.below (stpA (stp0 w2) _)) (heap_alloc_new w2 _) HS2.out.hS).mono ?_
  rintro e w3 ⟨rfl, hs3, hb3, hrow⟩
  have HB3 : Hid (Below Q w w3) := Lib.hid (HB2.out.trans (((stpA (stp0 w2) _).mono (by have := HS2.out.hS; omega)).trans hb3))
  have HS3 := Lib.hid hs3
  rw [bytesOf4 D 6 (by omega), d6, d7, d8, d9] at hrow
  have c0 : w3.cell? ⟨w2.heap.size, 0, none⟩ = some (.int .u8 x6) := by rw [cell_of_row _ _ _ _ _ _ hrow]; rfl
  have c1 : w3.cell? ⟨w2.heap.size, 1, none⟩ = some (.int .u8 x7) := by rw [cell_of_row _ _ _ _ _ _ hrow]; rfl
  have c2 : w3.cell? ⟨w2.heap.size, 2, none⟩ = some (.int .u8 x8) := by rw [cell_of_row _ _ _ _ _ _ hrow]; rfl
  have c3 : w3.cell? ⟨w2.heap.size, 3, none⟩ = some (.int .u8 x9) := by rw [cell_of_row _ _ _ _ _ _ hrow]; rfl
  have y0 : IntKind.u32.wrap (x6 * 2097152) = x6 * 2097152 := IntWalk.u32_in _ (by omega)
  have y1 : IntKind.u32.wrap (x7 * 16384) = x7 * 16384 := IntWalk.u32_in _ (by omega)
  have y2 : IntKind.u32.wrap (x8 * 128) = x8 * 128 := IntWalk.u32_in _ (by omega)
  have z0 : IntKind.u32.wrap x6 = x6 := IntWalk.u32_in _ (by omega)
  have z1 : IntKind.u32.wrap x7 = x7 := IntWalk.u32_in _ (by omega)
  have z2 : IntKind.u32.wrap x8 = x8 := IntWalk.u32_in _ (by omega)
  have z3 : IntKind.u32.wrap x9 = x9 := IntWalk.u32_in _ (by omega)
  have o1 : bits .or .u32 (x6 * 2097152) (x7 * 16384) = x6 * 2097152 + x7 * 16384 := u32_join 21 _ _ (by omega) (by omega) (by omega) (by omega) (by omega) (by omega)
  have o2 : bits .or .u32 (x6 * 2097152 + x7 * 16384) (x8 * 128) = x6 * 2097152 + x7 * 16384 + x8 * 128 := u32_join 14 _ _ (by omega) (by omega) (by omega) (by omega) (by omega) (by omega)
  have o3 : bits .or .u32 (x6 * 2097152 + x7 * 16384 + x8 * 128) x9 = x6 * 2097152 + x7 * 16384 + x8 * 128 + x9 := u32_join 7 _ _ (by omega) (by omega) (by omega) (by omega) (by omega) (by omega)
  have HX := Lib.hid hx
  clear hrow hb3 hs3 hmk4 hx h6 h7 h8 h9
  go_wp2_with fail
  go_quiet (fail)
  clear y0 y1 y2 z0 z1 z2 z3 o1 o2 o3
  rw [HX.out]
  have hmkN := fun wx => mkN sz (by omega) wx
  go_wp2_with fail
  refine (srcRead_last S Q X w3.heap.size sz sz 10 cap D (List.replicate sz (.int .u8 0)) (by omega) (by simp) (Nat.le_refl _) _ ((HS3.out.drewN nq).below (stpA (stp0 (w3.drewN nq)) _)) (heap_alloc_new (w3.drewN nq) _) HS3.out.hS).mono ?_
  rintro e w4 ⟨rfl, hp, hb4⟩
  have HP := Lib.hid hp
  have hbb : Below Q w w4 := HB3.out.trans (((stpA (stpN (stp0 w3) nq) _).mono (by have := HS3.out.hS; omega)).trans hb4)
  clear hp hb4 hmkN
  go_wp2_with fail
  go_returns
  exact ⟨rfl, HP.out, hbb⟩
end Go.Proofs.YtppfldobgemddaaDoor
