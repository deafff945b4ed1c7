/-
  The walk of laws.FnHeader.
-/
import Derived.Test.YtppfldobgemddaaDoorHr
import Derived.Test.YtppfldobgemddaaDoorRw
import Derived.Test.YtppfldobgemddaaDoorZe
namespace Go.Proofs.YtppfldobgemddaaDoor
open Go.RowKit
set_option linter.unusedVariables false

/-- The bytes ahead, as they are written. -/
def aheadOf (A : List Int) : List Int := A.map (· % 255)
/-- The four bytes of a word. -/
def fourOf (x : Int) : List Int := [x / 16777216, x / 65536 % 256, x / 256 % 256, x % 256]
def headed (A : List Int) (x : Int) (C : List Int) : List Int := aheadOf A ++ fourOf x ++ C

theorem headed_length (A : List Int) (x : Int) (C : List Int) : (headed A x C).length = A.length + 4 + C.length := by
  simp [headed, aheadOf, fourOf]; omega
theorem getD_append_right' (P Q : List Int) (j : Nat) : (P ++ Q).getD (P.length + j) 0 = Q.getD j 0 := by
  rw [List.getD_eq_getElem?_getD, List.getElem?_append_right (by omega), List.getD_eq_getElem?_getD]
  congr 2; omega
theorem getD_append_left' (P Q : List Int) (j : Nat) (h : j < P.length) : (P ++ Q).getD j 0 = P.getD j 0 := by
  rw [List.getD_eq_getElem?_getD, List.getElem?_append_left h, List.getD_eq_getElem?_getD]
theorem aheadOf_bd (A : List Int) (j : Nat) : 0 ≤ (aheadOf A).getD j 0 ∧ (aheadOf A).getD j 0 ≤ 254 := by
  unfold aheadOf
  rw [List.getD_eq_getElem?_getD, List.getElem?_map]
  cases A[j]? with
  | none => simp
  | some z => simp; omega
theorem headed_at (A : List Int) (x : Int) (C : List Int) (j : Nat) : (headed A x C).getD (A.length + j) 0 = (fourOf x ++ C).getD j 0 := by
  have h := getD_append_right' (aheadOf A) (fourOf x ++ C) j
  have hl : (aheadOf A).length = A.length := by simp [aheadOf]
  rw [hl] at h
  unfold headed
  rw [List.append_assoc]
  exact h
theorem headed_four (A : List Int) (x : Int) (C : List Int) (h0 : 0 ≤ x) (h1 : x ≤ 4294967295) : four (headed A x C) A.length = x := by
  have e0 := headed_at A x C 0
  rw [Nat.add_zero] at e0
  unfold four
  rw [e0, headed_at A x C 1, headed_at A x C 2, headed_at A x C 3]
  show x / 16777216 * 16777216 + x / 65536 % 256 * 65536 + x / 256 % 256 * 256 + x % 256 = x
  omega
theorem headed_bd (A : List Int) (x : Int) (C : List Int) (hx0 : 0 ≤ x) (hx1 : x ≤ 4294967295) (hC : ∀ j, 0 ≤ C.getD j 0 ∧ C.getD j 0 ≤ 255) (j : Nat) : 0 ≤ (headed A x C).getD j 0 ∧ (headed A x C).getD j 0 ≤ 255 := by
  by_cases h : j < A.length
  · have hl : (aheadOf A).length = A.length := by simp [aheadOf]
    have := aheadOf_bd A j
    unfold headed
    rw [List.append_assoc, getD_append_left' _ _ _ (by omega)]
    omega
  · obtain ⟨k, rfl⟩ : ∃ k, j = A.length + k := ⟨j - A.length, by omega⟩
    rw [headed_at]
    match k with
    | 0 => show 0 ≤ x / 16777216 ∧ x / 16777216 ≤ 255; omega
    | 1 => show 0 ≤ x / 65536 % 256 ∧ x / 65536 % 256 ≤ 255; omega
    | 2 => show 0 ≤ x / 256 % 256 ∧ x / 256 % 256 ≤ 255; omega
    | 3 => show 0 ≤ x % 256 ∧ x % 256 ≤ 255; omega
    | k + 4 => exact hC k
theorem headed_low (A : List Int) (x : Int) (C : List Int) (j : Nat) (h : j < A.length) : (headed A x C).getD j 0 ≤ 254 := by
  have hl : (aheadOf A).length = A.length := by simp [aheadOf]
  unfold headed
  rw [List.append_assoc, getD_append_left' _ _ _ (by omega)]
  exact (aheadOf_bd A j).2
/-- impl.Header at the bytes that are written. -/
theorem headed_call (n x : Int) (hx : x = hW n) (A C : List Int) (hC : ∀ j, 0 ≤ C.getD j 0 ∧ C.getD j 0 ≤ 255) (hl1 : A.length ≤ 100) (hl2 : C.length ≤ 100) (g c : Nat) (w : World)
    (hc : ∀ j, j < A.length + 4 + C.length → w.cell? ⟨g, 0 + j, none⟩ = some (.int .u8 ((headed A x C).getD j 0))) :
    Calls Tryd.prog 10 #[.slice (some ⟨g, 0, none⟩) (A.length + 4 + C.length) c] w fun e w' => e = .returned (.tuple #[.int .u32 x, .int .i64 A.length, .int .i64 C.length, .bool true]) ∧ Below w.heap.size w w' := by
  have hb := hW_bd n
  have hl := headed_length A x C
  have h := header_any n g 0 (A.length + 4 + C.length) c A.length (headed A x C) hl (headed_bd A x C (by omega) (by omega) hC) (by omega) (by omega) (headed_low A x C) (by rw [headed_four A x C (by omega) (by omega), hx]) w hc
  have hr : (headed A x C).length - (A.length + 4) = C.length := by omega
  rw [hr, ← hx] at h
  exact h
theorem aheadOf_take (A : List Int) (k : Nat) (h : k < A.length) : aheadOf (A.take (k + 1)) = aheadOf (A.take k) ++ [A.getD k 0 % 255] := by
  unfold aheadOf
  rw [List.getD_eq_getElem?_getD, List.take_add_one, List.map_append, List.getElem?_eq_getElem h]
  rfl

set_option maxRecDepth 100000 in
set_option maxHeartbeats 1000000 in
theorem fnHeader_big (n : Int) (a1 : Option Addr) (len1 cap1 : Nat) (a2 : Option Addr) (len2 cap2 : Nat) (h : 100 < len1 ∨ 100 < len2) (w : World) :
    Calls Tryd.prog 4 #[.int .u32 n, .slice a1 len1 cap1, .slice a2 len2 cap2] w fun e w' => e = .returned (.bool true) ∧ Below w.heap.size w w' := by
  go_each [2147483647 < len1, 2147483647 < len2, 100 < len1, 100 < len2] => (go_enter Tryd.func4, Tryd.ntmps4; go_wp2_with fail; go_returns; exact ⟨rfl, stp0 w⟩)

set_option maxRecDepth 100000 in
set_option maxHeartbeats 2000000 in
theorem fnHeader_main (n : Int) (h0 : 0 ≤ n) (h1 : n ≤ 4294967295) (a1 a2 : Option Addr) (cap1 cap2 : Nat) (A C : List Int) (hA : Bytes A) (hC : ∀ j, 0 ≤ C.getD j 0 ∧ C.getD j 0 ≤ 255) (hl1 : A.length ≤ 100) (hl2 : C.length ≤ 100) (w : World)
    (hd1 : DataIs w a1 A) (hd2 : DataIn w a2 C cap2) :
    Calls Tryd.prog 4 #[.int .u32 n, .slice a1 A.length cap1, .slice a2 C.length cap2] w fun e w' => e = .returned (.bool true) ∧ Below w.heap.size w w' := by
  obtain ⟨i0, hi, hz0, hz1, hz2⟩ := info_parts info5
  have HD1 := Lib.hid hd1
  have HD2 := Lib.hid hd2
  have HA := Lib.hid hA
  have HC := Lib.hid hC
  clear hd1 hd2 hA hC
  have l1 : ¬ (2147483647 < (A.length : Int)) := by omega
  have l2 : ¬ (2147483647 < (C.length : Int)) := by omega
  have l3 : ¬ (100 < (A.length : Int)) := by omega
  have l4 : ¬ (100 < (C.length : Int)) := by omega
  go_enter Tryd.func4, Tryd.ntmps4
  go_wp2_with fail
  refine (headOf_any n h0 h1 _).mono ?_
  rintro e w1 ⟨rfl, hb1⟩
  go_wp2_with fail
  refine (wordH n _).mono ?_
  rintro e w2 ⟨rfl, hb2⟩
  have hb := hW_bd n
  have hx0 := hb.1
  have hx1 := hb.2
  obtain ⟨x, hx⟩ : ∃ x, x = hW n := ⟨_, rfl⟩
  rw [← hx] at hx0 hx1
  have HX := Lib.hid hx
  have hB2 := stp (stpA hb1 _) hb2
  clear hb hb1 hb2 hx
  rw [← HX.out]
  go_wp2_with fail
  have hs2 := hB2.size
  have hO0 : (w2.alloc (.cells #[] 5)).ownsRow w.heap.size 5 1 (.slice (some ⟨w2.heap.size, 0, none⟩) 0 0) 0 ((aheadOf (A.take 0)).map (Value.int .u8)) := by
    have := World.ownsRow_made (base := w.heap.size) (e := 5) (size := 1) w2 #[] 0 hs2 (by unfold maxLen; omega) rfl
    simpa [aheadOf] using this
  have hB0 : Below w.heap.size w (w2.alloc (.cells #[] 5)) := stpA hB2 _
  go_loopw [9, 39] (fun v i wr => ∃ (k : Nat) (a : Option Addr) (c : Nat), k ≤ A.length ∧ i = .int .i64 k ∧ v = .slice a k c ∧ wr.ownsRow w.heap.size 5 1 (.slice a k c) k ((aheadOf (A.take k)).map (Value.int .u8)) ∧ Below w.heap.size w wr)
    (fun _ i _ => A.length - (intOf i).toNat)
  case atStart => exact ⟨0, _, _, Nat.zero_le _, rfl, rfl, hO0, hB0⟩
  case round =>
    clear hO0 hB0 hB2
    obtain ⟨k, a, c, hk, rfl, rfl, hO, hB⟩ := hrel
    by_cases hlt : k < A.length
    · rcases HD1.out with h | ⟨b, off, rfl, hbb, hbc⟩
      · omega
      have hzc : wr.cell? ⟨b, off + k, none⟩ = some (.int .u8 (A.getD k 0)) := by rw [hB.cell (by exact hbb)]; exact hbc k hlt
      have hzb := HA.out.1 k
      obtain ⟨z, hz⟩ : ∃ z, z = A.getD k 0 := ⟨_, rfl⟩
      rw [← hz] at hzc hzb
      have z0 := hzb.1
      have z1 := hzb.2
      have HZ := Lib.hid hz
      have hsz := hB.size
      clear hz hzb hbc
      go_wp2_with (at_builtin; refine wpList_append_own _ rfl _ _ 23 rfl w.heap.size 5 i0 (.int .u8 0) 1 1 Tryd.underlying23 hi hz0 hz1 hz2 rfl (by decide) _ k _ rfl (hO.alloc _) ⟨wr.heap.size, 0, none⟩ 1 1 [.int .u8 (z % 255)] rfl rfl (cell_one_new _ _ _) (by simp [Value.oneCell']) (by unfold maxLen; omega) (by omega) (by simp; omega) ?_; intro v' w3 hO3 hgr3 _; (have hB3 : Below w.heap.size w w3 := (stpA hB (.cells #[.int .u8 (z % 255)] 5)).grown hgr3 (by simp; omega) (by intro j hj; exact ownedGe hO hj)); (obtain ⟨a', c', rfl⟩ := ownedSlice hO3); clear hgr3 hO hB)
      refine ⟨⟨k + 1, a', c', by omega, by go_num, rfl, ?_, hB3⟩, by simp [intOf]; omega⟩
      rw [aheadOf_take A k hlt, List.map_append, ← HZ.out]
      exact hO3
    · obtain rfl : k = A.length := by omega
      have hsz := hB.size
      rw [List.take_length] at hO
      clear hlt hk
      go_wp2_with (first
        | (at_builtin; refine append_data rfl (.tmp 49) (.tmp 61) 23 rfl w.heap.size 5 i0 (.int .u8 0) 1 Tryd.underlying23 hi hz0 hz1 hz2 rfl _ A.length _ rfl (hO.alloc _) (some ⟨wr.heap.size, 0, none⟩) 4 4 [.int .u8 (x / 16777216), .int .u8 (x / 65536 % 256), .int .u8 (x / 256 % 256), .int .u8 (x % 256)] rfl rfl (.inr ⟨_, rfl, newRow⟩) (by simp [Value.oneCell']) (by unfold maxLen; omega) (by omega) (by simp; omega) ?_; intro v3 w3 hO3 hgr3; (have hB3 : Below w.heap.size w w3 := (stpA hB _).grown hgr3 (by simp; omega) (by intro j hj; exact ownedGe hO hj)); (obtain ⟨a3, c3, rfl⟩ := ownedSlice hO3); clear hgr3 hO hB)
        | (at_builtin; refine append_data rfl (.tmp 62) (.tmp 63) 23 rfl w.heap.size 5 i0 (.int .u8 0) 1 Tryd.underlying23 hi hz0 hz1 hz2 rfl _ (A.length + 4) _ rfl hO3 a2 C.length cap2 (C.map (Value.int .u8)) rfl (by simp) (HD2.out.below hB3) oneCell_ints (by unfold maxLen; omega) (by omega) hB3.size ?_; intro v4 w4 hO4 hgr4; (have hB4 : Below w.heap.size w w4 := hB3.grown hgr4 hB3.size (by intro j hj; exact ownedGe hO3 hj)); (obtain ⟨g4, c4, rfl, hge4⟩ := ownedSome hO4 (by omega)); clear hgr4 hO3 hB3))
      have hmap : (aheadOf A).map (Value.int .u8) ++ [.int .u8 (x / 16777216), .int .u8 (x / 65536 % 256), .int .u8 (x / 256 % 256), .int .u8 (x % 256)] ++ C.map (Value.int .u8) = (headed A x C).map (Value.int .u8) := by
        simp [headed, fourOf]
      rw [hmap] at hO4
      have HC4 := Lib.hid (ownedBytes hO4)
      clear hO4 hmap
      refine (headed_call n x HX.out A C HC.out hl1 hl2 g4 c4 w4 HC4.out).mono ?_
      rintro e w5 ⟨rfl, hb5⟩
      have hB5 := stp hB4 hb5
      clear hB4 hb5 HC4
      go_wp2_with fail
      go_returns
      exact ⟨by simp, hB5⟩

theorem fnHeader_walk (a0 : Int) (a1 : Option Addr) (len1 cap1 : Nat) (z1 : List Int) (a2 : Option Addr) (len2 cap2 : Nat) (z2 : List Int) (w : World) (w0 : (Lit.int .u32 a0).wf = true) (w1 : IsRowP .u8 w a1 len1 cap1 z1) (w2 : IsRowP .u8 w a2 len2 cap2 z2) :
    Calls Tryd.prog 4 #[.int .u32 a0, .slice a1 len1 cap1, .slice a2 len2 cap2] w fun e w' => e = .returned (.bool true) ∧ Below w.heap.size w w' := by
  by_cases h : 100 < len1 ∨ 100 < len2
  · exact fnHeader_big a0 a1 len1 cap1 a2 len2 cap2 h w
  · obtain ⟨A, hA, bA, dA, _⟩ := isRow_data w1 (by omega)
    obtain ⟨C, hC, dC, wC⟩ := isRow_dataIn w2
    subst hA
    subst hC
    have hCb : ∀ j, 0 ≤ C.getD j 0 ∧ C.getD j 0 ≤ 255 := fun j => by
      rw [List.getD_eq_getElem?_getD]
      cases hd : C[j]? with
      | none => simp
      | some z => exact bounds_u8 (wC z (List.mem_of_getElem? hd))
    have hb := bounds_u32 w0
    exact fnHeader_main a0 hb.1 hb.2 a1 a2 cap1 cap2 A C bA hCb (by omega) (by omega) w dA dC
end Go.Proofs.YtppfldobgemddaaDoor
