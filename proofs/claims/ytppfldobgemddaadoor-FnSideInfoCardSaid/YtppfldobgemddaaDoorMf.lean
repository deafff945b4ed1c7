/-
  The contracts of slices.Clone at bytes; The contract of laws.headOf: what header it makes of a number; The contract of spec.Head.Word; The contracts of the plain field methods of a frame header (printed by wip/genfh.py); The word of the header of a number: its fields, and that it is valid; The contracts of laws.few and spec.Head.Channels.
-/
import Derived.Test.YtppfldobgemddaaDoorRows
import Derived.Test.YtppfldobgemddaaDoorMb
import Derived.WalkSpells
import Derived.Handy
import Derived.Test.YtppfldobgemddaaDoorMa
import Derived.WalkKit
import Derived.WalkLawsBesides
import Derived.Lib.Hide
namespace Go.Proofs.YtppfldobgemddaaDoor
open Go.RowKit
set_option linter.unusedVariables false

theorem info3 : (Tryd.prog.info? 3).map (fun i => (i.zero, i.size, i.bytes)) = some (some (.int .i64 0), 1, 8) := by kernel_rfl
theorem info5 : (Tryd.prog.info? 5).map (fun i => (i.zero, i.size, i.bytes)) = some (some (.int .u8 0), 1, 1) := by kernel_rfl

theorem cells_at {k : IntKind} {w : World} {b off n : Nat} {zs : List Int} (hn : zs.length = n) (hc : ∀ j, j < n → w.cell? ⟨b, off + j, none⟩ = some (.int k (zs.getD j 0))) (o : Obj) :
    ∀ j u, (zs.map (Value.int k))[j]? = some u → (w.alloc o).cell? ((⟨b, off, none⟩ : Addr).add j) = some u := by
  intro j u hu
  rw [List.getElem?_map] at hu
  cases hz : zs[j]? with
  | none => rw [hz] at hu; simp at hu
  | some z =>
    rw [hz] at hu
    simp at hu
    subst hu
    have hj : j < n := by rw [← hn]; exact (List.getElem?_eq_some_iff.1 hz).1
    have h1 := hc j hj
    have h2 : zs.getD j 0 = z := by rw [List.getD_eq_getElem?_getD, hz]; rfl
    rw [h2] at h1
    have ha : (⟨b, off, none⟩ : Addr).add j = ⟨b, off + j, none⟩ := by unfold Addr.add; split <;> simp_all
    rw [ha]
    have hlt : b < w.heap.size := block_lt_of_cell h1
    rw [World.cell?_alloc_past _ _ _ hlt]
    exact h1
theorem oneCell_ints {k : IntKind} {zs : List Int} : ∀ u ∈ zs.map (Value.int k), u.oneCell' = true := by
  intro u hu
  obtain ⟨z, _, rfl⟩ := List.mem_map.1 hu
  rfl

set_option maxHeartbeats 400000 in
theorem cloneBytes_any (b off n cap : Nat) (zs : List Int) (hn : zs.length = n) (hm : n ≤ 1000000) (w : World) (hc : ∀ j, j < n → w.cell? ⟨b, off + j, none⟩ = some (.int .u8 (zs.getD j 0))) :
    Calls Tryd.prog 22 #[.slice (some ⟨b, off, none⟩) n cap] w fun e w' => (∃ v, e = .returned v ∧ w'.ownsRow w.heap.size 5 1 v n (zs.map (Value.int .u8))) ∧ Below w.heap.size w w' := by
  obtain ⟨i0, hi, hz0, hz1, hz2⟩ := info_parts info5
  have H0 : (w.alloc (.cells #[] 5)).ownsRow w.heap.size 5 1 (.slice (some ⟨w.heap.size, 0, none⟩) 0 0) 0 [] := World.ownsRow_made w #[] 0 (Nat.le_refl _) (by unfold maxLen; omega) rfl
  have HC := Lib.hid (cells_at hn hc (.cells #[] 5))
  have HM := Lib.hid (show 0 + n ≤ maxLen by unfold maxLen; omega)
  have HL := Lib.hid (show (zs.map (Value.int .u8)).length = n * 1 by simp [hn])
  clear hc
  have hq := fun wx => Lib.run_eql_slice_nil (P := Tryd.prog) (w := wx) (t := 23)
  go_enter Tryd.func22, Tryd.ntmps22
  go_wp2_with (at_builtin; refine wpList_append_own _ rfl _ _ 23 rfl w.heap.size 5 i0 (.int .u8 0) 1 1 Tryd.underlying23 hi hz0 hz1 hz2 rfl (by decide) (.slice (some ⟨w.heap.size, 0, none⟩) 0 0) 0 [] rfl H0 ⟨b, off, none⟩ n cap (zs.map (Value.int .u8)) rfl HL.out HC.out oneCell_ints HM.out (by omega) (by simp) ?_; intro v' w1 hown hgrow _)
  go_returns
  refine ⟨⟨_, rfl, by simpa using hown⟩, ?_⟩
  exact (stpA (stp0 w) _).grown hgrow (by simp) (by intro k hk; cases hk; exact Nat.le_refl _)

set_option maxHeartbeats 400000 in
theorem cloneNil_any (w : World) :
    Calls Tryd.prog 22 #[.slice none 0 0] w fun e w' => e = .returned (.slice none 0 0) ∧ w = w' := by
  have hq := fun wx => Lib.run_eql_slice_nil (P := Tryd.prog) (w := wx) (t := 23)
  go_enter Tryd.func22, Tryd.ntmps22
  go_wp2_with fail
  go_ret
  exact ⟨rfl, rfl⟩
set_option maxHeartbeats 400000 in
theorem cloneEmpty_any (x : Addr) (cap : Nat) (w : World) :
    Calls Tryd.prog 22 #[.slice (some x) 0 cap] w fun e w' => (∃ v, e = .returned v ∧ w'.ownsRow w.heap.size 5 1 v 0 []) ∧ Below w.heap.size w w' := by
  obtain ⟨i0, hi, hz0, hz1, hz2⟩ := info_parts info5
  have H0 : (w.alloc (.cells #[] 5)).ownsRow w.heap.size 5 1 (.slice (some ⟨w.heap.size, 0, none⟩) 0 0) 0 [] := World.ownsRow_made w #[] 0 (Nat.le_refl _) (by unfold maxLen; omega) rfl
  have hq := fun wx => Lib.run_eql_slice_nil (P := Tryd.prog) (w := wx) (t := 23)
  go_enter Tryd.func22, Tryd.ntmps22
  go_wp2_with (at_builtin; refine wpList_append_own _ rfl _ _ 23 rfl w.heap.size 5 i0 (.int .u8 0) 1 1 Tryd.underlying23 hi hz0 hz1 hz2 rfl (by decide) (.slice (some ⟨w.heap.size, 0, none⟩) 0 0) 0 [] rfl H0 x 0 cap [] rfl rfl (by intro j u hu; simp at hu) (by intro u hu; cases hu) (by unfold maxLen; omega) (by omega) (by simp) ?_; intro v' w1 hown hgrow _)
  go_returns
  refine ⟨⟨_, rfl, by simpa using hown⟩, ?_⟩
  exact (stpA (stp0 w) _).grown hgrow (by simp) (by intro k hk; cases hk; exact Nat.le_refl _)
end Go.Proofs.YtppfldobgemddaaDoor
namespace Go.Proofs.YtppfldobgemddaaDoor
open Go.RowKit
set_option linter.unusedVariables false

/-- The fields of the header of a number. -/
def hB (n : Int) : Int := 9 + n % 6
def hR (n : Int) : Int := n / 8 % 3
def hP (n : Int) : Int := n / 32 % 2
def hV (n : Int) : Int := n / 64 % 2
def e3 (m : Int) : Int := if m = 0 then 0 else if m = 1 then 1 else 3
def hK (n : Int) : Int := n / 128 % 4 * 4 + e3 (n / 512 % 3)
def m4 (m : Int) : Int := if m = 0 then 0 else if m = 3 then 3 else 1
def hM (n : Int) : Int := m4 (n / 2048 % 4)
def hJ (n : Int) : Int := if n / 2048 % 4 = 1 then 2 else 0

theorem e3_at (m : Int) (h0 : 0 ≤ m) (h3 : m < 3) : [Value.int .i64 0, Value.int .i64 1, Value.int .i64 3][m.toNat]? = some (.int .i64 (e3 m)) := by
  have h : m = 0 ∨ m = 1 ∨ m = 2 := by omega
  rcases h with rfl | rfl | rfl <;> rfl
theorem m4_at (m : Int) (h0 : 0 ≤ m) (h3 : m < 4) : [Value.int .i64 0, Value.int .i64 1, Value.int .i64 1, Value.int .i64 3][m.toNat]? = some (.int .i64 (m4 m)) := by
  have h : m = 0 ∨ m = 1 ∨ m = 2 ∨ m = 3 := by omega
  rcases h with rfl | rfl | rfl | rfl <;> rfl

theorem e3_bd (m : Int) : 0 ≤ e3 m ∧ e3 m ≤ 3 := by
  unfold e3; split <;> (try split) <;> omega

set_option maxHeartbeats 400000 in
theorem headOf_any (n : Int) (h0 : 0 ≤ n) (h1 : n ≤ 4294967295) (w : World) :
    Calls Tryd.prog 8 #[.int .u32 n] w fun e w' => e = .returned (.agg #[.int .i64 (hB n), .int .i64 (hR n), .int .i64 (hP n), .int .i64 (hM n), .int .i64 (hJ n), .int .i64 (hV n), .int .i64 (hK n)]) ∧ Below w.heap.size w w' := by
  have a3 := e3_at (n / 512 % 3) (by omega) (by omega)
  have a4 := m4_at (n / 2048 % 4) (by omega) (by omega)
  have b1 : bits .and .u32 (n / 32) 1 = n / 32 % 2 := u32_and1 _
  have b2 : bits .and .u32 (n / 64) 1 = n / 64 % 2 := u32_and1 _
  have b3 : bits .and .u32 (n / 128) 3 = n / 128 % 4 := u32_and3 _
  have b4 : bits .and .u32 (n / 2048) 3 = n / 2048 % 4 := u32_and3 _
  have e0 := e3_bd (n / 512 % 3)
  have b5 : bits .or .i64 (n / 128 % 4 * 4) (e3 (n / 512 % 3)) = n / 128 % 4 * 4 + e3 (n / 512 % 3) := i64_join 2 _ _ (by omega) (by omega) (by omega) e0.1 (by omega) (by omega)
  by_cases h : n / 2048 % 4 = 1
  · have hj : hJ n = 2 := by unfold hJ; rw [if_pos h]
    have hb : (n / 2048 % 4 == 1) = true := by simpa using h
    have HJ := Lib.hid hj
    clear h hj e0
    go_enter Tryd.func8, Tryd.ntmps8
    go_wp2
    go_returns
    refine ⟨?_, by go_grown⟩
    rw [HJ.out]; rfl
  · have hj : hJ n = 0 := by unfold hJ; rw [if_neg h]
    have hb : (n / 2048 % 4 == 1) = false := by simpa using h
    have HJ := Lib.hid hj
    clear h hj e0
    go_enter Tryd.func8, Tryd.ntmps8
    go_wp2
    go_returns
    refine ⟨?_, by go_grown⟩
    rw [HJ.out]; rfl
end Go.Proofs.YtppfldobgemddaaDoor
namespace Go.Proofs.YtppfldobgemddaaDoor
open Go.RowKit
set_option linter.unusedVariables false

/-- The word of a header's fields. -/
def wordOf (B R P M J V K : Int) : Int := 4294639616 + B * 4096 + R * 1024 + P * 512 + V * 256 + M * 64 + J * 16 + K

set_option maxHeartbeats 400000 in
theorem word_any (B R P M J V K : Int) (hB : 0 ≤ B ∧ B ≤ 15) (hR : 0 ≤ R ∧ R ≤ 3) (hP : 0 ≤ P ∧ P ≤ 1) (hM : 0 ≤ M ∧ M ≤ 3) (hJ : 0 ≤ J ∧ J ≤ 3) (hV : 0 ≤ V ∧ V ≤ 1) (hK : 0 ≤ K ∧ K ≤ 15) (w : World) :
    Calls Tryd.prog 9 #[.agg #[.int .i64 B, .int .i64 R, .int .i64 P, .int .i64 M, .int .i64 J, .int .i64 V, .int .i64 K]] w fun e w' => e = .returned (.int .u32 (wordOf B R P M J V K)) ∧ Below w.heap.size w w' := by
  have b1 : bits .or .i64 4294639616 (B * 4096) = 4294639616 + B * 4096 := i64_join 16 _ _ (by omega) (by omega) (by omega) (by omega) (by omega) (by omega)
  have b2 : bits .or .i64 (4294639616 + B * 4096) (R * 1024) = 4294639616 + B * 4096 + R * 1024 := i64_join 12 _ _ (by omega) (by omega) (by omega) (by omega) (by omega) (by omega)
  have b3 : bits .or .i64 (4294639616 + B * 4096 + R * 1024) (P * 512) = 4294639616 + B * 4096 + R * 1024 + P * 512 := i64_join 10 _ _ (by omega) (by omega) (by omega) (by omega) (by omega) (by omega)
  have b4 : bits .or .i64 (4294639616 + B * 4096 + R * 1024 + P * 512) (V * 256) = 4294639616 + B * 4096 + R * 1024 + P * 512 + V * 256 := i64_join 9 _ _ (by omega) (by omega) (by omega) (by omega) (by omega) (by omega)
  have b5 : bits .or .i64 (4294639616 + B * 4096 + R * 1024 + P * 512 + V * 256) (M * 64) = 4294639616 + B * 4096 + R * 1024 + P * 512 + V * 256 + M * 64 := i64_join 8 _ _ (by omega) (by omega) (by omega) (by omega) (by omega) (by omega)
  have b6 : bits .or .i64 (4294639616 + B * 4096 + R * 1024 + P * 512 + V * 256 + M * 64) (J * 16) = 4294639616 + B * 4096 + R * 1024 + P * 512 + V * 256 + M * 64 + J * 16 := i64_join 6 _ _ (by omega) (by omega) (by omega) (by omega) (by omega) (by omega)
  have b7 : bits .or .i64 (4294639616 + B * 4096 + R * 1024 + P * 512 + V * 256 + M * 64 + J * 16) K = 4294639616 + B * 4096 + R * 1024 + P * 512 + V * 256 + M * 64 + J * 16 + K := i64_join 4 _ _ (by omega) (by omega) (by omega) (by omega) (by omega) (by omega)
  have c1 := hB.1; have c2 := hB.2; have c3 := hR.1; have c4 := hR.2; have c5 := hP.1; have c6 := hP.2; have c7 := hM.1; have c8 := hM.2
  have d1 := hJ.1; have d2 := hJ.2; have d3 := hV.1; have d4 := hV.2; have d5 := hK.1; have d6 := hK.2
  clear hB hR hP hM hJ hV hK
  go_enter Tryd.func9, Tryd.ntmps9
  go_wp2
  go_returns
  exact ⟨rfl, by go_grown⟩

end Go.Proofs.YtppfldobgemddaaDoor
namespace Go.Proofs.YtppfldobgemddaaDoor
open Go.RowKit
set_option linter.unusedVariables false

def fID (x : Int) : Int := x / 524288 % 4
def fLayer (x : Int) : Int := x / 131072 % 4
def fProt (x : Int) : Int := x / 65536 % 2
def fBI (x : Int) : Int := x / 4096 % 16
def fSF (x : Int) : Int := x / 1024 % 4
def fPad (x : Int) : Int := x / 512 % 2
def fPriv (x : Int) : Int := x / 256 % 2
def fMode (x : Int) : Int := x / 64 % 4
def fExt (x : Int) : Int := x / 16 % 4
def fCopy (x : Int) : Int := x / 8 % 2
def fOrig (x : Int) : Int := x / 4 % 2
def fEmph (x : Int) : Int := x % 4

set_option maxHeartbeats 400000 in
theorem ID_any (x : Int) (h0 : 0 ≤ x) (h1 : x ≤ 4294967295) (w : World) :
    Calls Tryd.prog 77 #[.int .u32 x] w fun e w' => e = .returned (.int .i64 (fID x)) ∧ w = w' := by
  have b : bits .and .u32 x 1572864 = x / 524288 % 4 * 524288 := by have := u32_field 19 2 (by decide) x h0 h1; simpa using this
  have c : x / 524288 % 4 * 524288 / 524288 = x / 524288 % 4 := by omega
  go_enter Tryd.func77, Tryd.ntmps77
  go_wp2
  go_ret
  exact ⟨rfl, rfl⟩

set_option maxHeartbeats 400000 in
theorem Layer_any (x : Int) (h0 : 0 ≤ x) (h1 : x ≤ 4294967295) (w : World) :
    Calls Tryd.prog 79 #[.int .u32 x] w fun e w' => e = .returned (.int .i64 (fLayer x)) ∧ w = w' := by
  have b : bits .and .u32 x 393216 = x / 131072 % 4 * 131072 := by have := u32_field 17 2 (by decide) x h0 h1; simpa using this
  have c : x / 131072 % 4 * 131072 / 131072 = x / 131072 % 4 := by omega
  go_enter Tryd.func79, Tryd.ntmps79
  go_wp2
  go_ret
  exact ⟨rfl, rfl⟩

set_option maxHeartbeats 400000 in
theorem Prot_any (x : Int) (h0 : 0 ≤ x) (h1 : x ≤ 4294967295) (w : World) :
    Calls Tryd.prog 63 #[.int .u32 x] w fun e w' => e = .returned (.int .i64 (fProt x)) ∧ w = w' := by
  have b : bits .and .u32 x 65536 = x / 65536 % 2 * 65536 := by have := u32_field 16 1 (by decide) x h0 h1; simpa using this
  have c : x / 65536 % 2 * 65536 / 65536 = x / 65536 % 2 := by omega
  go_enter Tryd.func63, Tryd.ntmps63
  go_wp2
  go_ret
  exact ⟨rfl, rfl⟩

set_option maxHeartbeats 400000 in
theorem BI_any (x : Int) (h0 : 0 ≤ x) (h1 : x ≤ 4294967295) (w : World) :
    Calls Tryd.prog 58 #[.int .u32 x] w fun e w' => e = .returned (.int .i64 (fBI x)) ∧ w = w' := by
  have b : bits .and .u32 x 61440 = x / 4096 % 16 * 4096 := by have := u32_field 12 4 (by decide) x h0 h1; simpa using this
  have c : x / 4096 % 16 * 4096 / 4096 = x / 4096 % 16 := by omega
  go_enter Tryd.func58, Tryd.ntmps58
  go_wp2
  go_ret
  exact ⟨rfl, rfl⟩

set_option maxHeartbeats 400000 in
theorem SF_any (x : Int) (h0 : 0 ≤ x) (h1 : x ≤ 4294967295) (w : World) :
    Calls Tryd.prog 78 #[.int .u32 x] w fun e w' => e = .returned (.int .i64 (fSF x)) ∧ w = w' := by
  have b : bits .and .u32 x 3072 = x / 1024 % 4 * 1024 := by have := u32_field 10 2 (by decide) x h0 h1; simpa using this
  have c : x / 1024 % 4 * 1024 / 1024 = x / 1024 % 4 := by omega
  go_enter Tryd.func78, Tryd.ntmps78
  go_wp2
  go_ret
  exact ⟨rfl, rfl⟩

set_option maxHeartbeats 400000 in
theorem Pad_any (x : Int) (h0 : 0 ≤ x) (h1 : x ≤ 4294967295) (w : World) :
    Calls Tryd.prog 83 #[.int .u32 x] w fun e w' => e = .returned (.int .i64 (fPad x)) ∧ w = w' := by
  have b : bits .and .u32 x 512 = x / 512 % 2 * 512 := by have := u32_field 9 1 (by decide) x h0 h1; simpa using this
  have c : x / 512 % 2 * 512 / 512 = x / 512 % 2 := by omega
  go_enter Tryd.func83, Tryd.ntmps83
  go_wp2
  go_ret
  exact ⟨rfl, rfl⟩

set_option maxHeartbeats 400000 in
theorem Mode_any (x : Int) (h0 : 0 ≤ x) (h1 : x ≤ 4294967295) (w : World) :
    Calls Tryd.prog 67 #[.int .u32 x] w fun e w' => e = .returned (.int .i64 (fMode x)) ∧ w = w' := by
  have b : bits .and .u32 x 192 = x / 64 % 4 * 64 := by have := u32_field 6 2 (by decide) x h0 h1; simpa using this
  have c : x / 64 % 4 * 64 / 64 = x / 64 % 4 := by omega
  go_enter Tryd.func67, Tryd.ntmps67
  go_wp2
  go_ret
  exact ⟨rfl, rfl⟩

set_option maxHeartbeats 400000 in
theorem Emph_any (x : Int) (h0 : 0 ≤ x) (h1 : x ≤ 4294967295) (w : World) :
    Calls Tryd.prog 80 #[.int .u32 x] w fun e w' => e = .returned (.int .i64 (fEmph x)) ∧ w = w' := by
  have b : bits .and .u32 x 3 = x % 4 := u32_and3 x
  go_enter Tryd.func80, Tryd.ntmps80
  go_wp2
  go_ret
  exact ⟨rfl, rfl⟩
end Go.Proofs.YtppfldobgemddaaDoor
namespace Go.Proofs.YtppfldobgemddaaDoor
open Go.RowKit
set_option linter.unusedVariables false

/-- The word of the header of a number. -/
def hW (n : Int) : Int := wordOf (hB n) (hR n) (hP n) (hM n) (hJ n) (hV n) (hK n)

theorem m4_bd (m : Int) : 0 ≤ m4 m ∧ m4 m ≤ 3 := by
  unfold m4; split <;> (try split) <;> omega
theorem hB_bd (n : Int) : 9 ≤ hB n ∧ hB n ≤ 14 := by unfold hB; omega
theorem hR_bd (n : Int) : 0 ≤ hR n ∧ hR n ≤ 2 := by unfold hR; omega
theorem hP_bd (n : Int) : 0 ≤ hP n ∧ hP n ≤ 1 := by unfold hP; omega
theorem hM_bd (n : Int) : 0 ≤ hM n ∧ hM n ≤ 3 := m4_bd _
theorem hJ_bd (n : Int) : 0 ≤ hJ n ∧ hJ n ≤ 2 := by unfold hJ; split <;> omega
theorem hV_bd (n : Int) : 0 ≤ hV n ∧ hV n ≤ 1 := by unfold hV; omega
theorem hK_bd (n : Int) : 0 ≤ hK n ∧ hK n ≤ 15 := by have := e3_bd (n / 512 % 3); unfold hK; omega

theorem hW_bd (n : Int) : 0 ≤ hW n ∧ hW n ≤ 4294967295 := by
  have := hB_bd n; have := hR_bd n; have := hP_bd n; have := hM_bd n; have := hJ_bd n; have := hV_bd n; have := hK_bd n
  unfold hW wordOf; omega
theorem fID_hW (n : Int) : fID (hW n) = 3 := by
  have := hB_bd n; have := hR_bd n; have := hP_bd n; have := hM_bd n; have := hJ_bd n; have := hV_bd n; have := hK_bd n
  unfold fID hW wordOf; omega
theorem fSF_hW (n : Int) : fSF (hW n) = hR n := by
  have := hB_bd n; have := hR_bd n; have := hP_bd n; have := hM_bd n; have := hJ_bd n; have := hV_bd n; have := hK_bd n
  unfold fSF hW wordOf; omega

theorem wordH (n : Int) (w : World) :
    Calls Tryd.prog 9 #[.agg #[.int .i64 (hB n), .int .i64 (hR n), .int .i64 (hP n), .int .i64 (hM n), .int .i64 (hJ n), .int .i64 (hV n), .int .i64 (hK n)]] w fun e w' => e = .returned (.int .u32 (hW n)) ∧ Below w.heap.size w w' := by
  have b1 := hB_bd n; have b2 := hR_bd n; have b3 := hP_bd n; have b4 := hM_bd n; have b5 := hJ_bd n; have b6 := hV_bd n; have b7 := hK_bd n
  exact word_any _ _ _ _ _ _ _ (by omega) (by omega) (by omega) (by omega) (by omega) (by omega) (by omega) w

theorem hW_top (n : Int) : 4292870144 ≤ hW n ∧ fLayer (hW n) = 1 ∧ fBI (hW n) = hB n ∧ ¬ fEmph (hW n) = 2 := by
  have := hB_bd n; have := hR_bd n; have := hP_bd n; have := hM_bd n; have := hJ_bd n; have := hV_bd n; have := hK_bd n
  have e : e3 (n / 512 % 3) = 0 ∨ e3 (n / 512 % 3) = 1 ∨ e3 (n / 512 % 3) = 3 := by unfold e3; split <;> (try split) <;> simp
  have hk : hK n = n / 128 % 4 * 4 + e3 (n / 512 % 3) := rfl
  unfold fLayer fBI fEmph hW wordOf
  omega

set_option maxHeartbeats 400000 in
theorem valid_any (x : Int) (h0 : 0 ≤ x) (h1 : x ≤ 4294967295) (hs : 4292870144 ≤ x) (hv : fID x = 3) (hl : fLayer x = 1) (hb : fBI x ≤ 14) (hf : fSF x ≤ 2) (he : ¬ fEmph x = 2) (w : World) :
    Calls Tryd.prog 57 #[.int .u32 x] w fun e w' => e = .returned (.bool true) ∧ w = w' := by
  have hm : bits .and .u32 x 4292870144 = 4292870144 := by
    have := u32_field 21 11 (by decide) x h0 h1
    have e1 : x / 2 ^ 21 % 2 ^ 11 * 2 ^ 21 = (4292870144 : Int) := by
      have : (2 : Int) ^ 21 = 2097152 := by decide
      have : (2 : Int) ^ 11 = 2048 := by decide
      omega
    rw [e1] at this
    simpa using this
  have hb' : fBI x < 15 := by omega
  have hf' : fSF x < 3 := by omega
  go_enter Tryd.func57, Tryd.ntmps57
  go_wp2_with (first | (go_at_call 77; refine (ID_any x h0 h1 _).mono ?_; rintro e w' ⟨rfl, rfl⟩) | (go_at_call 58; refine (BI_any x h0 h1 _).mono ?_; rintro e w' ⟨rfl, rfl⟩) | (go_at_call 78; refine (SF_any x h0 h1 _).mono ?_; rintro e w' ⟨rfl, rfl⟩) | (go_at_call 79; refine (Layer_any x h0 h1 _).mono ?_; rintro e w' ⟨rfl, rfl⟩) | (go_at_call 80; refine (Emph_any x h0 h1 _).mono ?_; rintro e w' ⟨rfl, rfl⟩))
  go_ret
  exact ⟨rfl, rfl⟩

/-- Where the top bits are not all set, it is no header. -/
theorem invalid_any (x : Int) (h0 : 0 ≤ x) (h1 : x < 4278190080) (w : World) :
    Calls Tryd.prog 57 #[.int .u32 x] w fun e w' => e = .returned (.bool false) ∧ w = w' := by
  have hm : bits .and .u32 x 4292870144 = x / 2097152 * 2097152 := by
    have := u32_field 21 11 (by decide) x h0 (by omega)
    have e1 : x / 2 ^ 21 % 2 ^ 11 * 2 ^ 21 = (x / 2097152 * 2097152 : Int) := by
      have : (2 : Int) ^ 21 = 2097152 := by decide
      have : (2 : Int) ^ 11 = 2048 := by decide
      omega
    rw [e1] at this
    simpa using this
  have hne : ¬ (x / 2097152 * 2097152 = 4292870144) := by omega
  go_enter Tryd.func57, Tryd.ntmps57
  go_wp2_with fail
  go_ret
  exact ⟨rfl, rfl⟩

/-- The header that is made is valid. -/
theorem validH (n : Int) (w : World) : Calls Tryd.prog 57 #[.int .u32 (hW n)] w fun e w' => e = .returned (.bool true) ∧ w = w' := by
  have b := hW_bd n; have r := hR_bd n; have s := fSF_hW n; have t := hW_top n; have hb := hB_bd n
  exact valid_any (hW n) b.1 b.2 t.1 (fID_hW n) t.2.1 (by omega) (by omega) t.2.2.2 w
end Go.Proofs.YtppfldobgemddaaDoor
namespace Go.Proofs.YtppfldobgemddaaDoor
open Go.RowKit
set_option linter.unusedVariables false

set_option maxHeartbeats 400000 in
theorem few_any (a b : Option Addr) (n m c d : Nat) (w : World) :
    Calls Tryd.prog 11 #[.slice a n c, .slice b m d] w fun e w' => e = .returned (.bool (decide (n ≤ 100 ∧ m ≤ 1000))) ∧ w = w' := by
  by_cases h1 : n ≤ 100
  · by_cases h2 : m ≤ 1000
    · have e1 : (n : Int) ≤ 100 := by omega
      have e2 : (m : Int) ≤ 1000 := by omega
      go_enter Tryd.func11, Tryd.ntmps11
      go_wp2_with fail
      go_returns
      exact ⟨by simp [h1, h2], rfl⟩
    · have e1 : (n : Int) ≤ 100 := by omega
      have e2 : ¬ (m : Int) ≤ 1000 := by omega
      go_enter Tryd.func11, Tryd.ntmps11
      go_wp2_with fail
      go_returns
      exact ⟨by simp, rfl⟩
  · have e1 : ¬ (n : Int) ≤ 100 := by omega
    go_enter Tryd.func11, Tryd.ntmps11
    go_wp2_with fail
    go_returns
    exact ⟨by simp, rfl⟩

/-- How many channels a mode has. -/
def chans (M : Int) : Nat := if M = 3 then 1 else 2
set_option maxHeartbeats 400000 in
theorem chans_any (B R P M J V K : Int) (w : World) :
    Calls Tryd.prog 25 #[.agg #[.int .i64 B, .int .i64 R, .int .i64 P, .int .i64 M, .int .i64 J, .int .i64 V, .int .i64 K]] w fun e w' => e = .returned (.int .i64 (chans M)) ∧ Below w.heap.size w w' := by
  by_cases h : M = 3
  · subst h
    go_enter Tryd.func25, Tryd.ntmps25
    go_wp2_with fail
    go_returns
    exact ⟨rfl, stpA (stp0 w) _⟩
  · have e : chans M = 2 := by unfold chans; rw [if_neg h]
    rw [e]
    go_enter Tryd.func25, Tryd.ntmps25
    go_wp2_with fail
    go_returns
    exact ⟨rfl, stpA (stp0 w) _⟩
end Go.Proofs.YtppfldobgemddaaDoor
