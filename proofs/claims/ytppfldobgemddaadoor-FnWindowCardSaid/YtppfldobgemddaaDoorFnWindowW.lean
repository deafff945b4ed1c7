/-
  The walk of laws.FnWindow.
-/
import Derived.Test.YtppfldobgemddaaDoorWk
import Derived.Test.YtppfldobgemddaaDoorWx
import Derived.Test.YtppfldobgemddaaDoorWn
import Derived.Test.YtppfldobgemddaaDoorAp
namespace Go.Proofs.YtppfldobgemddaaDoor
open Go.RowKit
set_option linter.unusedVariables false

theorem info70 : (Tryd.prog.info? 70).map (fun i => (i.zero, i.size, i.bytes)) = some (some (.float .f64 0), 1, 8) := by kernel_rfl
/-- A number of eighths as a word of 64 bits, and as one of 32. -/
def e8 (z : Int) : Nat := (Ieee.double.div (floatOfInt .f64 z) 4620693217682128896).getD 0
def s8 (z : Int) : Nat := (to32 (e8 z)).getD 0
theorem e8_some : ∀ z : Fin 256, Ieee.double.div (floatOfInt .f64 ((z.val : Int) - 128)) 4620693217682128896 = some (e8 ((z.val : Int) - 128)) ∧ to32 (e8 ((z.val : Int) - 128)) = some (s8 ((z.val : Int) - 128)) := by decide +kernel
theorem e8_is (z : Int) (h0 : -128 ≤ z) (h1 : z ≤ 127) : Ieee.double.div (floatOfInt .f64 z) 4620693217682128896 = some (e8 z) ∧ to32 (e8 z) = some (s8 z) := by
  have h := e8_some ⟨(z + 128).toNat, by omega⟩
  have e : (((z + 128).toNat : Nat) : Int) - 128 = z := by omega
  simp only [e] at h
  exact h
theorem t5_is : ∀ r : Fin 5, fsub (floatOfInt .f64 (r.val : Int)) 4611686018427387904 = some (e8 (8 * (r.val : Int) - 16)) := by decide +kernel
theorem rowF_succ (k : FloatKind) (x : Nat → Nat) (n : Nat) : rowF k x (n + 1) = rowF k x n ++ [.float k (x n)] := by
  unfold rowF; rw [List.range_succ, List.map_append]; rfl
/-- All that is wanted of the words of a law. -/
structure LawAt (x y : Nat → Nat) (b : Nat) : Prop where
  ex : ∃ (Y Z : Nat → Nat) (t m q tol : Nat),
    ((b ≠ 2 ∧ (∀ p, p < 36 → outO y b p = some (Y p)) ∧ (∀ p, p < 36 → outD x b p = some (Z p))) ∨ (b = 2 ∧ (∀ p, p < 36 → stS y 36 p = some (Y p)) ∧ (∀ p, p < 36 → stD x 36 p = some (Z p)))) ∧
    topO x 18 = some t ∧ fmul 4625759767262920704 t = some m ∧ Ieee.double.div m 4671226772094713856 = some q ∧ fadd q 4472406533629990549 = some tol ∧ ∀ k, k < 36 → NearAt (Y k) (Z k) tol
/-- The numbers of eighths, of the bytes that came in. -/
def VAt (w : World) (a : Option Addr) (n : Nat) (V : Nat → Int) : Prop :=
  ∀ k, k < 18 → -128 ≤ V k ∧ V k ≤ 127 ∧ ((n = 0 ∧ V k = 8 * ((k % 5 : Nat) : Int) - 16) ∨ (0 < n ∧ ∃ b off, a = some ⟨b, off, none⟩ ∧ b < w.heap.size ∧ w.cell? ⟨b, off + k % n, none⟩ = some (.int .i8 (V k))))

set_option maxRecDepth 100000 in
set_option maxHeartbeats 4000000 in
theorem fnWindow_main (a : Option Addr) (n cap : Nat) (hn : n ≤ 2147483647) (B : Int) (b : Nat) (hB : B % 4 = b) (h0 : 0 ≤ B) (h1 : B ≤ 255) (V : Nat → Int) (w : World) (hV : VAt w a n V) (hT : Tabs w) (hL : LawAt (fun k => e8 (V k)) (fun k => s8 (V k)) b) :
    Calls Tryd.prog 6 #[.slice a n cap, .int .u8 B] w fun e w' => e = .returned (.bool true) ∧ Below w.heap.size w w' := by
  obtain ⟨i0, hi, hz0, hz1, hz2⟩ := info_parts info70
  obtain ⟨j0, hj, hy0, hy1, hy2⟩ := info_parts info72
  have HV := Lib.hid hV
  have HLA := Lib.hid hL
  have HBb := Lib.hid hB
  have hb4 : b < 4 := by omega
  clear hV hL hB
  go_enter Tryd.func6, Tryd.ntmps6
  go_wp2_with fail
  have hX0 : ((w.alloc (.cells #[] 70)).alloc (.cells #[] 72)).ownsRow w.heap.size 70 1 (.slice (some ⟨w.heap.size, 0, none⟩) 0 0) 0 (rowF .f64 (fun k => e8 (V k)) 0) := by
    exact (World.ownsRow_made (base := w.heap.size) (e := 70) (size := 1) w #[] 0 (Nat.le_refl _) (by unfold maxLen; omega) rfl).alloc _
  have hY0 : ((w.alloc (.cells #[] 70)).alloc (.cells #[] 72)).ownsRow w.heap.size 72 1 (.slice (some ⟨w.heap.size + 1, 0, none⟩) 0 0) 0 (rowF .f32 (fun k => s8 (V k)) 0) := by
    have := World.ownsRow_made (base := w.heap.size) (e := 72) (size := 1) (w.alloc (.cells #[] 70)) #[] 0 (by simp) (by unfold maxLen; omega) rfl
    simpa [rowF] using this
  have hB0 : Below w.heap.size w ((w.alloc (.cells #[] 70)).alloc (.cells #[] 72)) := stpA (stpA (stp0 w) _) _
  go_loopw [5, 6, 14] (fun xv yv i wr => ∃ (k g5 c5 g6 c6 : Nat), k ≤ 18 ∧ i = .int .i64 k ∧ xv = .slice (some ⟨g5, 0, none⟩) k c5 ∧ yv = .slice (some ⟨g6, 0, none⟩) k c6 ∧ g5 ≠ g6 ∧
      wr.ownsRow w.heap.size 70 1 (.slice (some ⟨g5, 0, none⟩) k c5) k (rowF .f64 (fun k => e8 (V k)) k) ∧ wr.ownsRow w.heap.size 72 1 (.slice (some ⟨g6, 0, none⟩) k c6) k (rowF .f32 (fun k => s8 (V k)) k) ∧ Below w.heap.size w wr)
    (fun _ _ i _ => 18 - (intOf i).toNat)
  case atStart => exact ⟨0, _, _, _, _, Nat.zero_le _, rfl, rfl, rfl, by omega, hX0, hY0, hB0⟩
  case round =>
    clear hX0 hY0 hB0
    obtain ⟨k, g5, c5, g6, c6, hk, rfl, rfl, rfl, hne, hX, hY, hB⟩ := hrel
    by_cases hlt : k < 18
    · have d1 : decide ((k : Int) < 18) = true := decide_eq_true (by omega)
      obtain ⟨v0, v1, hway⟩ := HV.out k hlt
      obtain ⟨z, hz⟩ : ∃ z, z = V k := ⟨_, rfl⟩
      rw [← hz] at v0 v1 hway
      have HZ := Lib.hid hz
      obtain ⟨q1, q2⟩ := e8_is z v0 v1
      have hg6 := (hY.lt g6 rfl).2
      have hge5 := ownedGe hX (j := g5) rfl
      have hge6 := ownedGe hY (j := g6) rfl
      obtain ⟨r, hr⟩ : ∃ r, r = k % 5 := ⟨_, rfl⟩
      have hr5 : r < 5 := by omega
      have e0 := opsub (t5_is ⟨r, hr5⟩)
      have hrk : (k : Int) % 5 = r := by omega
      have e2 := opto32 q2
      obtain ⟨X, hXe⟩ : ∃ X, X = e8 z := ⟨_, rfl⟩
      obtain ⟨Yw, hYe⟩ : ∃ Yw, Yw = s8 z := ⟨_, rfl⟩
      have HXE := Lib.hid hXe
      have HYE := Lib.hid hYe
      rw [← hXe, ← hYe] at e2
      rw [← hXe] at q1
      rcases hway with ⟨hn0, hv⟩ | ⟨hn0, vb, voff, rfl, hvb, hvc⟩
      · have hle : (n : Int) ≤ 0 := by omega
        clear hn0
        have hzr : z = 8 * (r : Int) - 16 := by rw [hv, hr]
        have e0' : ∀ t w, (binOp .sub t (.float .f64 (floatOfInt .f64 (r : Int))) (.float .f64 4611686018427387904)).run Tryd.prog w = .ok (.float .f64 X) w := by rw [hXe, hzr]; exact e0
        clear hz q1 q2 e0 hXe hYe hv hzr hr
        go_wp2_with (first
          | (at_builtin; refine append_apart rfl (.tmp 33) (.tmp 35) 69 rfl w.heap.size 70 i0 (.float .f64 0) 8 Tryd.underlying69 hi hz0 hz1 hz2 rfl g5 k c5 _ rfl (hX.alloc _) ⟨wr.heap.size, 0, none⟩ 1 1 [.float .f64 X] rfl (by decide) rfl (cell_one_new _ _ _) (by simp [Value.oneCell']) (by unfold maxLen; omega) (by omega) (by simp; omega) ?_; intro g5' c5' w3 hX3 hgr3 hor3; (have hY3 := (hY.alloc (.cells #[.float .f64 X] 70)).kept hgr3 (.inr (by simp [Value.ownBlock]; omega))); (have hB3 : Below w.heap.size w w3 := (stpA hB (.cells #[.float .f64 X] 70)).grown hgr3 (by simp; omega) (by intro j hj; injection hj with hj; subst hj; exact hge5)); (have hne3 : g5' ≠ g6 := by rcases hor3 with h | h <;> first | omega | (simp at h; omega)); (have hsz3 : wr.heap.size < w3.heap.size := by have := hgr3.size; simp at this; omega); clear hX hY hgr3 hor3 hB)
          | (at_builtin; refine append_apart rfl (.tmp 37) (.tmp 40) 54 rfl w.heap.size 72 j0 (.float .f32 0) 4 Tryd.underlying54 hj hy0 hy1 hy2 rfl g6 k c6 _ rfl (hY3.alloc _) ⟨w3.heap.size, 0, none⟩ 1 1 [.float .f32 Yw] rfl (by decide) rfl (cell_one_new _ _ _) (by simp [Value.oneCell']) (by unfold maxLen; omega) (by omega) (by simp; omega) ?_; intro g6' c6' w4 hY4 hgr4 hor4))
        have hg5 := (hX3.lt g5' rfl).2
        have hX4 := (hX3.alloc (.cells #[.float .f32 Yw] 72)).kept hgr4 (.inr (by simp [Value.ownBlock]; omega))
        have hB4 : Below w.heap.size w w4 := (stpA hB3 (.cells #[.float .f32 Yw] 72)).grown hgr4 (by simp; omega) (by intro j hj; injection hj with hj; subst hj; exact hge6)
        have hne4 : g5' ≠ g6' := by rcases hor4 with h | h <;> first | omega | (simp at h; omega)
        clear hX3 hY3 hgr4 hor4 hB3
        refine ⟨⟨k + 1, g5', c5', g6', c6', by omega, by go_num, rfl, rfl, hne4, ?_, ?_, hB4⟩, by simp [intOf]; omega⟩
        · rw [rowF_succ, ← HZ.out, ← HXE.out]; exact hX4
        · rw [rowF_succ, ← HZ.out, ← HYE.out]; exact hY4
      · have hmod : k % n < n := Nat.mod_lt _ hn0
        obtain ⟨mm, hmm⟩ : ∃ mm, mm = k % n := ⟨_, rfl⟩
        have hvc' : wr.cell? ⟨vb, voff + k % n, none⟩ = some (.int .i8 z) := by rw [hB.cell (by exact hvb)]; exact hvc
        have e1 := opquo q1
        have hn1 : (1 : Int) ≤ (n : Int) := by omega
        rw [← hmm] at hvc' hmod
        have hkm : (k : Int) % (n : Int) = (mm : Int) := by rw [hmm]; simp
        clear hz q1 q2 hXe hYe hr hvc hmm
        go_wp2_with (first
          | (at_builtin; refine append_apart rfl (.tmp 33) (.tmp 35) 69 rfl w.heap.size 70 i0 (.float .f64 0) 8 Tryd.underlying69 hi hz0 hz1 hz2 rfl g5 k c5 _ rfl (hX.alloc _) ⟨wr.heap.size, 0, none⟩ 1 1 [.float .f64 X] rfl (by decide) rfl (cell_one_new _ _ _) (by simp [Value.oneCell']) (by unfold maxLen; omega) (by omega) (by simp; omega) ?_; intro g5' c5' w3 hX3 hgr3 hor3; (have hY3 := (hY.alloc (.cells #[.float .f64 X] 70)).kept hgr3 (.inr (by simp [Value.ownBlock]; omega))); (have hB3 : Below w.heap.size w w3 := (stpA hB (.cells #[.float .f64 X] 70)).grown hgr3 (by simp; omega) (by intro j hj; injection hj with hj; subst hj; exact hge5)); (have hne3 : g5' ≠ g6 := by rcases hor3 with h | h <;> first | omega | (simp at h; omega)); (have hsz3 : wr.heap.size < w3.heap.size := by have := hgr3.size; simp at this; omega); clear hX hY hgr3 hor3 hB)
          | (at_builtin; refine append_apart rfl (.tmp 37) (.tmp 40) 54 rfl w.heap.size 72 j0 (.float .f32 0) 4 Tryd.underlying54 hj hy0 hy1 hy2 rfl g6 k c6 _ rfl (hY3.alloc _) ⟨w3.heap.size, 0, none⟩ 1 1 [.float .f32 Yw] rfl (by decide) rfl (cell_one_new _ _ _) (by simp [Value.oneCell']) (by unfold maxLen; omega) (by omega) (by simp; omega) ?_; intro g6' c6' w4 hY4 hgr4 hor4))
        have hg5 := (hX3.lt g5' rfl).2
        have hX4 := (hX3.alloc (.cells #[.float .f32 Yw] 72)).kept hgr4 (.inr (by simp [Value.ownBlock]; omega))
        have hB4 : Below w.heap.size w w4 := (stpA hB3 (.cells #[.float .f32 Yw] 72)).grown hgr4 (by simp; omega) (by intro j hj; injection hj with hj; subst hj; exact hge6)
        have hne4 : g5' ≠ g6' := by rcases hor4 with h | h <;> first | omega | (simp at h; omega)
        clear hX3 hY3 hgr4 hor4 hB3
        refine ⟨⟨k + 1, g5', c5', g6', c6', by omega, by go_num, rfl, rfl, hne4, ?_, ?_, hB4⟩, by simp [intOf]; omega⟩
        · rw [rowF_succ, ← HZ.out, ← HXE.out]; exact hX4
        · rw [rowF_succ, ← HZ.out, ← HYE.out]; exact hY4
    · obtain rfl : k = 18 := by omega
      rw [show ((18 : Nat) : Int) = 18 from rfl]
      obtain ⟨Y, Z, t, m, q, tol, hyz, ht, hm, hq, htol, hnear⟩ := HLA.out.ex
      have cx : ∀ j, j < 18 → wr.cell? ⟨g5, j, none⟩ = some (.float .f64 ((fun k => e8 (V k)) j)) := fun j hj => by
        rw [hX.cellAt j (by omega)]; exact rowF_at _ _ _ _ hj
      have cy : ∀ j, j < 18 → wr.cell? ⟨g6, j, none⟩ = some (.float .f32 ((fun k => s8 (V k)) j)) := fun j hj => by
        rw [hY.cellAt j (by omega)]; exact rowF_at _ _ _ _ hj
      have lt5 := (hX.lt g5 rfl).2
      have lt6 := (hY.lt g6 rfl).2
      have hTr := hT.below hB
      have HCX := Lib.hid cx
      have HCY := Lib.hid cy
      have HNE := Lib.hid hnear
      have HTT := Lib.hid ht
      have HQ := Lib.hid hq
      have HTO := Lib.hid htol
      have HB := Lib.hid hB
      have e1 := opmul hm
      have he := HBb.out
      have hwin : ∀ bi c w, Tabs w → bi < w.heap.size → (∀ j, j < 18 → w.cell? ⟨bi, j, none⟩ = some (.float .f32 ((fun k => s8 (V k)) j))) → Calls Tryd.prog 35 #[.slice (some ⟨bi, 0, none⟩) 18 c, .int .i64 b] w (Told36 Y w) := by
        intro bi c w hT hbi hx
        rcases hyz with ⟨hb2, hy, _⟩ | ⟨rfl, hy, _⟩
        · exact winLong_any bi _ Y b hb4 hb2 c w hT hbi hx hy
        · exact winShort_any bi _ Y c w hT hbi hx hy
      have htur : ∀ bi c w, Tabs w → bi < w.heap.size → (∀ j, j < 18 → w.cell? ⟨bi, j, none⟩ = some (.float .f64 ((fun k => e8 (V k)) j))) → Calls Tryd.prog 19 #[.slice (some ⟨bi, 0, none⟩) 18 c, .int .i64 b] w (ToldD Z w) := by
        intro bi c w hT hbi hx
        rcases hyz with ⟨hb2, _, hz⟩ | ⟨rfl, _, hz⟩
        · exact turnedLong_any bi _ Z b (by omega) c w hT hbi hx hz
        · exact turnedShort_any bi _ Z c w hT hbi hx hz
      have HWIN := Lib.hid hwin
      have HTUR := Lib.hid htur
      clear cx cy hnear ht hq htol hm hyz hX hY hB hwin htur hlt hk
      go_wp2_with fail
      refine (window_of b _ Y HWIN.out g6 c6 _ hTr HCY.out).mono ?_
      rintro e w1 ⟨ga, ca, rfl, hgea, hlta, hca, hb1⟩
      have HB1 := Lib.hid (stp HB.out hb1)
      have HCA := Lib.hid hca
      have HCX1 : Hid (∀ j, j < 18 → w1.cell? ⟨g5, j, none⟩ = some (.float .f64 ((fun k => e8 (V k)) j))) := Lib.hid fun j hj => by rw [hb1.cell (p := ⟨g5, j, none⟩) lt5]; exact HCX.out j hj
      have lt51 : g5 < w1.heap.size := Nat.lt_of_lt_of_le lt5 hb1.size
      have hT1 := hT.below HB1.out
      clear hca hb1 HCX HCY HB HWIN hTr hgea lt6 lt5
      go_wp2_with fail
      refine (HTUR.out g5 c5 _ hT1 lt51 HCX1.out).mono ?_
      rintro e w2 ⟨gb, rfl, hgeb, htb, hb2⟩
      have HB2 := Lib.hid (stp HB1.out hb2)
      have HCB : Hid (∀ j, j < 36 → w2.cell? ⟨gb, j, none⟩ = some (.float .f64 (Z j))) := Lib.hid fun j hj => by
        obtain ⟨v, hv, hp⟩ := htb.cell j hj
        rw [hv, hp hj]
      have HCA2 : Hid (∀ j, j < 36 → w2.cell? ⟨ga, j, none⟩ = some (.float .f32 (Y j))) := Lib.hid fun j hj => by rw [hb2.cell (p := ⟨ga, j, none⟩) hlta]; exact HCA.out j hj
      have HCX2 : Hid (∀ j, j < 18 → w2.cell? ⟨g5, j, none⟩ = some (.float .f64 ((fun k => e8 (V k)) j))) := Lib.hid fun j hj => by rw [hb2.cell (p := ⟨g5, j, none⟩) lt51]; exact HCX1.out j hj
      clear htb hb2 HCA HCX1 HB1 HTUR hT1
      go_wp2_with fail
      refine (greatest_any g5 18 c5 t (by decide) _ HTT.out _ HCX2.out).mono ?_
      rintro e w3 ⟨rfl, rfl⟩
      go_wp2_with fail
      refine (near_any ga gb 36 ca 36 m q tol (by decide) Y Z HQ.out HTO.out HNE.out _ HCA2.out HCB.out).mono ?_
      rintro e w4 ⟨rfl, nd, rfl⟩
      go_wp2_with fail
      go_ret
      exact ⟨rfl, stpN HB2.out _⟩

set_option maxRecDepth 100000 in
set_option maxHeartbeats 400000 in
theorem fnWindow_big (a : Option Addr) (n cap : Nat) (hn : 2147483647 < n) (B : Int) (w : World) :
    Calls Tryd.prog 6 #[.slice a n cap, .int .u8 B] w fun e w' => e = .returned (.bool true) ∧ Below w.heap.size w w' := by
  have h1 : (2147483647 : Int) < n := by omega
  go_enter Tryd.func6, Tryd.ntmps6
  go_wp2_with fail
  go_ret
  exact ⟨rfl, stp0 w⟩
end Go.Proofs.YtppfldobgemddaaDoor
