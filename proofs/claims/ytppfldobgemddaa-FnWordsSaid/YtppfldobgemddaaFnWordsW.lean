/-
  The walk of laws.FnWords.
-/
import Derived.Test.YtppfldobgemddaaWo
import Derived.Test.YtppfldobgemddaaAp
namespace Go.Proofs.Ytppfldobgemddaa
open Go.RowKit
set_option linter.unusedVariables false

theorem iwords0_tail (a : Option Addr) (n c : Nat) (la : Option Addr) (lcap : Nat) (D : List Int) (nw : Nat → Nat) (w : World)
    (hcl : Calls Try.prog 27 #[.slice a n c] w fun e w' => (∃ a' n' c', e = .returned (.slice a' n' c')) ∧ Below w.heap.size w w') :
    Calls Try.prog 14 #[.slice a n c, .slice la 0 lcap] w (WordsLeft D nw 0 w) := by
  have HC := Lib.hid hcl
  clear hcl
  go_enter Try.func14, Try.ntmps14
  go_wp2_with fail
  refine HC.out.mono ?_
  rintro e w1 ⟨⟨a', n', c', rfl⟩, hb1⟩
  clear HC
  go_wp2_with fail
  refine (new_any _ _ _ _).mono ?_
  rintro e w2 ⟨rfl, rfl⟩
  go_wp2_with fail
  have hx1 : ((w1.alloc (.cells #[.slice a' n' c', .int .i64 0, .int .i64 0] 71)).alloc (.cells #[] 3)).cell? ⟨w1.heap.size, 1, none⟩ = some (.int .i64 (0 % 8 : Nat)) := by simp
  have hx2 : ((w1.alloc (.cells #[.slice a' n' c', .int .i64 0, .int .i64 0] 71)).alloc (.cells #[] 3)).cell? ⟨w1.heap.size, 2, none⟩ = some (.int .i64 (0 / 8 : Nat)) := by simp
  refine wp_loop_rounds 1 ?_
  rw [rounds_succ]
  go_wp2_with fail
  refine (bitpos_any w1.heap.size 0 (by omega) _ hx1 hx2).mono ?_
  rintro e wf ⟨rfl, nd, rfl⟩
  have hown0 : ((w1.alloc (.cells #[.slice a' n' c', .int .i64 0, .int .i64 0] 71)).alloc (.cells #[] 3)).ownsRow (w1.heap.size + 1) 3 1 (.slice (some ⟨w1.heap.size + 1, 0, none⟩) 0 0) 0 ((wordsOf D nw 0).map (Value.int .i64)) := by
    have := World.ownsRow_made (base := w1.heap.size + 1) (e := 3) (size := 1) (w1.alloc (.cells #[.slice a' n' c', .int .i64 0, .int .i64 0] 71)) #[] 0 (by simp) (by unfold maxLen; omega) rfl
    simpa [wordsOf] using this
  have hsz := hb1.size
  clear hx1 hx2
  go_wp2_with fail
  go_ret2
  exact ⟨_, rfl, owns_base (base := w1.heap.size + 1) hown0 (by omega), stpN (stpA (stpA hb1 _) _) _⟩

/-- What is known of a slice of bytes that came in: no element, or its cells. -/
def DataIs (w : World) (a : Option Addr) (D : List Int) : Prop :=
  D.length = 0 ∨ ∃ b off, a = some ⟨b, off, none⟩ ∧ b < w.heap.size ∧ ∀ j, j < D.length → w.cell? ⟨b, off + j, none⟩ = some (.int .u8 (D.getD j 0))

theorem words_call (a0 : Option Addr) (cap0 : Nat) (D : List Int) (hD : Bytes D) (w : World) (hdat : DataIs w a0 D) (hcap : a0 = none → cap0 = 0)
    (lv : Value) (base m : Nat) (nw : Nat → Nat) (hm : m ≤ 100000) (hnw : ∀ j, j < m → 1 ≤ nw j ∧ nw j ≤ 24) (hfit : posOf nw m ≤ 8 * D.length)
    (hl : w.ownsRow base 3 1 lv m ((List.range m).map fun i => Value.int .i64 (nw i))) :
    Calls Try.prog 14 #[.slice a0 D.length cap0, lv] w (WordsLeft D nw m w) := by
  by_cases h0 : m = 0
  · subst h0
    obtain ⟨la, lc, rfl⟩ := owned_slice hl
    refine iwords0_tail a0 D.length cap0 la lc D nw w ?_
    rcases hdat with h | ⟨b, off, rfl, hb, hc⟩
    · rw [h]
      cases a0 with
      | none =>
        have := hcap rfl
        subst this
        exact (cloneNil_any w).mono fun e w' ⟨he, hw⟩ => ⟨⟨_, _, _, he⟩, hw ▸ stp0 w⟩
      | some x =>
        exact (cloneEmpty_any x cap0 w).mono fun e w' ⟨⟨v, he, ho⟩, hb⟩ => by
          obtain ⟨a, c, rfl⟩ := owned_slice ho
          exact ⟨⟨_, _, _, he⟩, hb⟩
    · exact (cloneBytes_any b off D.length cap0 D rfl hD.2 w hc).mono fun e w' ⟨⟨v, he, ho⟩, hb⟩ => by
        obtain ⟨a, c, rfl⟩ := owned_slice ho
        exact ⟨⟨_, _, _, he⟩, hb⟩
  · have h1 : 1 ≤ posOf nw m := by
      have h2 := posOf_le nw 1 m (by omega)
      have h3 := (hnw 0 (by omega)).1
      have h4 : posOf nw 1 = 0 + nw 0 := rfl
      omega
    rcases hdat with h | ⟨b, off, rfl, hb, hc⟩
    · omega
    · rcases hl.2 with ⟨_, h⟩ | ⟨g, cap, cur, rfl, hg, hh, _⟩
      · omega
      · refine iwords_any b off D.length cap0 D hD rfl (by omega) g m cap nw hm hnw hfit w hc (fun j hj => ?_) (hl.lt g rfl).2
        rw [hl.cellAt j (by omega)]
        simp [hj]

/-- The widths that bytes tell. -/
def nwOf (Z : List Int) (j : Nat) : Nat := 1 + (Z.getD j 0 % 24).toNat
theorem nwOf_bd (Z : List Int) (j : Nat) : 1 ≤ nwOf Z j ∧ nwOf Z j ≤ 24 := by unfold nwOf; omega
def widthsOf (Z : List Int) (k : Nat) : List Value := (List.range k).map fun i => Value.int .i64 (nwOf Z i)
theorem widthsOf_succ (Z : List Int) (k : Nat) : widthsOf Z (k + 1) = widthsOf Z k ++ [Value.int .i64 (nwOf Z k)] := by
  unfold widthsOf; rw [List.range_succ, List.map_append]; rfl

theorem DataIs.below {w w' : World} {a : Option Addr} {D : List Int} (h : DataIs w a D) (hb : Below w.heap.size w w') : DataIs w' a D := by
  rcases h with h | ⟨b, off, ha, hlt, hc⟩
  · exact .inl h
  · exact .inr ⟨b, off, ha, Nat.lt_of_lt_of_le hlt hb.size, fun j hj => (hb.cell (p := ⟨b, off + j, none⟩) hlt).trans (hc j hj)⟩
/-- A slice at this address holds these numbers. -/
def OwnAt (w : World) (a : Option Addr) (n : Nat) (zs : List Int) : Prop := ∀ j, j < n → ∃ g, a = some ⟨g, 0, none⟩ ∧ w.cell? ⟨g, j, none⟩ = some (.int .i64 (zs.getD j 0))
theorem owned_at {w : World} {base n c : Nat} {a : Option Addr} {zs : List Int} (h : w.ownsRow base 3 1 (.slice a n c) n (zs.map (Value.int .i64))) : OwnAt w a n zs := by
  intro j hj
  have hl : zs.length = n := by have := h.1; simpa using this
  rcases h.2 with ⟨_, h0⟩ | ⟨g, cap, cur, he, _, _⟩
  · omega
  · injection he with he _ _
    subst he
    refine ⟨g, rfl, ?_⟩
    rw [h.cellAt j (by omega), List.getD_eq_getElem?_getD]
    simp [hl, hj]
theorem one_call (x y : Nat) (w : World) (h0 : w.cell? ⟨x, 0, none⟩ = some (.int .u8 128)) (h1 : w.cell? ⟨y, 0, none⟩ = some (.int .i64 1)) (hy : y < w.heap.size) :
    Calls Try.prog 14 #[.slice (some ⟨x, 0, none⟩) 1 1, .slice (some ⟨y, 0, none⟩) 1 1] w fun e w' => ∃ g c, e = .returned (.tuple #[.slice (some ⟨g, 0, none⟩) 1 c, .int .i64 1]) ∧ w'.cell? ⟨g, 0, none⟩ = some (.int .i64 1) ∧ Below w.heap.size w w' := by
  refine (iwords_any x 0 1 1 [128] ⟨fun j => ?_, by decide⟩ rfl (Nat.le_refl _) y 1 1 (fun _ => 1) (by decide) (fun _ _ => by decide) (by decide) w (fun j hj => ?_) (fun j hj => ?_) hy).mono ?_
  · rcases j with _ | j <;> simp
  · obtain rfl : j = 0 := by omega
    exact h0
  · obtain rfl : j = 0 := by omega
    exact h1
  · rintro e w' ⟨v, rfl, ho, hb⟩
    obtain ⟨a, c, rfl⟩ := owned_slice ho
    obtain ⟨g, rfl, hc⟩ := owned_at ho 0 (by decide)
    exact ⟨g, c, rfl, hc, hb⟩

set_option maxRecDepth 100000 in
set_option maxHeartbeats 2000000 in
theorem fnWords_main (a0 a1 : Option Addr) (cap0 cap1 : Nat) (D Z : List Int) (hD : Bytes D) (hZ : Bytes Z) (h0 : D.length ≤ 1000) (h1 : Z.length ≤ 100) (w : World)
    (hcap : a0 = none → cap0 = 0) (d0 : DataIs w a0 D) (d1 : DataIs w a1 Z) :
    Calls Try.prog 5 #[.slice a0 D.length cap0, .slice a1 Z.length cap1] w fun e w' => e = .returned (.bool true) ∧ Below w.heap.size w w' := by
  obtain ⟨i0, hi, hz0, hz1, hz2⟩ := info_parts info3
  have HD0 := Lib.hid d0
  have HD1 := Lib.hid d1
  have HC := Lib.hid hcap
  clear d0 d1 hcap
  go_enter Try.func5, Try.ntmps5
  go_wp2_with fail
  have hL0 : ((w.alloc (.cells #[] 3)).alloc (.cells #[] 3)).ownsRow w.heap.size 3 1 (.slice (some ⟨w.heap.size, 0, none⟩) 0 0) 0 (widthsOf Z 0) := by
    exact (World.ownsRow_made (base := w.heap.size) (e := 3) (size := 1) w #[] 0 (Nat.le_refl _) (by unfold maxLen; omega) rfl).alloc _
  have hW0 : ((w.alloc (.cells #[] 3)).alloc (.cells #[] 3)).ownsRow w.heap.size 3 1 (.slice (some ⟨w.heap.size + 1, 0, none⟩) 0 0) 0 ((wordsOf D (nwOf Z) 0).map (Value.int .i64)) := by
    have := World.ownsRow_made (base := w.heap.size) (e := 3) (size := 1) (w.alloc (.cells #[] 3)) #[] 0 (by simp) (by unfold maxLen; omega) rfl
    simpa [wordsOf] using this
  have hB0 : Below w.heap.size w ((w.alloc (.cells #[] 3)).alloc (.cells #[] 3)) := stpA (stpA (stp0 w) _) _
  go_loopw [5, 6, 7, 38] (fun lv wv at' i wr => ∃ (k g5 c5 g6 c6 : Nat), k ≤ Z.length ∧ i = .int .i64 k ∧ lv = .slice (some ⟨g5, 0, none⟩) k c5 ∧ wv = .slice (some ⟨g6, 0, none⟩) k c6 ∧ at' = .int .i64 (posOf (nwOf Z) k) ∧ posOf (nwOf Z) k ≤ 8 * D.length ∧ g5 ≠ g6 ∧
      wr.ownsRow w.heap.size 3 1 (.slice (some ⟨g5, 0, none⟩) k c5) k (widthsOf Z k) ∧ wr.ownsRow w.heap.size 3 1 (.slice (some ⟨g6, 0, none⟩) k c6) k ((wordsOf D (nwOf Z) k).map (Value.int .i64)) ∧ Below w.heap.size w wr)
    (fun _ _ _ i _ => Z.length - (intOf i).toNat)
  case atStart => exact ⟨0, _, _, _, _, Nat.zero_le _, rfl, rfl, rfl, rfl, Nat.zero_le _, by omega, hL0, hW0, hB0⟩
  case round =>
    clear hL0 hW0 hB0
    obtain ⟨k, g5, c5, g6, c6, hk, rfl, rfl, rfl, rfl, hpl, hne, hL, hW, hB⟩ := hrel
    by_cases hlt : k < Z.length
    · rcases HD1.out with h | ⟨wb, woff, rfl, hwb, hwc⟩
      · omega
      have hzc : wr.cell? ⟨wb, woff + k, none⟩ = some (.int .u8 (Z.getD k 0)) := by rw [hB.cell (by exact hwb)]; exact hwc k hlt
      have hzb := hZ.1 k
      obtain ⟨p, hp⟩ : ∃ p, p = posOf (nwOf Z) k := ⟨_, rfl⟩
      obtain ⟨q, hq⟩ : ∃ q, q = (Z.getD k 0 % 24).toNat := ⟨_, rfl⟩
      have hnq : nwOf Z k = 1 + q := by rw [hq]; rfl
      have he : Z.getD k 0 % 24 = (q : Int) := by omega
      have hq2 : q ≤ 23 := by omega
      obtain ⟨zk, hzk⟩ : ∃ zk, zk = Z.getD k 0 := ⟨_, rfl⟩
      rw [← hzk] at hzc hzb he
      rw [← hp] at hpl ⊢
      have hzb0 := hzb.1
      have hzb1 := hzb.2
      have HP := Lib.hid hp
      have HNQ := Lib.hid hnq
      clear hp hq hzk hnq hwc hzb
      by_cases hfit : p + (1 + q) ≤ 8 * D.length
      · go_wp2_with fail
        rcases HD0.out with h | ⟨b, off, rfl, hbb, hbc⟩
        · omega
        have HBC := Lib.hid (fun j (hj : j < D.length) => (hB.cell (p := ⟨b, off + j, none⟩) (by exact hbb)).trans (hbc j hj))
        clear hbc
        have HE := Lib.hid he
        clear he
        go_loop [11, 54] (fun v i => ∃ j : Nat, j ≤ 1 + q ∧ i = .int .i64 j ∧ v = .int .i64 (V D p j)) (fun _ i => 1 + q - (intOf i).toNat)
        case atStart => exact ⟨0, Nat.zero_le _, rfl, rfl⟩
        case round =>
          obtain ⟨j, hj, rfl, rfl⟩ := hrel
          have vb := V_bd D p j
          have v0 := vb.1
          have v1 : V D p j ≤ 16777216 := by
            have h1 : (2 : Int) ^ j ≤ 2 ^ 24 := by exact_mod_cast Nat.pow_le_pow_right (by decide : 0 < 2) (by omega : j ≤ 24)
            have h2 : (2 : Int) ^ 24 = 16777216 := by decide
            omega
          clear vb
          by_cases hjl : j < 1 + q
          · have hy := HBC.out ((p + j) / 8) (by omega)
            have hyb := hD.1 ((p + j) / 8)
            have hvs : V D p (j + 1) = V D p j * 2 + D.getD ((p + j) / 8) 0 / 2 ^ (7 - (p + j) % 8) % 2 := by
              show 2 * V D p j + bitAt D (p + j) = _
              unfold bitAt; omega
            obtain ⟨y, hyy⟩ : ∃ y, y = D.getD ((p + j) / 8) 0 := ⟨_, rfl⟩
            obtain ⟨v, hvv⟩ : ∃ v, v = V D p j := ⟨_, rfl⟩
            rw [← hyy] at hy hyb hvs
            rw [← hvv] at v0 v1 hvs ⊢
            have y0 := hyb.1
            have y1 := hyb.2
            have HVS := Lib.hid hvs
            clear hyy hvv hvs hyb
            have t1 : bits .and .i64 (y / 2 ^ (7 - (p + j) % 8)) 1 = y / 2 ^ (7 - (p + j) % 8) % 2 := i64_and1 _
            have t2 : bits .or .i64 (v * 2) (y / 2 ^ (7 - (p + j) % 8) % 2) = v * 2 + y / 2 ^ (7 - (p + j) % 8) % 2 := i64_join 1 _ _ (by omega) (by omega) (by omega) (by omega) (by omega) (by omega)
            go_wp2_with fail
            refine ⟨⟨j + 1, by omega, by go_num, by rw [HVS.out]⟩, by simp [intOf]; omega⟩
          · obtain rfl : j = 1 + q := by omega
            have hsz := hB.size
            have hg6 := (hW.lt g6 rfl).2
            obtain ⟨v, hvv⟩ : ∃ v, v = V D p (1 + q) := ⟨_, rfl⟩
            rw [← hvv] at v0 v1 ⊢
            have HVV := Lib.hid hvv
            clear hvv
            go_wp2_with (first
              | (at_builtin; refine append_apart rfl (.tmp 76) (.tmp 78) 36 rfl w.heap.size 3 i0 (.int .i64 0) 8 Try.underlying36 hi hz0 hz1 hz2 rfl g5 k c5 _ rfl (hL.alloc _) ⟨wr.heap.size, 0, none⟩ 1 1 [.int .i64 (1 + q)] rfl (by decide) rfl (cell_one_new _ _ _) (by simp [Value.oneCell']) (by unfold maxLen; omega) (by omega) (by simp; omega) ?_; intro g5' c5' w3 hL3 hgr3 hor3; (have hW3 := (hW.alloc (.cells #[.int .i64 (1 + q)] 3)).kept hgr3 (.inr (by simp [Value.ownBlock]; omega))); (have hge5 := own_ge hL (j := g5) rfl); (have hB3 : Below w.heap.size w w3 := (stpA hB (.cells #[.int .i64 (1 + q)] 3)).grown hgr3 (by simp; omega) (by intro j hj; injection hj with hj; subst hj; exact hge5)); (have hne3 : g5' ≠ g6 := by rcases hor3 with h | h <;> first | omega | (simp at h; omega)); (have hsz3 : wr.heap.size < w3.heap.size := by have := hgr3.size; simp at this; omega); clear hL hW hgr3 hor3 hB HBC)
              | (at_builtin; refine append_apart rfl (.tmp 80) (.tmp 82) 36 rfl w.heap.size 3 i0 (.int .i64 0) 8 Try.underlying36 hi hz0 hz1 hz2 rfl g6 k c6 _ rfl (hW3.alloc _) ⟨w3.heap.size, 0, none⟩ 1 1 [.int .i64 v] rfl (by decide) rfl (cell_one_new _ _ _) (by simp [Value.oneCell']) (by unfold maxLen; omega) (by omega) (by simp; omega) ?_; intro g6' c6' w4 hW4 hgr4 hor4))
            have hg5 := (hL3.lt g5' rfl).2
            have hL4 := (hL3.alloc (.cells #[.int .i64 v] 3)).kept hgr4 (.inr (by simp [Value.ownBlock]; omega))
            have hge6 := own_ge hW3 (j := g6) rfl
            have hB4 : Below w.heap.size w w4 := (stpA hB3 (.cells #[.int .i64 v] 3)).grown hgr4 (by simp; omega) (by intro j hj; injection hj with hj; subst hj; exact hge6)
            have hne4 : g5' ≠ g6' := by rcases hor4 with h | h <;> first | omega | (simp at h; omega)
            clear hL3 hW3 hgr4 hor4 hB3
            refine ⟨⟨k + 1, g5', c5', g6', c6', by omega, by go_num, rfl, rfl, ?_, ?_, hne4, ?_, ?_, hB4⟩, by simp [intOf]; omega⟩
            · show _ = Value.int .i64 ((posOf (nwOf Z) k + nwOf Z k : Nat) : Int)
              rw [HNQ.out, ← HP.out]; go_num
            · show posOf (nwOf Z) k + nwOf Z k ≤ _
              rw [HNQ.out, ← HP.out]; exact hfit
            · rw [widthsOf_succ, HNQ.out]; exact hL4
            · rw [wordsOf_succ, List.map_append, HNQ.out, ← HP.out, ← HVV.out]; exact hW4
      · go_wp2_with fail
        go_returns
        exact ⟨rfl, hB⟩
    · obtain rfl : k = Z.length := by omega
      clear hlt hk
      have hsz := hB.size
      have hge6 := own_ge hW (j := g6) rfl
      have HpL := Lib.hid hpl
      go_wp2_with fail
      refine (words_call a0 cap0 D hD _ (HD0.out.below hB) HC.out _ w.heap.size Z.length (nwOf Z) (by omega) (fun j _ => nwOf_bd Z j) hpl hL).mono ?_
      rintro e w3 ⟨gv, rfl, hG, hB3⟩
      obtain ⟨ga, gc, rfl⟩ := owned_slice hG
      have hW3 := hW.kept (grown_of_below hB3 none) (.inr (by simp [Value.ownBlock]))
      have hBt : Below w.heap.size w w3 := stp hB hB3
      have HG := Lib.hid (owned_at hG)
      have HW := Lib.hid (owned_at hW3)
      obtain ⟨at', hat⟩ : ∃ x, x = posOf (nwOf Z) Z.length := ⟨_, rfl⟩
      rw [← hat]
      clear hG hW hW3 hL hB hB3 HpL hpl hat
      go_wp2_with fail
      go_loopw [106] (fun a wr => ∃ j : Nat, j ≤ Z.length ∧ a = .int .i64 j ∧ Hid (OwnAt wr ga Z.length (wordsOf D (nwOf Z) Z.length)) ∧ Hid (OwnAt wr (some ⟨g6, 0, none⟩) Z.length (wordsOf D (nwOf Z) Z.length)) ∧ Below w.heap.size w wr)
        (fun a _ => Z.length - (intOf a).toNat)
      case atStart => exact ⟨0, by omega, rfl, HG, HW, hBt⟩
      case round =>
        clear HG HW hBt
        obtain ⟨j, hj, rfl, HG, HW, hBt⟩ := hrel
        by_cases hjl : j < Z.length
        · obtain ⟨gg, rfl, h1⟩ := HG.out j hjl
          obtain ⟨gg', he, h2⟩ := HW.out j hjl
          injection he with he; injection he with he; subst he
          obtain ⟨z, hz⟩ : ∃ z, z = (wordsOf D (nwOf Z) Z.length).getD j 0 := ⟨_, rfl⟩
          rw [← hz] at h1 h2
          clear hz
          go_wp2_with fail
          go_quiet (fail)
          go_wp2_with fail
          refine ⟨⟨j + 1, by omega, by go_num, HG, HW, stpN hBt _⟩, by simp [intOf]; omega⟩
        · obtain rfl : j = Z.length := by omega
          clear HG HW
          go_wp2_with fail
          refine (one_call _ _ _ (by simp) (by simp) (by simp)).mono ?_
          rintro e w5 ⟨g, c, rfl, hc1, hB5⟩
          go_wp2_with fail
          go_returns
          exact ⟨by simp, stp (stpA (stpA hBt _) _) hB5⟩

/-- What the frame tells of a slice of integers that came in. -/
def IsRowP (k : IntKind) (w : World) (a : Option Addr) (len cap : Nat) (zs : List Int) : Prop :=
  (a = none ∧ len = 0 ∧ cap = 0 ∧ zs = []) ∨
  ∃ x, a = some x ∧ len ≤ cap ∧ cap ≤ maxLen ∧ zs.length = cap ∧ (∀ i, i < zs.length → w.cell? (x.add i) = some (.int k (zs.getD i 0))) ∧ ∀ n ∈ zs, (Lit.int k n).wf = true

theorem isRow_data {w : World} {a : Option Addr} {len cap : Nat} {zs : List Int} (h : IsRowP .u8 w a len cap zs) (hl : len ≤ 1000000) :
    ∃ D : List Int, D.length = len ∧ Bytes D ∧ DataIs w a D ∧ (a = none → cap = 0) := by
  rcases h with ⟨rfl, rfl, rfl, rfl⟩ | ⟨x, rfl, hlc, hm, hz, hc, hwz⟩
  · exact ⟨[], rfl, ⟨fun j => by simp, by simp⟩, .inl rfl, fun _ => rfl⟩
  · have hlen : (zs.take len).length = len := by simp; omega
    have hget : ∀ j, j < len → (zs.take len).getD j 0 = zs.getD j 0 := by
      intro j hj
      rw [List.getD_eq_getElem?_getD, List.getElem?_take, if_pos hj, List.getD_eq_getElem?_getD]
    have hby : Bytes (zs.take len) := by
      refine ⟨fun j => ?_, by omega⟩
      by_cases hj : j < len
      · rw [hget j hj, List.getD_eq_getElem?_getD, List.getElem?_eq_getElem (by omega)]
        exact bounds_u8 (hwz _ (List.getElem_mem _))
      · rw [List.getD_eq_getElem?_getD, List.getElem?_eq_none (by omega)]; simp
    refine ⟨zs.take len, hlen, hby, ?_, (fun h => nomatch h)⟩
    · by_cases h0 : len = 0
      · exact .inl (by omega)
      · obtain ⟨b, off, spot⟩ := x
        have h1 := hc 0 (by omega)
        have hspot : spot = none := by simpa [Addr.add] using World.cell?_spot h1
        subst hspot
        have hadd : ∀ j, (⟨b, off, none⟩ : Addr).add j = ⟨b, off + j, none⟩ := fun j => by unfold Addr.add; split <;> simp_all
        refine .inr ⟨b, off, rfl, ?_, fun j hj => ?_⟩
        · have := block_lt_of_cell h1
          simpa [hadd] using this
        · rw [hget j (by omega), ← hadd]; exact hc j (by omega)

set_option maxRecDepth 100000 in
set_option maxHeartbeats 1000000 in
theorem fnWords_big (a0 : Option Addr) (len0 cap0 : Nat) (a1 : Option Addr) (len1 cap1 : Nat) (h : 1000 < len0 ∨ 100 < len1) (w : World) :
    Calls Try.prog 5 #[.slice a0 len0 cap0, .slice a1 len1 cap1] w fun e w' => e = .returned (.bool true) ∧ Below w.heap.size w w' := by
  go_each [2147483647 < len0, 2147483647 < len1, 1000 < len0, 100 < len1] => (go_enter Try.func5, Try.ntmps5; go_wp2_with fail; go_returns; exact ⟨rfl, stp0 w⟩)

theorem fnWords_walk (a0 : Option Addr) (len0 cap0 : Nat) (z0 : List Int) (a1 : Option Addr) (len1 cap1 : Nat) (z1 : List Int) (w : World) (w0 : IsRowP .u8 w a0 len0 cap0 z0) (w1 : IsRowP .u8 w a1 len1 cap1 z1) :
    Calls Try.prog 5 #[.slice a0 len0 cap0, .slice a1 len1 cap1] w fun e w' => e = .returned (.bool true) ∧ Below w.heap.size w w' := by
  by_cases h : 1000 < len0 ∨ 100 < len1
  · exact fnWords_big a0 len0 cap0 a1 len1 cap1 h w
  · obtain ⟨D, hD, bD, dD, cD⟩ := isRow_data w0 (by omega)
    obtain ⟨Z, hZ, bZ, dZ, _⟩ := isRow_data w1 (by omega)
    subst hD
    subst hZ
    exact fnWords_main a0 a1 cap0 cap1 D Z bD bZ (by omega) (by omega) w cD dD dZ
end Go.Proofs.Ytppfldobgemddaa
