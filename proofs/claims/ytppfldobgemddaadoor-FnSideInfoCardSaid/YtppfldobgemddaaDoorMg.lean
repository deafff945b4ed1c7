/-
  The contracts of the methods of frameheader.FrameHeader that call others, for headers of version 1; impl.Rate; The contract of (*spec.writer).word: what it leaves of the bytes that it writes.
-/
import Derived.Test.YtppfldobgemddaaDoorMf
import Derived.Deep.QuietTactic
import Derived.BigQuiet
import Derived.Test.YtppfldobgemddaaDoorRows
import Derived.Test.YtppfldobgemddaaDoorMa
import Derived.Test.YtppfldobgemddaaDoorMc
import Derived.Handy
import Derived.Laws.OwnMore
import Derived.BigRegion
namespace Go.Proofs.YtppfldobgemddaaDoor
open Go.RowKit
set_option linter.unusedVariables false

def hz (r : Int) : Int := if r = 0 then 44100 else if r = 1 then 48000 else 32000
theorem hz_at (m : Int) (h0 : 0 ≤ m) (h3 : m < 3) : [Value.int .i64 44100, Value.int .i64 48000, Value.int .i64 32000][m.toNat]? = some (.int .i64 (hz m)) := by
  have h : m = 0 ∨ m = 1 ∨ m = 2 := by omega
  rcases h with rfl | rfl | rfl <;> rfl


theorem low_any (x : Int) (h0 : 0 ≤ x) (h1 : x ≤ 4294967295) (hv : fID x = 3) (w : World) :
    Calls Tryd.prog 65 #[.int .u32 x] w fun e w' => e = .returned (.int .i64 0) ∧ w = w' := by
  go_enter Tryd.func65, Tryd.ntmps65
  go_wp2_with (go_at_call 77; refine (ID_any x h0 h1 _).mono ?_; rintro e w' ⟨rfl, rfl⟩)
  go_ret
  exact ⟨rfl, rfl⟩
theorem sfv_any (x : Int) (h0 : 0 ≤ x) (h1 : x ≤ 4294967295) (hv : fID x = 3) (hs : fSF x ≤ 2) (w : World) :
    Calls Tryd.prog 81 #[.int .u32 x] w fun e w' => e = .returned (.tuple #[.int .i64 (hz (fSF x)), .nilIface]) ∧ w = w' := by
  have hn : 0 ≤ fSF x := by unfold fSF; omega
  have hc : fSF x = 0 ∨ fSF x = 1 ∨ fSF x = 2 := by omega
  clear hs hn
  rcases hc with hs | hs | hs
  all_goals
    rw [hs]
    go_enter Tryd.func81, Tryd.ntmps81
    go_wp2_with (first | (go_at_call 78; refine (SF_any x h0 h1 _).mono ?_; rintro e w' ⟨rfl, rfl⟩) | (go_at_call 65; refine (low_any x h0 h1 hv _).mono ?_; rintro e w' ⟨rfl, rfl⟩))
    go_ret2
    exact ⟨rfl, rfl⟩
end Go.Proofs.YtppfldobgemddaaDoor
namespace Go.Proofs.YtppfldobgemddaaDoor
open Go.RowKit
set_option linter.unusedVariables false

/-- A writer in block W that has written so many bits. -/
structure Wr (w : World) (W base : Nat) (L : List Int) (at' : Nat) : Prop where
  out : ∃ a c, w.cell? ⟨W, 0, none⟩ = some (.slice a L.length c) ∧ w.ownsRow base 5 1 (.slice a L.length c) L.length (L.map (Value.int .u8))
  bit : w.cell? ⟨W, 1, none⟩ = some (.int .i64 at')
  free : ∀ j, w.frozen? ⟨W, j, none⟩ = false
  packed : Packed L at'
  hW : W < base
  hb : base ≤ w.heap.size

/-- Blocks of other than bytes are as they were, but for one. -/
def Away (W : Nat) (w w' : World) : Prop := ∀ k cs t fz, k ≠ W → w.heap[k]? = some (.cells cs t fz) → t ≠ 5 → w'.heap[k]? = w.heap[k]?
theorem Away.refl (W : Nat) (w : World) : Away W w w := fun _ _ _ _ _ _ _ => rfl
theorem Away.trans {W : Nat} {a b c : World} (h : Away W a b) (k : Away W b c) : Away W a c := fun j cs t fz h1 h2 h3 => by
  have e := h j cs t fz h1 h2 h3
  exact (k j cs t fz h1 (e.trans h2) h3).trans e
theorem Away.drew {W : Nat} {a b : World} (h : Away W a b) : Away W a b.drew := h
theorem lt_of_heap {w : World} {k : Nat} {o : Obj} (h : w.heap[k]? = some o) : k < w.heap.size := (Array.getElem?_eq_some_iff.1 h).1
theorem Away.alloc {W : Nat} {a b : World} (h : Away W a b) (o : Obj) : Away W a (b.alloc o) := h.trans fun j cs t fz h1 h2 h3 => by
  show (b.heap.push o)[j]? = _
  rw [Array.getElem?_push, if_neg (Nat.ne_of_lt (lt_of_heap h2))]
theorem Away.setW {W : Nat} {a b : World} (h : Away W a b) (j : Nat) (v : Value) : Away W a (b.setCell ⟨W, j, none⟩ v) := h.trans fun k cs t fz h1 h2 h3 => heap_setCell_other _ _ _ _ (by intro e; exact h1 e)
theorem Away.set5 {W g : Nat} {a b : World} (h : Away W a b) {cur : Array Value} {fz : Nat × Nat} (hg : b.heap[g]? = some (.cells cur 5 fz)) (j : Nat) (v : Value) : Away W a (b.setCell ⟨g, j, none⟩ v) := h.trans fun k cs t fz h1 h2 h3 => heap_setCell_other _ _ _ _ (by intro e; subst e; rw [hg] at h2; injection h2 with e; injection e with _ e; exact h3 e.symm)
theorem Away.grown {W : Nat} {a b c : World} {row : Option Nat} (h : Away W a b) (hg : b.grownBy c row) (hr : ∀ g, row = some g → ∃ cur fz, b.heap[g]? = some (.cells cur 5 fz)) : Away W a c := h.trans fun k cs t fz h1 h2 h3 => hg.block k (lt_of_heap h2) (by
  intro e
  obtain ⟨cur, fz', q⟩ := hr k e.symm
  rw [q] at h2; injection h2 with e; injection e with _ e; exact h3 e.symm)
theorem own5 {w : World} {base n : Nat} {v : Value} {xs : List Value} (h : w.ownsRow base 5 1 v n xs) : ∀ g, v.ownBlock = some g → ∃ cur fz, w.heap[g]? = some (.cells cur 5 fz) := by
  intro g hg
  rcases h.2 with ⟨rfl, _⟩ | ⟨g', cap, cur, rfl, _, hc, _⟩
  · cases hg
  · injection hg with e; subst e; exact ⟨cur, _, hc⟩
theorem u8_or (y b : Int) (p : Nat) (hp : p < 8) (h0 : 0 ≤ y) (h1 : y ≤ 255) (hy : y % 2 ^ (8 - p) = 0) (hb : b = 0 ∨ b = 1) : bits .or .u8 y (b * 2 ^ (7 - p)) = y + b * 2 ^ (7 - p) := by
  obtain ⟨m, rfl⟩ := Int.eq_ofNat_of_zero_le h0
  have hm : m < 256 := by omega
  have key : ∀ (m : Fin 256) (p : Fin 8) (b : Fin 2), ((m.val : Int) % 2 ^ (8 - p.val) = 0) → bits .or .u8 (m.val : Int) ((b.val : Int) * 2 ^ (7 - p.val)) = (m.val : Int) + (b.val : Int) * 2 ^ (7 - p.val) := by decide +kernel
  rcases hb with rfl | rfl
  · exact key ⟨m, hm⟩ ⟨p, hp⟩ 0 hy
  · exact key ⟨m, hm⟩ ⟨p, hp⟩ 1 hy

/-- What one bit more leaves of the writer. -/
theorem wr_left {w : World} {W base a q s g c : Nat} {M R : List Int} {b y : Int} (hR : R = roomy M a) (hpk : Packed M a) (hb : b = 0 ∨ b = 1) (hq : a / 8 = q) (hs : 7 - a % 8 = s) (hy : y = R.getD q 0)
    (ho : w.ownsRow base 5 1 (.slice (some ⟨g, 0, none⟩) R.length c) R.length (R.map (Value.int .u8))) (c0 : w.cell? ⟨W, 0, none⟩ = some (.slice (some ⟨g, 0, none⟩) R.length c)) (c1 : ∃ u, w.cell? ⟨W, 1, none⟩ = some u) (hf : ∀ j, w.frozen? ⟨W, j, none⟩ = false) (hW : W < base) (hbase : base ≤ w.heap.size) :
    Wr ((w.setCell ⟨g, q, none⟩ (.int .u8 (y + b * 2 ^ s))).setCell ⟨W, 1, none⟩ (.int .i64 (a + 1 : Nat))) W base (setBit M a b) (a + 1) := by
  have hge := ownedGe ho (j := g) rfl
  have hgW : g ≠ W := by omega
  obtain ⟨u, c1⟩ := c1
  have hset : setBit M a b = R.set q (y + b * 2 ^ s) := by rw [hy, hR, ← hq, ← hs]; rfl
  have hlen : (setBit M a b).length = R.length := by rw [hset, List.length_set]
  have hst := (ho.stored q (.int .u8 (y + b * 2 ^ s))).1
  have hgr : (w.setCell ⟨g, q, none⟩ (.int .u8 (y + b * 2 ^ s))).grownBy ((w.setCell ⟨g, q, none⟩ (.int .u8 (y + b * 2 ^ s))).setCell ⟨W, 1, none⟩ (.int .i64 (a + 1 : Nat))) (some W) :=
    grown_set ⟨rfl, rfl, rfl, Nat.le_refl _, fun _ _ _ => rfl⟩ 1 _
  have hst2 := hst.kept hgr (.inr (by simp [Value.ownBlock]; exact hgW))
  refine ⟨⟨some ⟨g, 0, none⟩, c, ?_, ?_⟩, ?_, fun j => ?_, (packed_step hpk hb).1, hW, by simpa using hbase⟩
  · rw [hlen, cs_other (by simp), cs_other (by intro e; injection e with e; exact hgW e)]; exact c0
  · rw [hlen, hset, List.map_set]; exact hst2
  · refine cs_same (u := u) ?_
    rw [cs_other (by intro e; injection e with e; exact hgW e)]; exact c1
  · rw [World.frozen?_setCell, World.frozen?_setCell]; exact hf j
theorem Wr.drew {w : World} {W base a : Nat} {L : List Int} (h : Wr w W base L a) : Wr w.drew W base L a := by
  obtain ⟨ao, c, h0, ho⟩ := h.out
  exact ⟨⟨ao, c, h0, ho⟩, h.bit, h.free, h.packed, h.hW, h.hb⟩

/-- One round: a bit more. -/
def bitOf (v : Int) (k : Nat) : Int := v / 2 ^ k % 2
set_option maxRecDepth 100000 in
set_option maxHeartbeats 2000000 in
theorem word_any' (W base at' n : Nat) (v : Int) (L : List Int) (h0 : 0 ≤ v) (h1 : v ≤ 1000000) (hn : n ≤ 20) (hat : at' ≤ 100000) (w : World) (h : Wr w W base L at') :
    Calls Tryd.prog 33 #[.pointer (some ⟨W, 0, none⟩), .int .i64 v, .int .i64 n] w fun e w' => e = .returned (.tuple #[]) ∧ Wr w' W base (wordTo L at' v n n) (at' + n) ∧ Below W w w' ∧ Away W w w' := by
  have H := Lib.hid h
  clear h
  go_enter Tryd.func33, Tryd.ntmps33
  go_wp2_with fail
  go_loopw [6] (fun v6 wr => ∃ i : Nat, i ≤ n ∧ v6 = .int .i64 ((n : Int) - 1 - i) ∧ Hid (Wr wr W base (wordTo L at' v n i) (at' + i)) ∧ Hid (Below W w wr) ∧ Hid (Away W w wr))
    (fun v6 _ => (intOf v6 + 1).toNat)
  case atStart => exact ⟨0, Nat.zero_le _, by simp, H, Lib.hid (Below.refl _ _), Lib.hid (Away.refl _ _)⟩
  case round =>
    clear H
    obtain ⟨i, hi, rfl, HW, HB, HA⟩ := hrel
    by_cases hlt : i < n
    · obtain ⟨k, hk⟩ : ∃ k : Nat, (n : Int) - 1 - i = k := ⟨n - 1 - i, by omega⟩
      obtain ⟨M, hM⟩ : ∃ M, M = wordTo L at' v n i := ⟨_, rfl⟩
      obtain ⟨a, ha⟩ : ∃ a, a = at' + i := ⟨_, rfl⟩
      obtain ⟨p, hp⟩ : ∃ p : Nat, a % 8 = p := ⟨_, rfl⟩
      obtain ⟨s, hs⟩ : ∃ s : Nat, 7 - p = s := ⟨_, rfl⟩
      obtain ⟨q, hq⟩ : ∃ q : Nat, a / 8 = q := ⟨_, rfl⟩
      obtain ⟨b, hb⟩ : ∃ b, b = v / 2 ^ k % 2 := ⟨_, rfl⟩
      rw [← hM, ← ha] at HW
      rw [hk]
      have hpk := HW.out.packed
      obtain ⟨r1, r2, r3, r4, r5⟩ := roomy_facts hpk
      have hb01 : b = 0 ∨ b = 1 := by omega
      have w1 := HW.out.bit
      have wf := HW.out.free
      obtain ⟨ao, c, w0, ho⟩ := HW.out.out
      have hW := HW.out.hW
      have hbase := HW.out.hb
      have hl := hpk.len
      have n1 : bits .and .i64 (a : Int) 7 = p := by rw [i64_and7]; omega
      have n2 : bits .and .i64 (v / 2 ^ k) 1 = b := by rw [i64_and1, hb]
      have n3 : b % 256 = b := by omega
      have n4 : (a : Int) / 8 = q := by omega
      have n5 : IntKind.i64.wrap ((7 : Int) - p) = s := by rw [IntWalk.i64_in _ (by omega)]; omega
      have n6 : IntKind.i64.wrap ((a : Int) + 1) = (a + 1 : Nat) := by rw [IntWalk.i64_in _ (by omega)]; omega
      have n7 : IntKind.i64.wrap ((k : Int) - 1) = (k : Int) - 1 := IntWalk.i64_in _ (by omega)
      have f0 := wf 0
      have f1 := wf 1
      by_cases h8 : p = 0
      · obtain ⟨i0, hi0, hz0, hz1, hz2⟩ := info_parts info5
        have hm : M.length = q := by omega
        have hroom : roomy M a = M ++ [0] := by unfold roomy; rw [if_pos (by omega)]
        rw [hm] at w0 ho
        have hmc : q ≤ 100000 := by omega
        have HO := Lib.hid ho
        have W0 := Lib.hid w0
        have W1 := Lib.hid w1
        have WF := Lib.hid wf
        have HR := Lib.hid (And.intro hpk (And.intro hM (And.intro ha (And.intro hb (And.intro hq (And.intro hp (And.intro hs hm)))))))
        have HK := Lib.hid hk
        have HRO := Lib.hid hroom
        have HB01 := Lib.hid hb01
        have h8' : (p : Int) = 0 := by omega
        have hs7 : s = 7 := by omega
        subst hs7
        have o1 : bits .or .u8 0 (b * 128) = b * 128 := by rcases hb01 with h | h <;> rw [h] <;> decide
        have o3 : b * 128 % 256 = b * 128 := by omega
        clear ho hpk hM ha hb r1 r2 r3 r4 r5 hl wf hb01 hq hp hm hk hroom
        go_wp2_with (at_builtin; go_loud (refine wpList_append_own _ rfl _ _ 23 rfl base 5 i0 (.int .u8 0) 1 1 Tryd.underlying23 hi0 hz0 hz1 hz2 rfl (by decide) (.slice ao q c) q _ rfl (HO.out.alloc _) ⟨wr.heap.size, 0, none⟩ 1 1 [.int .u8 0] rfl rfl (cell_one_new _ _ _) (by simp [Value.oneCell']) (by unfold maxLen; omega) (by omega) (by simp; omega) ?_); intro v3 w3 ho3 hgr3 _; (obtain ⟨g, c3, rfl, hge⟩ := ownedSome ho3 (by omega)); (have hW3 : w3.heap[W]? = wr.heap[W]? := by rw [hgr3.block W (by simp; omega) (by intro e; have := ownedGe HO.out e.symm; omega)]; exact heap_alloc_old wr _ (by omega)); (have x0 : w3.cell? ⟨W, 0, none⟩ = some (.slice ao q c) := by rw [World.cell?_of_block (a := ⟨W, 0, none⟩) hW3]; exact W0.out); (have x1 : w3.cell? ⟨W, 1, none⟩ = some (.int .i64 a) := by rw [World.cell?_of_block (a := ⟨W, 1, none⟩) hW3]; exact W1.out); (have xf0 : w3.frozen? ⟨W, 0, none⟩ = false := by rw [World.frozen?_of_block (a := ⟨W, 0, none⟩) hW3]; exact WF.out 0); (have xf1 : w3.frozen? ⟨W, 1, none⟩ = false := by rw [World.frozen?_of_block (a := ⟨W, 1, none⟩) hW3]; exact WF.out 1); (have HG := Lib.hid hgr3); (have HO3 := Lib.hid ho3); (have HW3 := Lib.hid hW3); clear hgr3 ho3 hW3)
        have hgW : g ≠ W := by omega
        have hlt3 := (HO3.out.lt g rfl).2
        have hge' : W ≤ g := by omega
        have y0 : (w3.setCell ⟨W, 0, none⟩ (.slice (some ⟨g, 0, none⟩) (q + 1) c3)).cell? ⟨W, 0, none⟩ = some (.slice (some ⟨g, 0, none⟩) (q + 1) c3) := cs_same x0
        have y1 : (w3.setCell ⟨W, 0, none⟩ (.slice (some ⟨g, 0, none⟩) (q + 1) c3)).cell? ⟨W, 1, none⟩ = some (.int .i64 a) := by rw [cs_other (by simp)]; exact x1
        have yf : ∀ j, (w3.setCell ⟨W, 0, none⟩ (.slice (some ⟨g, 0, none⟩) (q + 1) c3)).frozen? ⟨W, j, none⟩ = false := fun j => by rw [World.frozen?_setCell, World.frozen?_of_block (a := ⟨W, j, none⟩) HW3.out]; exact WF.out j
        have ho4 : (w3.setCell ⟨W, 0, none⟩ (.slice (some ⟨g, 0, none⟩) (q + 1) c3)).ownsRow base 5 1 (.slice (some ⟨g, 0, none⟩) (q + 1) c3) (q + 1) ((M ++ [0]).map (Value.int .u8)) := by
          have := HO3.out.kept (w' := w3.setCell ⟨W, 0, none⟩ (.slice (some ⟨g, 0, none⟩) (q + 1) c3)) (row := some W) (grown_set ⟨rfl, rfl, rfl, Nat.le_refl _, fun _ _ _ => rfl⟩ 0 _) (.inr (by simp [Value.ownBlock]; exact hgW))
          simpa using this
        have hB4 : Below W w (w3.setCell ⟨W, 0, none⟩ (.slice (some ⟨g, 0, none⟩) (q + 1) c3)) := by
          refine Below.setCell ?_ (by exact Nat.le_refl W) _
          refine (HB.out.trans (((stpA (stp0 wr) (.cells #[.int .u8 0] 5)).mono (by omega)))).grown HG.out ?_ ?_
          · simp; omega
          · intro j hj; have := ownedGe HO.out hj; omega
        have hA4 : Away W w (w3.setCell ⟨W, 0, none⟩ (.slice (some ⟨g, 0, none⟩) (q + 1) c3)) := ((HA.out.alloc _).grown HG.out (own5 (HO.out.alloc _))).setW _ _
        have h54 := own5 ho4 g rfl
        have hb4 : base ≤ (w3.setCell ⟨W, 0, none⟩ (.slice (some ⟨g, 0, none⟩) (q + 1) c3)).heap.size := by have := HG.out.size; simp at this ⊢; omega
        have hyc : (w3.setCell ⟨W, 0, none⟩ (.slice (some ⟨g, 0, none⟩) (q + 1) c3)).cell? ⟨g, q, none⟩ = some (.int .u8 0) := by
          rw [ho4.cellAt q (by omega)]
          have hm := HR.out.2.2.2.2.2.2.2
          simp [← hm]
        have hyf := ho4.frozenAt q
        have yf1 := yf 1
        clear x0 x1 xf0 xf1
        generalize w3.setCell ⟨W, 0, none⟩ (.slice (some ⟨g, 0, none⟩) (q + 1) c3) = w4 at *
        have HA4 := Lib.hid hA4
        have H54 := Lib.hid h54
        clear hA4 h54
        have YF := Lib.hid yf
        have HO4 := Lib.hid ho4
        clear yf ho4
        go_region
        all_goals go_wp2_with fail
        obtain ⟨hpk, hM, ha, hb, hq, hp, hs, hm⟩ := HR.out
        have hk := HK.out
        have m1 : min k 64 = k := by omega
        rw [m1, n2, n3, o3, o1]
        have hsb : setBit M a b = wordTo L at' v n (i + 1) := by
          show _ = setBit (wordTo L at' v n i) (at' + i) (v / 2 ^ (n - 1 - i) % 2)
          rw [← hM, ← ha, hb, show n - 1 - i = k by omega]
        have hml : (M ++ [0]).length = q + 1 := by simp [hm]
        have hy0 : (0 : Int) = (M ++ [0]).getD q 0 := by rw [← hm]; simp
        have hw := wr_left (w := w4) (W := W) (base := base) (a := a) (q := q) (s := 7) (g := g) (c := c3) (M := M) (R := M ++ [0]) (b := b) (y := 0) HRO.out.symm hpk HB01.out hq (by omega) hy0 (by rw [hml]; exact HO4.out) (by rw [hml]; exact y0) ⟨_, y1⟩ YF.out hW hb4
        have ev : (0 : Int) + b * 2 ^ 7 = b * 128 := by simp
        rw [hsb, ev] at hw
        refine ⟨⟨i + 1, by omega, by rw [← hk]; congr 1; omega, Lib.hid ?_, Lib.hid ?_, Lib.hid ?_⟩, by simp [intOf]⟩
        · rw [show at' + (i + 1) = a + 1 by omega]; exact hw.drew
        · exact ((hB4.setCell (by exact hge') _).setCell (by exact Nat.le_refl W) _).drew
        · obtain ⟨cur, fz, h5⟩ := H54.out
          exact ((HA4.out.set5 h5 _ _).setW _ _).drew
      · have hne : M.length ≠ 0 := by omega
        have hroom : roomy M a = M := by unfold roomy; rw [if_neg (by omega)]
        rw [hroom] at r1 r2 r3 r4
        obtain ⟨g, c', hv, hge⟩ := ownedSome ho (by omega)
        injection hv with hao _ hc
        subst hao
        subst hc
        obtain ⟨y, hy⟩ : ∃ y, y = M.getD q 0 := ⟨_, rfl⟩
        have hyc : wr.cell? ⟨g, q, none⟩ = some (.int .u8 y) := by
          rw [ho.cellAt q (by omega), hy, List.getD_eq_getElem?_getD]
          have hqm : q < M.length := by omega
          simp [hqm]
        have hyf := ho.frozenAt q
        have hyb : 0 ≤ y ∧ y ≤ 255 := hy ▸ r3 q
        have hym : y % 2 ^ (8 - p) = 0 := by rw [hy, ← hq, ← hp]; exact r4
        have o1 : bits .or .u8 y (b * 2 ^ s) = y + b * 2 ^ s := by rw [← hs]; exact u8_or y b p (by omega) hyb.1 hyb.2 hym hb01
        have o2 := bit_fits y b p (by omega) hyb.1 hyb.2 hym hb01
        rw [hs] at o2
        have o3 : b * 2 ^ s % 256 = b * 2 ^ s := by
          have : 0 ≤ b * 2 ^ s := by rcases hb01 with h | h <;> rw [h] <;> simp <;> exact Int.pow_nonneg (by decide)
          omega
        obtain ⟨m, hm⟩ : ∃ m, M.length = m := ⟨_, rfl⟩
        rw [hm] at w0
        have hqm : (q : Int) < m := by omega
        have hmc : (m : Int) ≤ 1000000 := by omega
        have HO := Lib.hid ho
        have HR := Lib.hid (And.intro hpk (And.intro hM (And.intro ha (And.intro hy (And.intro hb (And.intro hq (And.intro hp (And.intro hs hm))))))))
        have HK := Lib.hid hk
        have h8' : ¬ ((p : Int) = 0) := by omega
        clear ho hpk hM ha hy hb r1 r2 r3 r4 r5 hl wf hyb hym hb01 hq hp hs hm hk hroom hne
        go_wp2_with fail
        go_region
        all_goals go_wp2_with fail
        obtain ⟨hpk, hM, ha, hy, hb, hq, hp, hs, hm⟩ := HR.out
        have hk := HK.out
        have m1 : min k 64 = k := by omega
        have m2 : min s 8 = s := by omega
        rw [m1, m2, n2, n3, o3, o1]
        have hsb : setBit M a b = wordTo L at' v n (i + 1) := by
          show _ = setBit (wordTo L at' v n i) (at' + i) (v / 2 ^ (n - 1 - i) % 2)
          rw [← hM, ← ha, hb, show n - 1 - i = k by omega]
        have hroom : roomy M a = M := by unfold roomy; rw [if_neg (by omega)]
        have hw := wr_left (w := wr) (W := W) (base := base) (a := a) (q := q) (s := s) (g := g) (c := c) (M := M) (R := M) (b := b) (y := y) hroom.symm hpk (by omega) hq (by omega) hy HO.out (by rw [hm]; exact w0) ⟨_, w1⟩ HW.out.free hW hbase
        rw [hsb] at hw
        have hge' : W ≤ g := by omega
        refine ⟨⟨i + 1, by omega, by rw [← hk]; congr 1; omega, Lib.hid ?_, Lib.hid ?_, Lib.hid ?_⟩, by simp [intOf]⟩
        · rw [show at' + (i + 1) = a + 1 by omega]; exact hw.drew
        · exact ((HB.out.setCell (by exact hge') _).setCell (by exact Nat.le_refl W) _).drew
        · obtain ⟨cur, fz, h5⟩ := own5 HO.out g rfl
          exact ((HA.out.set5 h5 _ _).setW _ _).drew
    · obtain rfl : i = n := by omega
      have e1 : (i : Int) - 1 - i = -1 := by omega
      rw [e1]
      go_wp2_with fail
      go_returns
      exact ⟨rfl, HW.out, HB.out, HA.out⟩
end Go.Proofs.YtppfldobgemddaaDoor
