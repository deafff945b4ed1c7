/-
  The contract of (*bits.Bits).Bits: the reader of words of bits.
-/
import Derived.Test.YtppfldobgemddaaRows
import Derived.Test.YtppfldobgemddaaBv
import Derived.Test.YtppfldobgemddaaAid
import Derived.WalkSpells
import Derived.Handy
import Derived.Laws.CopyOwn
import Derived.Deep.QuietTactic
import Derived.BigQuiet
import Derived.Deep.RegionHeld3
namespace Go.Proofs.Ytppfldobgemddaa
open Go.RowKit
set_option linter.unusedVariables false

/-- The reader in block R over the bytes D in block g, at place s. -/
structure Rd (w : World) (R g cap : Nat) (D : List Int) (s : Nat) : Prop where
  vec : w.cell? ⟨R, 0, none⟩ = some (.slice (some ⟨g, 0, none⟩) D.length cap)
  bit : w.cell? ⟨R, 1, none⟩ = some (.int .i64 (s % 8 : Nat))
  byt : w.cell? ⟨R, 2, none⟩ = some (.int .i64 (s / 8 : Nat))
  free : ∀ j, w.frozen? ⟨R, j, none⟩ = false
  cells : ∀ j, j < D.length → w.cell? ⟨g, j, none⟩ = some (.int .u8 (D.getD j 0))
  apart : g ≠ R
  ltR : R < w.heap.size
  ltg : g < w.heap.size

def Bytes (D : List Int) : Prop := (∀ j, 0 ≤ D.getD j 0 ∧ D.getD j 0 ≤ 255) ∧ D.length ≤ 1000000

theorem drewN_cell (w : World) (n : Nat) (a : Addr) : (w.drewN n).cell? a = w.cell? a := rfl
theorem drewN_frozen (w : World) (n : Nat) (a : Addr) : (w.drewN n).frozen? a = w.frozen? a := rfl

/-- What a copy of four bytes leaves: the bytes that are there, noughts behind. -/
theorem splice_at (D : List Int) (k : Nat) (X : List Value) (hX : X = ((D.drop k).take 4).map (Value.int .u8)) (j : Nat) (hj : j < 4) :
    (splice [Value.int .u8 0, .int .u8 0, .int .u8 0, .int .u8 0] 0 X)[j]? = some (.int .u8 (D.getD (k + j) 0)) := by
  have hl : X.length = min 4 (D.length - k) := by rw [hX]; simp
  unfold splice
  rw [List.take_zero, List.nil_append, List.getD_eq_getElem?_getD]
  by_cases h : j < X.length
  · rw [List.getElem?_append_left h, hX]
    have h2 : k + j < D.length := by omega
    simp [hj, List.getElem?_drop, h2]
  · rw [List.getElem?_append_right (by omega)]
    have h2 : D.length ≤ k + j := by omega
    have h3 : D[k + j]? = none := by simp [h2]
    rw [h3, Nat.zero_add, List.getElem?_drop]
    have h4 : X.length + (j - X.length) = j := by omega
    rw [h4]
    have h5 : j = 0 ∨ j = 1 ∨ j = 2 ∨ j = 3 := by omega
    rcases h5 with rfl | rfl | rfl | rfl <;> rfl

set_option maxHeartbeats 1000000 in
theorem bits_core (R g cap : Nat) (D : List Int) (k p n : Nat) (hD : Bytes D) (hn : 1 ≤ n) (hs : p + n ≤ 32) (hp : p ≤ 7) (hlt : k < D.length) (hcap : D.length ≤ cap) (hcap2 : cap ≤ maxLen) (w : World)
    (c0 : w.cell? ⟨R, 0, none⟩ = some (.slice (some ⟨g, 0, none⟩) D.length cap)) (c1 : w.cell? ⟨R, 1, none⟩ = some (.int .i64 p)) (c2 : w.cell? ⟨R, 2, none⟩ = some (.int .i64 k))
    (f1 : w.frozen? ⟨R, 1, none⟩ = false) (f2 : w.frozen? ⟨R, 2, none⟩ = false) (hR : R < w.heap.size) (hg : g < w.heap.size)
    (hc : ∀ j, j < D.length → w.cell? ⟨g, j, none⟩ = some (.int .u8 (D.getD j 0))) :
    Calls Try.prog 28 #[.pointer (some ⟨R, 0, none⟩), .int .i64 n] w fun e w' => ∃ w1, e = .returned (.int .i64 (V D (8 * k + p) n)) ∧ w' = (w1.setCell ⟨R, 2, none⟩ (.int .i64 (k + (p + n) / 8 : Nat))).setCell ⟨R, 1, none⟩ (.int .i64 ((p + n) % 8 : Nat)) ∧ Below w.heap.size w w1 := by
  have L := hD.2
  obtain ⟨X, hX⟩ : ∃ X, X = ((D.drop k).take 4).map (Value.int .u8) := ⟨_, rfl⟩
  have hXl : X.length = min 4 (D.length - k) := by rw [hX]; simp
  have hXo : ∀ v ∈ X, v.oneCell' = true := by rw [hX]; intro v hv; obtain ⟨z, _, rfl⟩ := List.mem_map.1 hv; rfl
  have hXc : ∀ (o : Obj) (nq : Nat) (j : Nat) (v : Value), X[j]? = some v → ((w.drewN nq).alloc o).cell? ((⟨g, k, none⟩ : Addr).add j) = some v := by
    intro o nq j v hv
    have ha : (⟨g, k, none⟩ : Addr).add j = ⟨g, k + j, none⟩ := by unfold Addr.add; split <;> simp_all
    have hj : j < X.length := (List.getElem?_eq_some_iff.1 hv).1
    rw [ha, World.cell?_alloc_past _ _ _ (by exact hg), drewN_cell, hc (k + j) (by omega), List.getD_eq_getElem?_getD]
    rw [hX, List.getElem?_map, List.getElem?_take, if_pos (by omega), List.getElem?_drop] at hv
    cases hd : D[k + j]? with
    | none => rw [hd] at hv; simp at hv
    | some z => rw [hd] at hv; simpa using hv
  have HX := Lib.hid hX
  have HXc := Lib.hid hXc
  have HXl := Lib.hid hXl
  have HXo := Lib.hid hXo
  have hk1 : (k : Int) < D.length := by omega
  have hk2 : (k : Int) < cap := by omega
  have hk3 : (D.length : Int) ≤ cap := by omega
  have hk4 : k ≤ D.length := by omega
  have hk5 : ¬ cap = k := by omega
  clear hX hXc hXl hXo hc
  have hmk : ∀ w, (Instr.makeSlice 35 (.int .i64 4) (.int .i64 4)).run Try.prog w = .ok (.slice (some ⟨w.heap.size, 0, none⟩) 4 4) (w.alloc (.cells #[.int .u8 0, .int .u8 0, .int .u8 0, .int .u8 0] 5)) := fun _ => by kernel_rfl
  go_enter Try.func28, Try.ntmps28
  go_wp2_with fail
  go_quiet (fail)
  go_wp2_with fail
  have e0 : ((w.drewN nq).alloc (.cells #[.int .u8 0, .int .u8 0, .int .u8 0, .int .u8 0] 5)).cell? ⟨R, 0, none⟩ = some (.slice (some ⟨g, 0, none⟩) D.length cap) := by rw [World.cell?_alloc_past _ _ _ (by exact hR)]; exact c0
  have e1 : ((w.drewN nq).alloc (.cells #[.int .u8 0, .int .u8 0, .int .u8 0, .int .u8 0] 5)).cell? ⟨R, 1, none⟩ = some (.int .i64 p) := by rw [World.cell?_alloc_past _ _ _ (by exact hR)]; exact c1
  have e2 : ((w.drewN nq).alloc (.cells #[.int .u8 0, .int .u8 0, .int .u8 0, .int .u8 0] 5)).cell? ⟨R, 2, none⟩ = some (.int .i64 k) := by rw [World.cell?_alloc_past _ _ _ (by exact hR)]; exact c2
  have eb : ((w.drewN nq).alloc (.cells #[.int .u8 0, .int .u8 0, .int .u8 0, .int .u8 0] 5)).heap[w.heap.size]? = some (.cells [Value.int .u8 0, .int .u8 0, .int .u8 0, .int .u8 0].toArray 5 (0, 0)) := heap_alloc_new (w.drewN nq) _
  have hb : Below w.heap.size w ((w.drewN nq).alloc (.cells #[.int .u8 0, .int .u8 0, .int .u8 0, .int .u8 0] 5)) := stpA (stpN (stp0 w) nq) _
  have hx : ∀ j v, X[j]? = some v → ((w.drewN nq).alloc (.cells #[.int .u8 0, .int .u8 0, .int .u8 0, .int .u8 0] 5)).cell? ((⟨g, k, none⟩ : Addr).add j) = some v := HXc.out _ nq
  have HXd := Lib.hid hx
  have C1 := Lib.hid c1
  have C2 := Lib.hid c2
  have F1 := Lib.hid f1
  have F2 := Lib.hid f2
  clear hx HXc hmk c0 c1 c2 f1 f2
  generalize (w.drewN nq).alloc (.cells #[.int .u8 0, .int .u8 0, .int .u8 0, .int .u8 0] 5) = w2 at *
  have EB := Lib.hid eb
  clear eb
  go_region_law (refine step_copy_splice rfl _ _ 35 35 rfl 5 Try.underlying35 (by kernel_rfl) (some ⟨w.heap.size, 0, none⟩) (some ⟨g, k, none⟩) 4 4 (D.length - k) (cap - k) rfl rfl w.heap.size 0 [.int .u8 0, .int .u8 0, .int .u8 0, .int .u8 0] 5 EB.out X (by rw [HXl.out]; simp [Nat.min_comm]) (fun _ => ⟨rfl, _, rfl, HXd.out⟩) (by rw [HXl.out]; simp; omega) HXo.out w.heap.size w (by exact hb.drew) (Nat.le_refl _) ?_; intro w3 HG hb3)
  all_goals
    have g1 : w3.cell? ⟨R, 1, none⟩ = some (.int .i64 p) := by rw [hb3.cell (by exact hR)]; exact C1.out
    have g2 : w3.cell? ⟨R, 2, none⟩ = some (.int .i64 k) := by rw [hb3.cell (by exact hR)]; exact C2.out
    have f1 : w3.frozen? ⟨R, 1, none⟩ = false := by rw [hb3.frozen (by exact hR)]; exact F1.out
    have f2 : w3.frozen? ⟨R, 2, none⟩ = false := by rw [hb3.frozen (by exact hR)]; exact F2.out
    have hS : ∀ j, j < 4 → w3.cell? ⟨w.heap.size, j, none⟩ = some (.int .u8 (D.getD (k + j) 0)) := fun j hj => by
      rw [cell_of_row _ _ _ _ _ _ HG.out, List.getElem?_toArray]; exact splice_at D k X HX.out j hj
    have s0 := hS 0 (by decide)
    have s1 := hS 1 (by decide)
    have s2 := hS 2 (by decide)
    have s3 := hS 3 (by decide)
    have x32 := V_32 D k hD.1
    have b0 := hD.1 (k + 0)
    have b1 := hD.1 (k + 1)
    have b2 := hD.1 (k + 2)
    have b3 := hD.1 (k + 3)
    have vc := V_cut D (8 * k) p n hs
    clear hS HXd EB HG e0 e1 e2 HX HXl HXo hb C1 C2 F1 F2 hD hk1 hk2 hk3 hk4 hk5
    rw [Nat.add_zero] at s0 b0
    obtain ⟨a0, h0⟩ : ∃ a, a = D.getD k 0 := ⟨_, rfl⟩
    obtain ⟨a1, h1⟩ : ∃ a, a = D.getD (k + 1) 0 := ⟨_, rfl⟩
    obtain ⟨a2, h2⟩ : ∃ a, a = D.getD (k + 2) 0 := ⟨_, rfl⟩
    obtain ⟨a3, h3⟩ : ∃ a, a = D.getD (k + 3) 0 := ⟨_, rfl⟩
    rw [← h0, ← h1, ← h2, ← h3] at x32
    rw [← h0] at s0 b0
    rw [← h1] at s1 b1
    rw [← h2] at s2 b2
    rw [← h3] at s3 b3
    clear h0 h1 h2 h3
    have y0 : IntKind.u32.wrap (a0 * 16777216) = a0 * 16777216 := IntWalk.u32_in _ (by omega)
    have y1 : IntKind.u32.wrap (a1 * 65536) = a1 * 65536 := IntWalk.u32_in _ (by omega)
    have y2 : IntKind.u32.wrap (a2 * 256) = a2 * 256 := IntWalk.u32_in _ (by omega)
    have z0 : IntKind.u32.wrap a0 = a0 := IntWalk.u32_in _ (by omega)
    have z1 : IntKind.u32.wrap a1 = a1 := IntWalk.u32_in _ (by omega)
    have z2 : IntKind.u32.wrap a2 = a2 := IntWalk.u32_in _ (by omega)
    have z3 : IntKind.u32.wrap a3 = a3 := IntWalk.u32_in _ (by omega)
    have o1 : bits .or .u32 (a0 * 16777216) (a1 * 65536) = a0 * 16777216 + a1 * 65536 := u32_join 24 _ _ (by omega) (by omega) (by omega) (by omega) (by omega) (by omega)
    have o2 : bits .or .u32 (a0 * 16777216 + a1 * 65536) (a2 * 256) = a0 * 16777216 + a1 * 65536 + a2 * 256 := u32_join 16 _ _ (by omega) (by omega) (by omega) (by omega) (by omega) (by omega)
    have o3 : bits .or .u32 (a0 * 16777216 + a1 * 65536 + a2 * 256) a3 = a0 * 16777216 + a1 * 65536 + a2 * 256 + a3 := u32_join 8 _ _ (by omega) (by omega) (by omega) (by omega) (by omega) (by omega)
    have X32 := Lib.hid x32
    have VC := Lib.hid vc
    clear x32 vc b0 b1 b2 b3
    go_wp2_with fail
    go_quiet (fail)
    clear y0 y1 y2 z0 z1 z2 z3 o1 o2 o3
    go_wp2_with fail
    have E : (a0 * 16777216 + a1 * 65536 + a2 * 256 + a3) * 2 ^ p % 4294967296 / 2 ^ (32 - n) = V D (8 * k + p) n := by rw [← X32.out]; exact VC.out
    rw [E]
    have zb := V_bd D (8 * k + p) n
    have z1 : V D (8 * k + p) n ≤ 4294967295 := by
      have h1 : (2 : Int) ^ n ≤ 2 ^ 32 := by exact_mod_cast Nat.pow_le_pow_right (by decide : 0 < 2) (by omega : n ≤ 32)
      have h2 : (2 : Int) ^ 32 = 4294967296 := by decide
      omega
    have z0 := zb.1
    obtain ⟨z, hz⟩ : ∃ z, z = V D (8 * k + p) n := ⟨_, rfl⟩
    rw [← hz] at z0 z1 ⊢
    have HZ := Lib.hid hz
    clear hz zb E X32 VC s0 s1 s2 s3
    have t1 : IntKind.i64.wrap ((p : Int) + n) = p + n := IntWalk.i64_in _ (by omega)
    have t2 : IntKind.i64.wrap ((k : Int) + (p + n) / 8) = k + (p + n) / 8 := IntWalk.i64_in _ (by omega)
    have t3 : bits .and .i64 ((p : Int) + n) 7 = (p + n) % 8 := i64_and7 _
    go_region
    all_goals go_wp2_with fail
    all_goals
      go_ret
      refine ⟨w3.drewN (nq + 1), ?_, ?_, stpN hb3 _⟩
      · rw [← HZ.out]; rfl
      · simp

theorem cs_other {w : World} {a b : Addr} {v : Value} (h : a ≠ b) : (w.setCell a v).cell? b = w.cell? b := by
  apply World.cell?_setCell_other; exact h
theorem cs_same {w : World} {a : Addr} {v u : Value} (h : w.cell? a = some u) : (w.setCell a v).cell? a = some v := by
  apply World.cell?_setCell_same; exact h
theorem grown_of_below {w w1 : World} (h : Below w.heap.size w w1) (row : Option Nat) : w.grownBy w1 row :=
  ⟨h.os, h.tape, h.output, h.size, fun k hk _ => h.block k hk⟩
theorem grown_set {w w1 : World} {R : Nat} (h : w.grownBy w1 (some R)) (j : Nat) (u : Value) : w.grownBy (w1.setCell ⟨R, j, none⟩ u) (some R) :=
  ⟨h.os, h.tape, h.output, by simpa using h.size, fun k hk hne => by
    rw [heap_setCell_other _ _ _ _ (by intro e; subst e; exact hne rfl)]; exact h.block k hk hne⟩

theorem bits_any (R g cap : Nat) (D : List Int) (s n : Nat) (hD : Bytes D) (hn : 1 ≤ n) (hs : s % 8 + n ≤ 32) (hlt : s / 8 < D.length) (hcap : D.length ≤ cap) (hcap2 : cap ≤ maxLen) (w : World) (h : Rd w R g cap D s) :
    Calls Try.prog 28 #[.pointer (some ⟨R, 0, none⟩), .int .i64 n] w fun e w' => e = .returned (.int .i64 (V D s n)) ∧ Rd w' R g cap D (s + n) ∧ w.grownBy w' (some R) := by
  refine (bits_core R g cap D (s / 8) (s % 8) n hD hn hs (by omega) hlt hcap hcap2 w h.vec h.bit h.byt (h.free 1) (h.free 2) h.ltR h.ltg h.cells).mono ?_
  rintro e w' ⟨w1, rfl, rfl, hb⟩
  have e0 : 8 * (s / 8) + s % 8 = s := by omega
  refine ⟨by rw [e0], ?_, grown_set (grown_set (grown_of_below hb _) _ _) _ _⟩
  have c0 : w1.cell? ⟨R, 0, none⟩ = some (.slice (some ⟨g, 0, none⟩) D.length cap) := by rw [hb.cell (by exact h.ltR)]; exact h.vec
  have c1 : w1.cell? ⟨R, 1, none⟩ = some (.int .i64 (s % 8 : Nat)) := by rw [hb.cell (by exact h.ltR)]; exact h.bit
  have c2 : w1.cell? ⟨R, 2, none⟩ = some (.int .i64 (s / 8 : Nat)) := by rw [hb.cell (by exact h.ltR)]; exact h.byt
  have e1 : (s % 8 + n) % 8 = (s + n) % 8 := by omega
  have e2 : s / 8 + (s % 8 + n) / 8 = (s + n) / 8 := by omega
  have d1 : (w1.setCell ⟨R, 2, none⟩ (.int .i64 (s / 8 + (s % 8 + n) / 8 : Nat))).cell? ⟨R, 1, none⟩ = some (.int .i64 (s % 8 : Nat)) := by
    rw [cs_other (by simp)]; exact c1
  refine ⟨?_, ?_, ?_, fun j => ?_, fun j hj => ?_, h.apart, ?_, ?_⟩
  · rw [cs_other (by simp), cs_other (by simp)]; exact c0
  · rw [cs_same d1, e1]
  · rw [cs_other (by simp), cs_same c2, e2]
  · simp only [World.frozen?_setCell]; rw [hb.frozen (by exact h.ltR)]; exact h.free j
  · rw [cs_other (by simp [h.apart.symm]), cs_other (by simp [h.apart.symm]), hb.cell (by exact h.ltg)]; exact h.cells j hj
  · have := hb.size; have := h.ltR; simp; omega
  · have := hb.size; have := h.ltg; simp; omega
end Go.Proofs.Ytppfldobgemddaa
