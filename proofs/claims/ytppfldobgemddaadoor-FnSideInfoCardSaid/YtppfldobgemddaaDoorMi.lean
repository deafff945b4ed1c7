/-
  The contract of (*bits.Bits).Bits: the reader of words of bits; The contract of bits.New; a reader of bits is kept where other blocks change; The contract of (*bytes.Reader).Read where all that is asked for is there; A source over bytes (zzSource): what it holds, and what a read leaves of it; The contract of (*zzSource).ReadFull (package sideinfo) where all that is asked for is there (printed by wip/genzz.py).
-/
import Derived.Test.YtppfldobgemddaaDoorRows
import Derived.Test.YtppfldobgemddaaDoorMa
import Derived.Test.YtppfldobgemddaaDoorMb
import Derived.Test.YtppfldobgemddaaDoorMc
import Derived.WalkSpells
import Derived.Handy
import Derived.Laws.CopyOwn
import Derived.Deep.QuietTactic
import Derived.BigQuiet
import Derived.Deep.RegionHeld3
namespace Go.Proofs.YtppfldobgemddaaDoor
open Go.RowKit
set_option linter.unusedVariables false

/-- The reader in block R over the bytes D in block g, at place s. -/
structure Rd (w : World) (R g cap : Nat) (D : List Int) (s : Nat) : Prop where
  vec : w.cell? ⟨R, 0, none⟩ = some (.slice (some ⟨g, 0, none⟩) D.length cap)
  bit : w.cell? ⟨R, 1, none⟩ = some (.int .i64 (s % 8 : Nat))
  byt : w.cell? ⟨R, 2, none⟩ = some (.int .i64 (s / 8 : Nat))
  free : ∀ j, w.frozen? ⟨R, j, none⟩ = false
  cells : ∀ j, j < D.length → w.cell? ⟨g, j, none⟩ = some (.int .u8 (D.getD j 0))
  apart : g ≠ R
  ltR : R < w.heap.size
  ltg : g < w.heap.size


theorem drewN_cell (w : World) (n : Nat) (a : Addr) : (w.drewN n).cell? a = w.cell? a := rfl
theorem drewN_frozen (w : World) (n : Nat) (a : Addr) : (w.drewN n).frozen? a = w.frozen? a := rfl

/-- What a copy of four bytes leaves: the bytes that are there, noughts behind. -/
theorem splice_at (D : List Int) (k : Nat) (X : List Value) (hX : X = ((D.drop k).take 4).map (Value.int .u8)) (j : Nat) (hj : j < 4) :
    (splice [Value.int .u8 0, .int .u8 0, .int .u8 0, .int .u8 0] 0 X)[j]? = some (.int .u8 (D.getD (k + j) 0)) := by
  have hl : X.length = min 4 (D.length - k) := by rw [hX]; simp
  unfold splice
  rw [List.take_zero, List.nil_append, List.getD_eq_getElem?_getD]
  by_cases h : j < X.length
  · rw [List.getElem?_append_left h, hX]
    have h2 : k + j < D.length := by omega
    simp [hj, List.getElem?_drop, h2]
  · rw [List.getElem?_append_right (by omega)]
    have h2 : D.length ≤ k + j := by omega
    have h3 : D[k + j]? = none := by simp [h2]
    rw [h3, Nat.zero_add, List.getElem?_drop]
    have h4 : X.length + (j - X.length) = j := by omega
    rw [h4]
    have h5 : j = 0 ∨ j = 1 ∨ j = 2 ∨ j = 3 := by omega
    rcases h5 with rfl | rfl | rfl | rfl <;> rfl

set_option maxHeartbeats 1000000 in
theorem bits_core (R g cap : Nat) (D : List Int) (k p n : Nat) (hD : Bytes D) (hn : 1 ≤ n) (hs : p + n ≤ 32) (hp : p ≤ 7) (hlt : k < D.length) (hcap : D.length ≤ cap) (hcap2 : cap ≤ maxLen) (w : World)
    (c0 : w.cell? ⟨R, 0, none⟩ = some (.slice (some ⟨g, 0, none⟩) D.length cap)) (c1 : w.cell? ⟨R, 1, none⟩ = some (.int .i64 p)) (c2 : w.cell? ⟨R, 2, none⟩ = some (.int .i64 k))
    (f1 : w.frozen? ⟨R, 1, none⟩ = false) (f2 : w.frozen? ⟨R, 2, none⟩ = false) (hR : R < w.heap.size) (hg : g < w.heap.size)
    (hc : ∀ j, j < D.length → w.cell? ⟨g, j, none⟩ = some (.int .u8 (D.getD j 0))) :
    Calls Tryd.prog 66 #[.pointer (some ⟨R, 0, none⟩), .int .i64 n] w fun e w' => ∃ w1, e = .returned (.int .i64 (V D (8 * k + p) n)) ∧ w' = (w1.setCell ⟨R, 2, none⟩ (.int .i64 (k + (p + n) / 8 : Nat))).setCell ⟨R, 1, none⟩ (.int .i64 ((p + n) % 8 : Nat)) ∧ Below w.heap.size w w1 := by
  have L := hD.2
  obtain ⟨X, hX⟩ : ∃ X, X = ((D.drop k).take 4).map (Value.int .u8) := ⟨_, rfl⟩
  have hXl : X.length = min 4 (D.length - k) := by rw [hX]; simp
  have hXo : ∀ v ∈ X, v.oneCell' = true := by rw [hX]; intro v hv; obtain ⟨z, _, rfl⟩ := List.mem_map.1 hv; rfl
  have hXc : ∀ (o : Obj) (nq : Nat) (j : Nat) (v : Value), X[j]? = some v → ((w.drewN nq).alloc o).cell? ((⟨g, k, none⟩ : Addr).add j) = some v := by
    intro o nq j v hv
    have ha : (⟨g, k, none⟩ : Addr).add j = ⟨g, k + j, none⟩ := by unfold Addr.add; split <;> simp_all
    have hj : j < X.length := (List.getElem?_eq_some_iff.1 hv).1
    rw [ha, World.cell?_alloc_past _ _ _ (by exact hg), drewN_cell, hc (k + j) (by omega), List.getD_eq_getElem?_getD]
    rw [hX, List.getElem?_map, List.getElem?_take, if_pos (by omega), List.getElem?_drop] at hv
    cases hd : D[k + j]? with
    | none => rw [hd] at hv; simp at hv
    | some z => rw [hd] at hv; simpa using hv
  have HX := Lib.hid hX
  have HXc := Lib.hid hXc
  have HXl := Lib.hid hXl
  have HXo := Lib.hid hXo
  have hk1 : (k : Int) < D.length := by omega
  have hk2 : (k : Int) < cap := by omega
  have hk3 : (D.length : Int) ≤ cap := by omega
  have hk4 : k ≤ D.length := by omega
  have hk5 : ¬ cap = k := by omega
  clear hX hXc hXl hXo hc
  have hmk : ∀ w, (Instr.makeSlice 23 (.int .i64 4) (.int .i64 4)).run Tryd.prog w = .ok (.slice (some ⟨w.heap.size, 0, none⟩) 4 4) (w.alloc (.cells #[.int .u8 0, .int .u8 0, .int .u8 0, .int .u8 0] 5)) := fun _ => by kernel_rfl
  go_enter Tryd.func66, Tryd.ntmps66
  go_wp2_with fail
  go_quiet (fail)
  go_wp2_with fail
  have e0 : ((w.drewN nq).alloc (.cells #[.int .u8 0, .int .u8 0, .int .u8 0, .int .u8 0] 5)).cell? ⟨R, 0, none⟩ = some (.slice (some ⟨g, 0, none⟩) D.length cap) := by rw [World.cell?_alloc_past _ _ _ (by exact hR)]; exact c0
  have e1 : ((w.drewN nq).alloc (.cells #[.int .u8 0, .int .u8 0, .int .u8 0, .int .u8 0] 5)).cell? ⟨R, 1, none⟩ = some (.int .i64 p) := by rw [World.cell?_alloc_past _ _ _ (by exact hR)]; exact c1
  have e2 : ((w.drewN nq).alloc (.cells #[.int .u8 0, .int .u8 0, .int .u8 0, .int .u8 0] 5)).cell? ⟨R, 2, none⟩ = some (.int .i64 k) := by rw [World.cell?_alloc_past _ _ _ (by exact hR)]; exact c2
  have eb : ((w.drewN nq).alloc (.cells #[.int .u8 0, .int .u8 0, .int .u8 0, .int .u8 0] 5)).heap[w.heap.size]? = some (.cells [Value.int .u8 0, .int .u8 0, .int .u8 0, .int .u8 0].toArray 5 (0, 0)) := heap_alloc_new (w.drewN nq) _
  have hb : Below w.heap.size w ((w.drewN nq).alloc (.cells #[.int .u8 0, .int .u8 0, .int .u8 0, .int .u8 0] 5)) := stpA (stpN (stp0 w) nq) _
  have hx : ∀ j v, X[j]? = some v → ((w.drewN nq).alloc (.cells #[.int .u8 0, .int .u8 0, .int .u8 0, .int .u8 0] 5)).cell? ((⟨g, k, none⟩ : Addr).add j) = some v := HXc.out _ nq
  have HXd := Lib.hid hx
  have C1 := Lib.hid c1
  have C2 := Lib.hid c2
  have F1 := Lib.hid f1
  have F2 := Lib.hid f2
  clear hx HXc hmk c0 c1 c2 f1 f2
  generalize (w.drewN nq).alloc (.cells #[.int .u8 0, .int .u8 0, .int .u8 0, .int .u8 0] 5) = w2 at *
  have EB := Lib.hid eb
  clear eb
  go_region_law (refine step_copy_splice rfl _ _ 23 23 rfl 5 Tryd.underlying23 (by kernel_rfl) (some ⟨w.heap.size, 0, none⟩) (some ⟨g, k, none⟩) 4 4 (D.length - k) (cap - k) rfl rfl w.heap.size 0 [.int .u8 0, .int .u8 0, .int .u8 0, .int .u8 0] 5 EB.out X (by rw [HXl.out]; simp [Nat.min_comm]) (fun _ => ⟨rfl, _, rfl, HXd.out⟩) (by rw [HXl.out]; simp; omega) HXo.out w.heap.size w (by exact hb.drew) (Nat.le_refl _) ?_; intro w3 HG hb3)
  all_goals
    have g1 : w3.cell? ⟨R, 1, none⟩ = some (.int .i64 p) := by rw [hb3.cell (by exact hR)]; exact C1.out
    have g2 : w3.cell? ⟨R, 2, none⟩ = some (.int .i64 k) := by rw [hb3.cell (by exact hR)]; exact C2.out
    have f1 : w3.frozen? ⟨R, 1, none⟩ = false := by rw [hb3.frozen (by exact hR)]; exact F1.out
    have f2 : w3.frozen? ⟨R, 2, none⟩ = false := by rw [hb3.frozen (by exact hR)]; exact F2.out
    have hS : ∀ j, j < 4 → w3.cell? ⟨w.heap.size, j, none⟩ = some (.int .u8 (D.getD (k + j) 0)) := fun j hj => by
      rw [cell_of_row _ _ _ _ _ _ HG.out, List.getElem?_toArray]; exact splice_at D k X HX.out j hj
    have s0 := hS 0 (by decide)
    have s1 := hS 1 (by decide)
    have s2 := hS 2 (by decide)
    have s3 := hS 3 (by decide)
    have x32 := V_32 D k hD.1
    have b0 := hD.1 (k + 0)
    have b1 := hD.1 (k + 1)
    have b2 := hD.1 (k + 2)
    have b3 := hD.1 (k + 3)
    have vc := V_cut D (8 * k) p n hs
    clear hS HXd EB HG e0 e1 e2 HX HXl HXo hb C1 C2 F1 F2 hD hk1 hk2 hk3 hk4 hk5
    rw [Nat.add_zero] at s0 b0
    obtain ⟨a0, h0⟩ : ∃ a, a = D.getD k 0 := ⟨_, rfl⟩
    obtain ⟨a1, h1⟩ : ∃ a, a = D.getD (k + 1) 0 := ⟨_, rfl⟩
    obtain ⟨a2, h2⟩ : ∃ a, a = D.getD (k + 2) 0 := ⟨_, rfl⟩
    obtain ⟨a3, h3⟩ : ∃ a, a = D.getD (k + 3) 0 := ⟨_, rfl⟩
    rw [← h0, ← h1, ← h2, ← h3] at x32
    rw [← h0] at s0 b0
    rw [← h1] at s1 b1
    rw [← h2] at s2 b2
    rw [← h3] at s3 b3
    clear h0 h1 h2 h3
    have y0 : IntKind.u32.wrap (a0 * 16777216) = a0 * 16777216 := IntWalk.u32_in _ (by omega)
    have y1 : IntKind.u32.wrap (a1 * 65536) = a1 * 65536 := IntWalk.u32_in _ (by omega)
    have y2 : IntKind.u32.wrap (a2 * 256) = a2 * 256 := IntWalk.u32_in _ (by omega)
    have z0 : IntKind.u32.wrap a0 = a0 := IntWalk.u32_in _ (by omega)
    have z1 : IntKind.u32.wrap a1 = a1 := IntWalk.u32_in _ (by omega)
    have z2 : IntKind.u32.wrap a2 = a2 := IntWalk.u32_in _ (by omega)
    have z3 : IntKind.u32.wrap a3 = a3 := IntWalk.u32_in _ (by omega)
    have o1 : bits .or .u32 (a0 * 16777216) (a1 * 65536) = a0 * 16777216 + a1 * 65536 := u32_join 24 _ _ (by omega) (by omega) (by omega) (by omega) (by omega) (by omega)
    have o2 : bits .or .u32 (a0 * 16777216 + a1 * 65536) (a2 * 256) = a0 * 16777216 + a1 * 65536 + a2 * 256 := u32_join 16 _ _ (by omega) (by omega) (by omega) (by omega) (by omega) (by omega)
    have o3 : bits .or .u32 (a0 * 16777216 + a1 * 65536 + a2 * 256) a3 = a0 * 16777216 + a1 * 65536 + a2 * 256 + a3 := u32_join 8 _ _ (by omega) (by omega) (by omega) (by omega) (by omega) (by omega)
    have X32 := Lib.hid x32
    have VC := Lib.hid vc
    clear x32 vc b0 b1 b2 b3
    go_wp2_with fail
    go_quiet (fail)
    clear y0 y1 y2 z0 z1 z2 z3 o1 o2 o3
    go_wp2_with fail
    have E : (a0 * 16777216 + a1 * 65536 + a2 * 256 + a3) * 2 ^ p % 4294967296 / 2 ^ (32 - n) = V D (8 * k + p) n := by rw [← X32.out]; exact VC.out
    rw [E]
    have zb := V_bd D (8 * k + p) n
    have z1 : V D (8 * k + p) n ≤ 4294967295 := by
      have h1 : (2 : Int) ^ n ≤ 2 ^ 32 := by exact_mod_cast Nat.pow_le_pow_right (by decide : 0 < 2) (by omega : n ≤ 32)
      have h2 : (2 : Int) ^ 32 = 4294967296 := by decide
      omega
    have z0 := zb.1
    obtain ⟨z, hz⟩ : ∃ z, z = V D (8 * k + p) n := ⟨_, rfl⟩
    rw [← hz] at z0 z1 ⊢
    have HZ := Lib.hid hz
    clear hz zb E X32 VC s0 s1 s2 s3
    have t1 : IntKind.i64.wrap ((p : Int) + n) = p + n := IntWalk.i64_in _ (by omega)
    have t2 : IntKind.i64.wrap ((k : Int) + (p + n) / 8) = k + (p + n) / 8 := IntWalk.i64_in _ (by omega)
    have t3 : bits .and .i64 ((p : Int) + n) 7 = (p + n) % 8 := i64_and7 _
    go_region
    all_goals go_wp2_with fail
    all_goals
      go_ret
      refine ⟨w3.drewN (nq + 1), ?_, ?_, stpN hb3 _⟩
      · rw [← HZ.out]; rfl
      · simp

theorem bits_any (R g cap : Nat) (D : List Int) (s n : Nat) (hD : Bytes D) (hn : 1 ≤ n) (hs : s % 8 + n ≤ 32) (hlt : s / 8 < D.length) (hcap : D.length ≤ cap) (hcap2 : cap ≤ maxLen) (w : World) (h : Rd w R g cap D s) :
    Calls Tryd.prog 66 #[.pointer (some ⟨R, 0, none⟩), .int .i64 n] w fun e w' => e = .returned (.int .i64 (V D s n)) ∧ Rd w' R g cap D (s + n) ∧ w.grownBy w' (some R) := by
  refine (bits_core R g cap D (s / 8) (s % 8) n hD hn hs (by omega) hlt hcap hcap2 w h.vec h.bit h.byt (h.free 1) (h.free 2) h.ltR h.ltg h.cells).mono ?_
  rintro e w' ⟨w1, rfl, rfl, hb⟩
  have e0 : 8 * (s / 8) + s % 8 = s := by omega
  refine ⟨by rw [e0], ?_, grown_set (grown_set (grown_of_below hb _) _ _) _ _⟩
  have c0 : w1.cell? ⟨R, 0, none⟩ = some (.slice (some ⟨g, 0, none⟩) D.length cap) := by rw [hb.cell (by exact h.ltR)]; exact h.vec
  have c1 : w1.cell? ⟨R, 1, none⟩ = some (.int .i64 (s % 8 : Nat)) := by rw [hb.cell (by exact h.ltR)]; exact h.bit
  have c2 : w1.cell? ⟨R, 2, none⟩ = some (.int .i64 (s / 8 : Nat)) := by rw [hb.cell (by exact h.ltR)]; exact h.byt
  have e1 : (s % 8 + n) % 8 = (s + n) % 8 := by omega
  have e2 : s / 8 + (s % 8 + n) / 8 = (s + n) / 8 := by omega
  have d1 : (w1.setCell ⟨R, 2, none⟩ (.int .i64 (s / 8 + (s % 8 + n) / 8 : Nat))).cell? ⟨R, 1, none⟩ = some (.int .i64 (s % 8 : Nat)) := by
    rw [cs_other (by simp)]; exact c1
  refine ⟨?_, ?_, ?_, fun j => ?_, fun j hj => ?_, h.apart, ?_, ?_⟩
  · rw [cs_other (by simp), cs_other (by simp)]; exact c0
  · rw [cs_same d1, e1]
  · rw [cs_other (by simp), cs_same c2, e2]
  · simp only [World.frozen?_setCell]; rw [hb.frozen (by exact h.ltR)]; exact h.free j
  · rw [cs_other (by simp [h.apart.symm]), cs_other (by simp [h.apart.symm]), hb.cell (by exact h.ltg)]; exact h.cells j hj
  · have := hb.size; have := h.ltR; simp; omega
  · have := hb.size; have := h.ltg; simp; omega
end Go.Proofs.YtppfldobgemddaaDoor
namespace Go.Proofs.YtppfldobgemddaaDoor
open Go.RowKit
set_option linter.unusedVariables false

theorem Rd.kept {w w' : World} {R g cap s : Nat} {D : List Int} {row : Option Nat} (h : Rd w R g cap D s) (hg : w.grownBy w' row) (h1 : row ≠ some R) (h2 : row ≠ some g) : Rd w' R g cap D s := by
  have eR := hg.block R h.ltR (fun e => h1 e.symm)
  have eg := hg.block g h.ltg (fun e => h2 e.symm)
  have cR : ∀ j, w'.cell? ⟨R, j, none⟩ = w.cell? ⟨R, j, none⟩ := fun j => World.cell?_of_block (a := ⟨R, j, none⟩) eR
  have cg : ∀ j, w'.cell? ⟨g, j, none⟩ = w.cell? ⟨g, j, none⟩ := fun j => World.cell?_of_block (a := ⟨g, j, none⟩) eg
  have fR : ∀ j, w'.frozen? ⟨R, j, none⟩ = w.frozen? ⟨R, j, none⟩ := fun j => World.frozen?_of_block (a := ⟨R, j, none⟩) eR
  exact ⟨(cR 0).trans h.vec, (cR 1).trans h.bit, (cR 2).trans h.byt, fun j => (fR j).trans (h.free j), fun j hj => (cg j).trans (h.cells j hj), h.apart,
    Nat.lt_of_lt_of_le h.ltR hg.size, Nat.lt_of_lt_of_le h.ltg hg.size⟩
theorem Rd.alloc {w : World} {R g cap s : Nat} {D : List Int} (h : Rd w R g cap D s) (o : Obj) : Rd (w.alloc o) R g cap D s :=
  h.kept (row := none) (grown_of_below (stpA (stp0 w) o) none) (by simp) (by simp)

set_option maxHeartbeats 400000 in
theorem new_any (a : Option Addr) (n c : Nat) (w : World) :
    Calls Tryd.prog 64 #[.slice a n c] w fun e w' => e = .returned (.pointer (some ⟨w.heap.size, 0, none⟩)) ∧ w' = w.alloc (.cells #[.slice a n c, .int .i64 0, .int .i64 0] 181) := by
  go_enter Tryd.func64, Tryd.ntmps64
  go_wp2_with fail
  go_ret
  exact ⟨rfl, rfl⟩

end Go.Proofs.YtppfldobgemddaaDoor
namespace Go.Proofs.YtppfldobgemddaaDoor
open Go.RowKit
set_option linter.unusedVariables false

def bytesOf (D : List Int) (i k : Nat) : List Value := ((D.drop i).take k).map (Value.int .u8)

set_option maxHeartbeats 1000000 in
theorem read_core (Q X B k bc i cap : Nat) (D : List Int) (cur : List Value) (hL : D.length ≤ 1000000) (hk : 1 ≤ k) (hik : i + k ≤ D.length) (hcap : D.length ≤ cap) (hcap2 : cap ≤ maxLen) (hcur : cur.length = k) (hkb : k ≤ bc) (w : World)
    (q0 : w.cell? ⟨Q, 0, none⟩ = some (.slice (some ⟨X, 0, none⟩) D.length cap)) (q1 : w.cell? ⟨Q, 1, none⟩ = some (.int .i64 i)) (q2 : w.cell? ⟨Q, 2, none⟩ = some (.int .i64 (-1)))
    (f1 : w.frozen? ⟨Q, 1, none⟩ = false) (f2 : w.frozen? ⟨Q, 2, none⟩ = false) (hQ : Q < B) (hX : X < B) (hQX : X ≠ Q)
    (hB : w.heap[B]? = some (.cells cur.toArray 5 (0, 0))) (hc : ∀ j, j < D.length → w.cell? ⟨X, j, none⟩ = some (.int .u8 (D.getD j 0))) :
    Calls Tryd.prog 108 #[.pointer (some ⟨Q, 0, none⟩), .slice (some ⟨B, 0, none⟩) k bc] w fun e w' => ∃ w1, e = .returned (.tuple #[.int .i64 k, .nilIface]) ∧ w' = w1.setCell ⟨Q, 1, none⟩ (.int .i64 (i + k : Nat)) ∧ (∃ nq, Below B ((w.drewN nq).setCell ⟨Q, 2, none⟩ (.int .i64 (-1))) w1) ∧ w1.heap[B]? = some (.cells (bytesOf D i k).toArray 5 (0, 0)) := by
  obtain ⟨XS, hXS⟩ : ∃ XS, XS = bytesOf D i k := ⟨_, rfl⟩
  have hXl : XS.length = k := by rw [hXS]; unfold bytesOf; simp; omega
  have hXo : ∀ v ∈ XS, v.oneCell' = true := by rw [hXS]; intro v hv; obtain ⟨z, _, rfl⟩ := List.mem_map.1 hv; rfl
  have hXc : ∀ (nq : Nat) (j : Nat) (v : Value), XS[j]? = some v → ((w.drewN nq).setCell ⟨Q, 2, none⟩ (.int .i64 (-1))).cell? ((⟨X, i, none⟩ : Addr).add j) = some v := by
    intro nq j v hv
    have ha : (⟨X, i, none⟩ : Addr).add j = ⟨X, i + j, none⟩ := by unfold Addr.add; split <;> simp_all
    have hj : j < XS.length := (List.getElem?_eq_some_iff.1 hv).1
    have hne : (⟨Q, 2, none⟩ : Addr) ≠ ⟨X, i + j, none⟩ := by intro h; injection h with h; exact hQX h.symm
    rw [ha, cs_other hne]
    show w.cell? _ = _
    rw [hc (i + j) (by omega), List.getD_eq_getElem?_getD]
    rw [hXS] at hv
    unfold bytesOf at hv
    rw [List.getElem?_map, List.getElem?_take, if_pos (by omega), List.getElem?_drop] at hv
    cases hd : D[i + j]? with
    | none => rw [hd] at hv; simp at hv
    | some z => rw [hd] at hv; simpa using hv
  have HX := Lib.hid hXS
  have HXc := Lib.hid hXc
  have HXl := Lib.hid hXl
  have HXo := Lib.hid hXo
  have HB := Lib.hid hB
  have HC := Lib.hid hcur
  have hk1 : (i : Int) < D.length := by omega
  have hk2 : (i : Int) < cap := by omega
  have hk3 : (D.length : Int) ≤ cap := by omega
  have hk4 : i ≤ D.length := by omega
  have hk5 : ¬ cap = i := by omega
  clear hXS hXc hXl hXo hc hB hcur
  go_enter Tryd.func108, Tryd.ntmps108
  go_wp2_with fail
  go_quiet (fail)
  go_wp2_with fail
  have e0 : ((w.drewN nq).setCell ⟨Q, 2, none⟩ (.int .i64 (-1))).cell? ⟨Q, 0, none⟩ = some (.slice (some ⟨X, 0, none⟩) D.length cap) := by rw [cs_other (by simp)]; exact q0
  have e1 : ((w.drewN nq).setCell ⟨Q, 2, none⟩ (.int .i64 (-1))).cell? ⟨Q, 1, none⟩ = some (.int .i64 i) := by rw [cs_other (by simp)]; exact q1
  have ef : ((w.drewN nq).setCell ⟨Q, 2, none⟩ (.int .i64 (-1))).frozen? ⟨Q, 1, none⟩ = false := by rw [World.frozen?_setCell]; exact f1
  have eb : ((w.drewN nq).setCell ⟨Q, 2, none⟩ (.int .i64 (-1))).heap[B]? = some (.cells cur.toArray 5 (0, 0)) := by rw [heap_setCell_other _ _ _ _ (by show B ≠ Q; omega)]; exact HB.out
  have hx : ∀ j v, XS[j]? = some v → ((w.drewN nq).setCell ⟨Q, 2, none⟩ (.int .i64 (-1))).cell? ((⟨X, i, none⟩ : Addr).add j) = some v := HXc.out nq
  have HXd := Lib.hid hx
  have EB := Lib.hid eb
  clear hx HXc q0 q1 q2 f1 f2 eb HB
  have hbz : Below B ((w.drewN nq).setCell ⟨Q, 2, none⟩ (.int .i64 (-1))) ((w.drewN nq).setCell ⟨Q, 2, none⟩ (.int .i64 (-1))) := Below.refl _ _
  have E1 := Lib.hid e1
  have EF := Lib.hid ef
  have HW2 : Hid (∃ n, (w.drewN nq).setCell ⟨Q, 2, none⟩ (.int .i64 (-1)) = (w.drewN n).setCell ⟨Q, 2, none⟩ (.int .i64 (-1))) := Lib.hid ⟨nq, rfl⟩
  generalize (w.drewN nq).setCell ⟨Q, 2, none⟩ (.int .i64 (-1)) = w2 at *
  go_region_law (refine step_copy_splice rfl _ _ 23 23 rfl 5 Tryd.underlying23 (by kernel_rfl) (some ⟨B, 0, none⟩) (some ⟨X, i, none⟩) k bc (D.length - i) (cap - i) rfl rfl B 0 cur 5 EB.out XS (by rw [HXl.out]; simp [Nat.min_def]; omega) (fun _ => ⟨rfl, _, rfl, HXd.out⟩) (by rw [HXl.out, HC.out]; omega) HXo.out B w2 (by exact hbz.drew) (Nat.le_refl _) ?_; intro w3 HG hb3)
  all_goals
    have g1 : w3.cell? ⟨Q, 1, none⟩ = some (.int .i64 i) := by rw [hb3.cell (by exact hQ)]; exact E1.out
    have g2 : w3.frozen? ⟨Q, 1, none⟩ = false := by rw [hb3.frozen (by exact hQ)]; exact EF.out
    have t1 : IntKind.i64.wrap ((i : Int) + k) = i + k := IntWalk.i64_in _ (by omega)
    have HXl' : XS.length = k := HXl.out
    go_wp2_with fail
    go_returns
    refine ⟨_, rfl, by simp; rfl, ?_, ?_⟩
    · obtain ⟨n, hn⟩ := HW2.out
      exact ⟨n, by rw [← hn]; exact hb3⟩
    · have h := HG.out
      have h3 : splice cur 0 XS = bytesOf D i k := by
        unfold splice
        rw [List.take_zero, List.nil_append, Nat.zero_add, List.drop_eq_nil_of_le (by rw [HXl', HC.out]; exact Nat.le_refl _), List.append_nil, HX.out]
      rw [h3] at h
      exact h

/-- A reader in block Q over the bytes D in block X, at place i. -/
structure Rdr (w : World) (Q X cap : Nat) (D : List Int) (i : Nat) : Prop where
  vec : w.cell? ⟨Q, 0, none⟩ = some (.slice (some ⟨X, 0, none⟩) D.length cap)
  at' : w.cell? ⟨Q, 1, none⟩ = some (.int .i64 i)
  prev : w.cell? ⟨Q, 2, none⟩ = some (.int .i64 (-1))
  free : ∀ j, w.frozen? ⟨Q, j, none⟩ = false
  cells : ∀ j, j < D.length → w.cell? ⟨X, j, none⟩ = some (.int .u8 (D.getD j 0))
  small : D.length ≤ 1000000
  fits : D.length ≤ cap
  fits2 : cap ≤ maxLen
  apart : X ≠ Q

/-- What is kept: all blocks below B but Q. -/
structure KeptBut (w w' : World) (Q B : Nat) : Prop where
  os : w'.os = w.os
  tape : w'.tape = w.tape
  output : w'.output = w.output
  size : w.heap.size ≤ w'.heap.size
  block : ∀ b, b < B → b ≠ Q → w'.heap[b]? = w.heap[b]?

theorem KeptBut.below {w w' : World} {Q B base : Nat} (h : KeptBut w w' Q B) (h1 : base ≤ Q) (h2 : base ≤ B) : Below base w w' :=
  ⟨h.os, h.tape, h.output, h.size, fun k hk => h.block k (by omega) (by omega)⟩

theorem read_any (Q X B k bc i cap : Nat) (D : List Int) (cur : List Value) (hk : 1 ≤ k) (hik : i + k ≤ D.length) (hcur : cur.length = k) (hkb : k ≤ bc) (w : World) (h : Rdr w Q X cap D i)
    (hQ : Q < B) (hX : X < B) (hB : w.heap[B]? = some (.cells cur.toArray 5 (0, 0))) :
    Calls Tryd.prog 108 #[.pointer (some ⟨Q, 0, none⟩), .slice (some ⟨B, 0, none⟩) k bc] w fun e w' => e = .returned (.tuple #[.int .i64 k, .nilIface]) ∧ Rdr w' Q X cap D (i + k) ∧ KeptBut w w' Q B ∧ w'.heap[B]? = some (.cells (bytesOf D i k).toArray 5 (0, 0)) := by
  refine (read_core Q X B k bc i cap D cur h.small hk hik h.fits h.fits2 hcur hkb w h.vec h.at' h.prev (h.free 1) (h.free 2) hQ hX h.apart hB h.cells).mono ?_
  rintro e w' ⟨w1, rfl, rfl, ⟨n, hb⟩, hrow⟩
  have hblk : ∀ b, b < B → b ≠ Q → (w1.setCell ⟨Q, 1, none⟩ (.int .i64 (i + k : Nat))).heap[b]? = w.heap[b]? := fun b h1 h2 => by
    rw [heap_setCell_other _ _ _ _ (by exact h2), hb.block b h1, heap_setCell_other _ _ _ _ (by exact h2)]; rfl
  have c0 : w1.cell? ⟨Q, 0, none⟩ = some (.slice (some ⟨X, 0, none⟩) D.length cap) := by
    rw [hb.cell (by exact hQ), cs_other (by simp)]; exact h.vec
  have c1 : w1.cell? ⟨Q, 1, none⟩ = some (.int .i64 i) := by
    rw [hb.cell (by exact hQ), cs_other (by simp)]; exact h.at'
  have c2 : w1.cell? ⟨Q, 2, none⟩ = some (.int .i64 (-1)) := by
    rw [hb.cell (by exact hQ), cs_same (u := .int .i64 (-1)) (by exact h.prev)]
  refine ⟨rfl, ⟨?_, ?_, ?_, fun j => ?_, fun j hj => ?_, h.small, h.fits, h.fits2, h.apart⟩, ⟨hb.os, hb.tape, hb.output, ?_, hblk⟩, ?_⟩
  · rw [cs_other (by simp)]; exact c0
  · rw [cs_same c1]
  · rw [cs_other (by simp)]; exact c2
  · rw [World.frozen?_setCell, hb.frozen (by exact hQ), World.frozen?_setCell]; exact h.free j
  · rw [World.cell?_of_block (a := ⟨X, j, none⟩) (hblk X hX h.apart)]; exact h.cells j hj
  · have := hb.size; simp at this ⊢; omega
  · rw [heap_setCell_other _ _ _ _ (by show B ≠ Q; omega)]; exact hrow
end Go.Proofs.YtppfldobgemddaaDoor
namespace Go.Proofs.YtppfldobgemddaaDoor
open Go.RowKit
set_option linter.unusedVariables false

/-- A source in block Z: what is left of the bytes D in block X from place i on. -/
structure Zz (w : World) (Z X cap : Nat) (D : List Int) (i : Nat) : Prop where
  vec : ∃ a, w.cell? ⟨Z, 0, none⟩ = some (.slice a (D.length - i) (cap - i)) ∧ (i < cap → a = some ⟨X, i, none⟩)
  free : ∀ j, w.frozen? ⟨Z, j, none⟩ = false
  cells : ∀ j, j < D.length → w.cell? ⟨X, j, none⟩ = some (.int .u8 (D.getD j 0))
  small : D.length ≤ 1000000
  fits : D.length ≤ cap
  fits2 : cap ≤ maxLen
  hXZ : X < Z
  hZ : Z < w.heap.size

theorem Zz.below {w w' : World} {Z X cap i : Nat} {D : List Int} (h : Zz w Z X cap D i) (hb : Below w.heap.size w w') : Zz w' Z X cap D i := by
  have hZ := h.hZ
  have hX := h.hXZ
  have bZ := hb.block Z hZ
  have bX := hb.block X (by omega)
  obtain ⟨a, ha, hi⟩ := h.vec
  exact ⟨⟨a, (World.cell?_of_block (a := ⟨Z, 0, none⟩) bZ).trans ha, hi⟩, fun j => (World.frozen?_of_block (a := ⟨Z, j, none⟩) bZ).trans (h.free j),
    fun j hj => (World.cell?_of_block (a := ⟨X, j, none⟩) bX).trans (h.cells j hj), h.small, h.fits, h.fits2, hX, Nat.lt_of_lt_of_le hZ hb.size⟩

theorem bytes_there (w : World) (X i k : Nat) (D : List Int) (hc : ∀ j, j < D.length → w.cell? ⟨X, j, none⟩ = some (.int .u8 (D.getD j 0))) (hik : i + k ≤ D.length) :
    ∀ (j : Nat) (v : Value), (bytesOf D i k)[j]? = some v → w.cell? ((⟨X, i, none⟩ : Addr).add j) = some v := by
  intro j v hv
  have ha : (⟨X, i, none⟩ : Addr).add j = ⟨X, i + j, none⟩ := by unfold Addr.add; split <;> simp_all
  have hXl : (bytesOf D i k).length = k := by unfold bytesOf; simp; omega
  have hj : j < k := by rw [← hXl]; exact (List.getElem?_eq_some_iff.1 hv).1
  rw [ha, hc (i + j) (by omega), List.getD_eq_getElem?_getD]
  unfold bytesOf at hv
  rw [List.getElem?_map, List.getElem?_take, if_pos (by omega), List.getElem?_drop] at hv
  cases hd : D[i + j]? with
  | none => rw [hd] at hv; simp at hv
  | some z => rw [hd] at hv; simpa using hv

/-- What a read leaves of the source. -/
theorem zz_left {w w1 : World} {Z X B cap i k l c : Nat} {D : List Int} (h : Zz w Z X cap D i) (hik : i + k ≤ D.length) (hZB : Z < B) (hb : Below B w w1) (a : Option Addr) (hl : l = D.length - (i + k)) (hc : c = cap - (i + k)) (ha : i + k < cap → a = some ⟨X, i + k, none⟩) :
    Zz (w1.setCell ⟨Z, 0, none⟩ (.slice a l c)) Z X cap D (i + k) := by
  subst hl
  subst hc
  obtain ⟨a0, h0, _⟩ := h.vec
  have hX := h.hXZ
  have hZ := h.hZ
  have bZ := hb.block Z hZB
  have bX := hb.block X (by omega)
  refine ⟨⟨a, ?_, ha⟩, fun j => ?_, fun j hj => ?_, h.small, h.fits, h.fits2, hX, ?_⟩
  · exact cs_same ((World.cell?_of_block (a := ⟨Z, 0, none⟩) bZ).trans h0)
  · rw [World.frozen?_setCell, World.frozen?_of_block (a := ⟨Z, j, none⟩) bZ]; exact h.free j
  · rw [cs_other (by intro e; injection e with e; omega), World.cell?_of_block (a := ⟨X, j, none⟩) bX]; exact h.cells j hj
  · have := hb.size; simp; omega
end Go.Proofs.YtppfldobgemddaaDoor
namespace Go.Proofs.YtppfldobgemddaaDoor
open Go.RowKit
set_option linter.unusedVariables false


set_option maxRecDepth 100000 in
set_option maxHeartbeats 1000000 in
theorem zi_more (Z X B k bc i n c : Nat) (XS cur : List Value) (hk : 1 ≤ k) (hkn : k ≤ n) (hnc : n ≤ c) (hkc : k < c) (hc : c ≤ maxLen) (hcur : cur.length = k) (hkb : k ≤ bc) (hXl : XS.length = k) (hXo : ∀ v ∈ XS, v.oneCell' = true) (w : World)
    (q0 : w.cell? ⟨Z, 0, none⟩ = some (.slice (some ⟨X, i, none⟩) n c)) (f0 : w.frozen? ⟨Z, 0, none⟩ = false) (hZ : Z < B)
    (hB : w.heap[B]? = some (.cells cur.toArray 5 (0, 0))) (hXc : ∀ (j : Nat) (v : Value), XS[j]? = some v → w.cell? ((⟨X, i, none⟩ : Addr).add j) = some v) :
    Calls Tryd.prog 110 #[.pointer (some ⟨Z, 0, none⟩), .slice (some ⟨B, 0, none⟩) k bc] w fun e w' => ∃ w1 a, e = .returned (.tuple #[.int .i64 k, .nilIface]) ∧ w' = w1.setCell ⟨Z, 0, none⟩ (.slice a (n - k) (c - k)) ∧ (True → a = some ⟨X, i + k, none⟩) ∧ Below B w w1 ∧ w1.heap[B]? = some (.cells XS.toArray 5 (0, 0)) := by
  have HXc := Lib.hid hXc
  have HXl := Lib.hid hXl
  have HXo := Lib.hid hXo
  have HB := Lib.hid hB
  have HC := Lib.hid hcur
  have F0 := Lib.hid f0
  have Q0 := Lib.hid q0
  have hk2 : (k : Int) ≤ n := by omega
  have hk3 : (n : Int) ≤ c := by omega
  have hk4 : (k : Int) ≤ c := by omega
  have hk5 : ¬ c = k := by omega
  clear hXl hXo hXc hB hcur f0
  go_enter Tryd.func110, Tryd.ntmps110
  go_wp2_with (refine wpList_copy_splice rfl (.tmp 7) (.tmp 11) 23 23 rfl 5 Tryd.underlying23 (by kernel_rfl) (some ⟨B, 0, none⟩) (some ⟨X, i, none⟩) k bc n c rfl rfl B 0 cur 5 HB.out XS (by rw [HXl.out]; simp [Nat.min_def] <;> omega) (fun _ => ⟨rfl, _, rfl, HXc.out⟩) (by rw [HXl.out, HC.out]; omega) HXo.out B w (Below.refl _ _) (Nat.le_refl _) ?_; intro w3 HG hb3; (have g0 : w3.cell? ⟨Z, 0, none⟩ = some (.slice (some ⟨X, i, none⟩) n c) := by rw [hb3.cell (by exact hZ)]; exact Q0.out); (have g1 : w3.frozen? ⟨Z, 0, none⟩ = false := by rw [hb3.frozen (by exact hZ)]; exact F0.out); (have hl3 : XS.length = k := HXl.out); rw [hl3])
  go_returns
  refine ⟨_, _, rfl, rfl, fun _ => rfl, hb3, ?_⟩
  have h := HG.out
  have h3 : splice cur 0 XS = XS := by
    unfold splice
    rw [List.take_zero, List.nil_append, Nat.zero_add, List.drop_eq_nil_of_le (by rw [hl3, HC.out]; exact Nat.le_refl _), List.append_nil]
  rw [h3] at h
  exact h


set_option maxRecDepth 100000 in
set_option maxHeartbeats 1000000 in
theorem zi_last (Z X B k bc i  : Nat) (XS cur : List Value) (hk : 1 ≤ k) (hc : k ≤ maxLen) (hcur : cur.length = k) (hkb : k ≤ bc) (hXl : XS.length = k) (hXo : ∀ v ∈ XS, v.oneCell' = true) (w : World)
    (q0 : w.cell? ⟨Z, 0, none⟩ = some (.slice (some ⟨X, i, none⟩) k k)) (f0 : w.frozen? ⟨Z, 0, none⟩ = false) (hZ : Z < B)
    (hB : w.heap[B]? = some (.cells cur.toArray 5 (0, 0))) (hXc : ∀ (j : Nat) (v : Value), XS[j]? = some v → w.cell? ((⟨X, i, none⟩ : Addr).add j) = some v) :
    Calls Tryd.prog 110 #[.pointer (some ⟨Z, 0, none⟩), .slice (some ⟨B, 0, none⟩) k bc] w fun e w' => ∃ w1 a, e = .returned (.tuple #[.int .i64 k, .nilIface]) ∧ w' = w1.setCell ⟨Z, 0, none⟩ (.slice a 0 0) ∧ True ∧ Below B w w1 ∧ w1.heap[B]? = some (.cells XS.toArray 5 (0, 0)) := by
  have HXc := Lib.hid hXc
  have HXl := Lib.hid hXl
  have HXo := Lib.hid hXo
  have HB := Lib.hid hB
  have HC := Lib.hid hcur
  have F0 := Lib.hid f0
  have Q0 := Lib.hid q0
  skip
  skip
  skip
  skip
  clear hXl hXo hXc hB hcur f0
  go_enter Tryd.func110, Tryd.ntmps110
  go_wp2_with (refine wpList_copy_splice rfl (.tmp 7) (.tmp 11) 23 23 rfl 5 Tryd.underlying23 (by kernel_rfl) (some ⟨B, 0, none⟩) (some ⟨X, i, none⟩) k bc k k rfl rfl B 0 cur 5 HB.out XS (by rw [HXl.out]; simp <;> omega) (fun _ => ⟨rfl, _, rfl, HXc.out⟩) (by rw [HXl.out, HC.out]; omega) HXo.out B w (Below.refl _ _) (Nat.le_refl _) ?_; intro w3 HG hb3; (have g0 : w3.cell? ⟨Z, 0, none⟩ = some (.slice (some ⟨X, i, none⟩) k k) := by rw [hb3.cell (by exact hZ)]; exact Q0.out); (have g1 : w3.frozen? ⟨Z, 0, none⟩ = false := by rw [hb3.frozen (by exact hZ)]; exact F0.out); (have hl3 : XS.length = k := HXl.out); rw [hl3])
  go_returns
  refine ⟨_, _, rfl, rfl, trivial, hb3, ?_⟩
  have h := HG.out
  have h3 : splice cur 0 XS = XS := by
    unfold splice
    rw [List.take_zero, List.nil_append, Nat.zero_add, List.drop_eq_nil_of_le (by rw [hl3, HC.out]; exact Nat.le_refl _), List.append_nil]
  rw [h3] at h
  exact h


theorem ziRead_any (Z X B k bc i cap : Nat) (D : List Int) (cur : List Value) (hk : 1 ≤ k) (hik : i + k ≤ D.length) (hcur : cur.length = k) (hkb : k ≤ bc) (w : World) (h : Zz w Z X cap D i)
    (hB : w.heap[B]? = some (.cells cur.toArray 5 (0, 0))) (hZB : Z < B) :
    Calls Tryd.prog 110 #[.pointer (some ⟨Z, 0, none⟩), .slice (some ⟨B, 0, none⟩) k bc] w fun e w' => e = .returned (.tuple #[.int .i64 k, .nilIface]) ∧ Zz w' Z X cap D (i + k) ∧ Below Z w w' ∧ w'.heap[B]? = some (.cells (bytesOf D i k).toArray 5 (0, 0)) := by
  obtain ⟨a, ha, hai⟩ := h.vec
  obtain rfl := hai (by have := h.fits; omega)
  have hXc := bytes_there w X i k D h.cells hik
  have hXl : (bytesOf D i k).length = k := by unfold bytesOf; simp; omega
  have hXo : ∀ v ∈ bytesOf D i k, v.oneCell' = true := by intro v hv; obtain ⟨z, _, rfl⟩ := List.mem_map.1 hv; rfl
  have hf := h.fits
  have hf2 := h.fits2
  by_cases hck : cap - i = k
  · have hn : D.length - i = k := by omega
    rw [hck, hn] at ha
    refine (zi_last Z X B k bc i (bytesOf D i k) cur hk (by omega) hcur hkb hXl hXo w ha (h.free 0) hZB hB hXc).mono ?_
    rintro e w' ⟨w1, a, rfl, rfl, _, hb, hrow⟩
    refine ⟨rfl, zz_left h hik hZB hb _ (by omega) (by omega) (by omega), (hb.mono (by omega)).setCell (by exact Nat.le_refl Z) _, ?_⟩
    rw [heap_setCell_other _ _ _ _ (by show B ≠ Z; omega)]; exact hrow
  · refine (zi_more Z X B k bc i (D.length - i) (cap - i) (bytesOf D i k) cur hk (by omega) (by omega) (by omega) (by omega) hcur hkb hXl hXo w ha (h.free 0) hZB hB hXc).mono ?_
    rintro e w' ⟨w1, a, rfl, rfl, ha', hb, hrow⟩
    obtain rfl := ha' trivial
    refine ⟨rfl, zz_left h hik hZB hb _ (by omega) (by omega) (fun _ => rfl), (hb.mono (by omega)).setCell (by exact Nat.le_refl Z) _, ?_⟩
    rw [heap_setCell_other _ _ _ _ (by show B ≠ Z; omega)]; exact hrow
end Go.Proofs.YtppfldobgemddaaDoor
