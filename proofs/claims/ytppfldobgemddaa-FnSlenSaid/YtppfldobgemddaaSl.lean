/-
  The walk of maindata.initSlen: the table of lengths.
-/
import Derived.Test.YtppfldobgemddaaRows
import Derived.Test.YtppfldobgemddaaAid
import Derived.Test.YtppfldobgemddaaBits
import Derived.Handy
import Derived.Deep.WholeRow
namespace Go.Proofs.Ytppfldobgemddaa
open Go.RowKit
set_option linter.unusedVariables false

/-- What the table holds at a place. -/
def slen (m : Nat) : Int :=
  if m < 400 then ((m / 80 + m / 16 % 5 * 8 + m / 4 % 4 * 64 + m % 4 * 512 : Nat) : Int)
  else if m < 500 then (((m - 400) / 20 + (m - 400) / 4 % 5 * 8 + (m - 400) % 4 * 64 + 4096 : Nat) : Int)
  else (((m - 500) / 3 + (m - 500) % 3 * 8 + 8192 + 32768 : Nat) : Int)

theorem slen_lo (i j k l : Nat) (hi : i < 5) (hj : j < 5) (hk : k < 4) (hl : l < 4) : slen (l + k * 4 + j * 16 + i * 80) = (i : Int) + j * 8 + k * 64 + l * 512 := by
  unfold slen
  rw [if_pos (by omega)]
  have e1 : (l + k * 4 + j * 16 + i * 80) / 80 = i := by omega
  have e2 : (l + k * 4 + j * 16 + i * 80) / 16 % 5 = j := by omega
  have e3 : (l + k * 4 + j * 16 + i * 80) / 4 % 4 = k := by omega
  have e4 : (l + k * 4 + j * 16 + i * 80) % 4 = l := by omega
  rw [e1, e2, e3, e4]; omega
theorem slen_mid (i j k : Nat) (hi : i < 5) (hj : j < 5) (hk : k < 4) : slen (k + j * 4 + i * 20 + 400) = (i : Int) + j * 8 + k * 64 + 4096 := by
  unfold slen
  rw [if_neg (by omega), if_pos (by omega)]
  have e0 : k + j * 4 + i * 20 + 400 - 400 = k + j * 4 + i * 20 := by omega
  have e1 : (k + j * 4 + i * 20) / 20 = i := by omega
  have e2 : (k + j * 4 + i * 20) / 4 % 5 = j := by omega
  have e3 : (k + j * 4 + i * 20) % 4 = k := by omega
  rw [e0, e1, e2, e3]; omega
theorem slen_hi (i j : Nat) (hi : i < 4) (hj : j < 3) : slen (j + i * 3 + 500) = (i : Int) + j * 8 + 8192 + 32768 := by
  unfold slen
  rw [if_neg (by omega), if_neg (by omega)]
  have e0 : j + i * 3 + 500 - 500 = j + i * 3 := by omega
  have e1 : (j + i * 3) / 3 = i := by omega
  have e2 : (j + i * 3) % 3 = j := by omega
  rw [e0, e1, e2]; omega

/-- The block B holds 512 numbers, which are the table's at the places that P names. -/
def TabW (B : Nat) (P : Nat → Prop) (w : World) : Prop :=
  ∃ cs : Array Value, w.heap[B]? = some (.cells cs 68 (0, 0)) ∧ cs.size = 512 ∧ ∀ j, j < 512 → ∃ v, cs[j]? = some (.int .i64 v) ∧ (P j → v = slen j)

theorem TabW.cell {B : Nat} {P : Nat → Prop} {w : World} (h : TabW B P w) (j : Nat) (hj : j < 512) : ∃ v, w.cell? ⟨B, j, none⟩ = some (.int .i64 v) ∧ (P j → v = slen j) := by
  obtain ⟨cs, hb, _, hc⟩ := h
  obtain ⟨v, hv, hp⟩ := hc j hj
  exact ⟨v, by rw [cell_of_row w B j cs _ _ hb]; exact hv, hp⟩
theorem TabW.free {B : Nat} {P : Nat → Prop} {w : World} (h : TabW B P w) (j : Nat) : w.frozen? ⟨B, j, none⟩ = false := by
  obtain ⟨cs, hb, _, hc⟩ := h
  exact frozen_of_row w B j cs _ hb
theorem TabW.step {B : Nat} {P Q : Nat → Prop} {w : World} (h : TabW B P w) (off : Nat) (v : Int) (ho : off < 512) (hv : v = slen off) (hQ : ∀ m, Q m → P m ∨ m = off) :
    TabW B Q (w.setCell ⟨B, off, none⟩ (.int .i64 v)) := by
  obtain ⟨cs, hb, hs, hc⟩ := h
  refine ⟨_, heap_setCell_same w B off cs _ _ hb, by simpa using hs, fun j hj => ?_⟩
  by_cases e : off = j
  · subst e
    exact ⟨v, by simp [hs, ho], fun _ => hv⟩
  · obtain ⟨u, hu, hp⟩ := hc j hj
    refine ⟨u, by rw [Array.getElem?_setIfInBounds_ne e]; exact hu, fun q => ?_⟩
    rcases hQ j q with h1 | h1
    · exact hp h1
    · exact absurd h1.symm e

theorem TabW.mono {B : Nat} {P Q : Nat → Prop} {w : World} (h : TabW B P w) (hQ : ∀ m, Q m → P m) : TabW B Q w := by
  obtain ⟨cs, hb, hs, hc⟩ := h
  refine ⟨cs, hb, hs, fun j hj => ?_⟩
  obtain ⟨v, hv, hp⟩ := hc j hj
  exact ⟨v, hv, fun q => hp (hQ j q)⟩

/-- 512 noughts. -/
def Z512 : Array Value := Array.replicate 512 (.int .i64 0)
theorem zero68 : (Try.prog.info? 68).map (fun i => (i.zero, i.size)) = some (some (.agg Z512), 512) := by kernel_rfl

theorem tabW_new (w : World) (P : Nat → Prop) (hP : ∀ m, ¬ P m) : TabW w.heap.size P (w.alloc (.cells Z512 68)) :=
  ⟨Z512, heap_alloc_last _ _, by simp [Z512], fun j hj => ⟨0, by simp [Z512, hj], fun h => absurd h (hP j)⟩⟩

/-- The end: the whole table. -/
def FullTab (e : Ending) : Prop := ∃ cs : Array Value, e = .returned (.agg cs) ∧ cs.size = 512 ∧ ∀ j, j < 512 → cs[j]? = some (.int .i64 (slen j))

set_option maxRecDepth 100000 in
set_option maxHeartbeats 1000000 in
theorem initSlen_any (w : World) :
    Calls Try.prog 55 #[] w fun e w' => FullTab e ∧ Below w.heap.size w w' := by
  have hz := (zero_of_info zero68).1
  go_enter Try.func55, Try.ntmps55
  go_wp2_with fail
  have HN := tabW_new w (fun m => 500 ≤ m ∧ m < 500) (by omega)
  have HB : Below w.heap.size w (w.alloc (.cells Z512 68)) := stpA (stp0 w) _
  clear hz
  go_loopw [1] (fun a wr => ∃ i : Nat, i ≤ 4 ∧ a = .int .i64 i ∧ TabW w.heap.size (fun m => 500 ≤ m ∧ m < 500 + 3 * i) wr ∧ Below w.heap.size w wr)
    (fun a _ => 4 - (intOf a).toNat)
  case atStart => exact ⟨0, by omega, rfl, HN, HB⟩
  case round =>
    clear HN HB
    obtain ⟨i, hi, rfl, ht, hb⟩ := hrel
    by_cases hlt : i < 4
    · go_wp2_with fail
      go_loopw [2] (fun a wr => ∃ j : Nat, j ≤ 3 ∧ a = .int .i64 j ∧ TabW w.heap.size (fun m => 500 ≤ m ∧ m < 500 + 3 * i + j) wr ∧ Below w.heap.size w wr)
        (fun a _ => 3 - (intOf a).toNat)
      case atStart => exact ⟨0, by omega, rfl, ht, hb⟩
      case round =>
        clear ht hb
        obtain ⟨j, hj, rfl, ht, hb⟩ := hrel
        by_cases hl2 : j < 3
        · obtain ⟨v, hc, _⟩ := ht.cell (j + i * 3 + 500) (by omega)
          have hf := ht.free (j + i * 3 + 500)
          have b1 : bits .or .i64 (i : Int) ((j : Int) * 8) = i + j * 8 := i64_joinL 3 _ _ (by omega) (by omega) (by omega) (by omega) (by omega) (by omega)
          have b2 : bits .or .i64 ((i : Int) + j * 8) 8192 = i + j * 8 + 8192 := i64_joinL 13 _ _ (by omega) (by omega) (by omega) (by omega) (by decide) (by omega)
          have b3 : bits .or .i64 ((i : Int) + j * 8 + 8192) 32768 = i + j * 8 + 8192 + 32768 := i64_joinL 15 _ _ (by omega) (by omega) (by omega) (by omega) (by decide) (by omega)
          go_wp2_with fail
          exact ⟨⟨j + 1, by omega, by go_num, ht.step _ _ (by omega) (slen_hi i j hlt hl2).symm (by intro m; omega), stpS hb _ _ (Nat.le_refl _)⟩, by simp [intOf]; omega⟩
        · obtain rfl : j = 3 := by omega
          go_wp2_with fail
          exact ⟨⟨i + 1, by omega, by go_num, ht.mono (by intro m; omega), hb⟩, by simp [intOf]; omega⟩
    · obtain rfl : i = 4 := by omega
      go_wp2_with fail
      have HN : TabW w.heap.size (fun m => 500 ≤ m ∧ m < 512 ∨ m < 80 * 0) wr := ht.mono (by intro m; omega)
      clear ht
      go_loopw [4] (fun a wr => ∃ i : Nat, i ≤ 5 ∧ a = .int .i64 i ∧ TabW w.heap.size (fun m => 500 ≤ m ∧ m < 512 ∨ m < 80 * i) wr ∧ Below w.heap.size w wr)
        (fun a _ => 5 - (intOf a).toNat)
      case atStart => exact ⟨0, by omega, rfl, HN, hb⟩
      case round =>
        clear HN hb
        obtain ⟨i, hi, rfl, ht, hb⟩ := hrel
        by_cases hlt : i < 5
        · go_wp2_with fail
          go_loopw [5] (fun a wr => ∃ j : Nat, j ≤ 5 ∧ a = .int .i64 j ∧ TabW w.heap.size (fun m => 500 ≤ m ∧ m < 512 ∨ m < 80 * i + 16 * j) wr ∧ Below w.heap.size w wr)
            (fun a _ => 5 - (intOf a).toNat)
          case atStart => exact ⟨0, by omega, rfl, ht, hb⟩
          case round =>
            clear ht hb
            obtain ⟨j, hj, rfl, ht, hb⟩ := hrel
            by_cases hlj : j < 5
            · go_wp2_with fail
              go_loopw [6] (fun a wr => ∃ k : Nat, k ≤ 4 ∧ a = .int .i64 k ∧ TabW w.heap.size (fun m => 500 ≤ m ∧ m < 512 ∨ m < 80 * i + 16 * j + 4 * k) wr ∧ Below w.heap.size w wr)
                (fun a _ => 4 - (intOf a).toNat)
              case atStart => exact ⟨0, by omega, rfl, ht, hb⟩
              case round =>
                clear ht hb
                obtain ⟨k, hk, rfl, ht, hb⟩ := hrel
                by_cases hlk : k < 4
                · go_wp2_with fail
                  go_loopw [7] (fun a wr => ∃ l : Nat, l ≤ 4 ∧ a = .int .i64 l ∧ TabW w.heap.size (fun m => 500 ≤ m ∧ m < 512 ∨ m < 80 * i + 16 * j + 4 * k + l) wr ∧ Below w.heap.size w wr)
                    (fun a _ => 4 - (intOf a).toNat)
                  case atStart => exact ⟨0, by omega, rfl, ht, hb⟩
                  case round =>
                    clear ht hb
                    obtain ⟨l, hl, rfl, ht, hb⟩ := hrel
                    by_cases hll : l < 4
                    · obtain ⟨v, hc, _⟩ := ht.cell (l + k * 4 + j * 16 + i * 80) (by omega)
                      have hf := ht.free (l + k * 4 + j * 16 + i * 80)
                      have b1 : bits .or .i64 (i : Int) ((j : Int) * 8) = i + j * 8 := i64_joinL 3 _ _ (by omega) (by omega) (by omega) (by omega) (by omega) (by omega)
                      have b2 : bits .or .i64 ((i : Int) + j * 8) ((k : Int) * 64) = i + j * 8 + k * 64 := i64_joinL 6 _ _ (by omega) (by omega) (by omega) (by omega) (by omega) (by omega)
                      have b3 : bits .or .i64 ((i : Int) + j * 8 + k * 64) ((l : Int) * 512) = i + j * 8 + k * 64 + l * 512 := i64_joinL 9 _ _ (by omega) (by omega) (by omega) (by omega) (by omega) (by omega)
                      have b4 : bits .or .i64 ((i : Int) + j * 8 + k * 64 + l * 512) 0 = i + j * 8 + k * 64 + l * 512 := by rw [i64_joinL 15 _ _ (by omega) (by omega) (by omega) (by omega) (by decide) (by omega)]; omega
                      go_wp2_with fail
                      exact ⟨⟨l + 1, by omega, by go_num, ht.step _ _ (by omega) (slen_lo i j k l hlt hlj hlk hll).symm (by intro m; omega), stpS hb _ _ (Nat.le_refl _)⟩, by simp [intOf]; omega⟩
                    · obtain rfl : l = 4 := by omega
                      go_wp2_with fail
                      exact ⟨⟨k + 1, by omega, by go_num, ht.mono (by intro m; omega), hb⟩, by simp [intOf]; omega⟩
                · obtain rfl : k = 4 := by omega
                  go_wp2_with fail
                  exact ⟨⟨j + 1, by omega, by go_num, ht.mono (by intro m; omega), hb⟩, by simp [intOf]; omega⟩
            · obtain rfl : j = 5 := by omega
              go_wp2_with fail
              exact ⟨⟨i + 1, by omega, by go_num, ht.mono (by intro m; omega), hb⟩, by simp [intOf]; omega⟩
        · obtain rfl : i = 5 := by omega
          go_wp2_with fail
          have HN : TabW w.heap.size (fun m => 500 ≤ m ∧ m < 512 ∨ m < 400 + 20 * 0) wr := ht.mono (by intro m; omega)
          clear ht
          go_loopw [9] (fun a wr => ∃ i : Nat, i ≤ 5 ∧ a = .int .i64 i ∧ TabW w.heap.size (fun m => 500 ≤ m ∧ m < 512 ∨ m < 400 + 20 * i) wr ∧ Below w.heap.size w wr)
            (fun a _ => 5 - (intOf a).toNat)
          case atStart => exact ⟨0, by omega, rfl, HN, hb⟩
          case round =>
            clear HN hb
            obtain ⟨i, hi, rfl, ht, hb⟩ := hrel
            by_cases hlt : i < 5
            · go_wp2_with fail
              go_loopw [10] (fun a wr => ∃ j : Nat, j ≤ 5 ∧ a = .int .i64 j ∧ TabW w.heap.size (fun m => 500 ≤ m ∧ m < 512 ∨ m < 400 + 20 * i + 4 * j) wr ∧ Below w.heap.size w wr)
                (fun a _ => 5 - (intOf a).toNat)
              case atStart => exact ⟨0, by omega, rfl, ht, hb⟩
              case round =>
                clear ht hb
                obtain ⟨j, hj, rfl, ht, hb⟩ := hrel
                by_cases hlj : j < 5
                · go_wp2_with fail
                  go_loopw [11] (fun a wr => ∃ k : Nat, k ≤ 4 ∧ a = .int .i64 k ∧ TabW w.heap.size (fun m => 500 ≤ m ∧ m < 512 ∨ m < 400 + 20 * i + 4 * j + k) wr ∧ Below w.heap.size w wr)
                    (fun a _ => 4 - (intOf a).toNat)
                  case atStart => exact ⟨0, by omega, rfl, ht, hb⟩
                  case round =>
                    clear ht hb
                    obtain ⟨k, hk, rfl, ht, hb⟩ := hrel
                    by_cases hlk : k < 4
                    · obtain ⟨v, hc, _⟩ := ht.cell (k + j * 4 + i * 20 + 400) (by omega)
                      have hf := ht.free (k + j * 4 + i * 20 + 400)
                      have b1 : bits .or .i64 (i : Int) ((j : Int) * 8) = i + j * 8 := i64_joinL 3 _ _ (by omega) (by omega) (by omega) (by omega) (by omega) (by omega)
                      have b2 : bits .or .i64 ((i : Int) + j * 8) ((k : Int) * 64) = i + j * 8 + k * 64 := i64_joinL 6 _ _ (by omega) (by omega) (by omega) (by omega) (by omega) (by omega)
                      have b3 : bits .or .i64 ((i : Int) + j * 8 + k * 64) 4096 = i + j * 8 + k * 64 + 4096 := i64_joinL 12 _ _ (by omega) (by omega) (by omega) (by omega) (by decide) (by omega)
                      go_wp2_with fail
                      exact ⟨⟨k + 1, by omega, by go_num, ht.step _ _ (by omega) (slen_mid i j k hlt hlj hlk).symm (by intro m; omega), stpS hb _ _ (Nat.le_refl _)⟩, by simp [intOf]; omega⟩
                    · obtain rfl : k = 4 := by omega
                      go_wp2_with fail
                      exact ⟨⟨j + 1, by omega, by go_num, ht.mono (by intro m; omega), hb⟩, by simp [intOf]; omega⟩
                · obtain rfl : j = 5 := by omega
                  go_wp2_with fail
                  exact ⟨⟨i + 1, by omega, by go_num, ht.mono (by intro m; omega), hb⟩, by simp [intOf]; omega⟩
            · obtain rfl : i = 5 := by omega
              go_wp2_with fail
              obtain ⟨cs, hbk, hs, hcs⟩ := ht
              refine bodyPost_ret (results_cell_row (p := 0) (ty := 68) (by kernel_rfl) _ wr w.heap.size 68 cs (0, 0) (.array 512 3) rfl hbk Try.underlying68 rfl (by rw [hs]; kernel_rfl)) rfl ⟨⟨cs, rfl, hs, fun j hj => ?_⟩, hb⟩
              obtain ⟨v, hv, hp⟩ := hcs j hj
              rw [hv, hp (by omega)]
end Go.Proofs.Ytppfldobgemddaa
