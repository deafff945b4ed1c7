/-
  The walks of maindata.ZZSlen, impl.Slen and laws.FnSlen.
-/
import Derived.Test.YtppfldobgemddaaSl
namespace Go.Proofs.Ytppfldobgemddaa
open Go.RowKit
set_option linter.unusedVariables false

theorem oneCells (cs : Array Value) (hs : cs.size = 512) (h : ∀ j, j < 512 → cs[j]? = some (.int .i64 (slen j))) : cs.all (·.oneCell') = true := by
  rw [Array.all_eq_true]
  intro i hi
  have := h i (by omega)
  rw [Array.getElem?_eq_getElem hi] at this
  injection this with this
  rw [this]; rfl

set_option maxRecDepth 100000 in
set_option maxHeartbeats 400000 in
theorem zzslen_any (n : Nat) (hn : n < 512) (w : World) :
    Calls Try.prog 25 #[.int .i64 n] w fun e w' => e = .returned (.int .i64 (slen n)) ∧ Below w.heap.size w w' := by
  have hz := (zero_of_info zero68).1
  go_enter Try.func25, Try.ntmps25
  go_wp2_with fail
  refine (initSlen_any _).mono ?_
  rintro e w1 ⟨⟨cs, rfl, hs, hcs⟩, hb⟩
  have hcn := hcs n hn
  have hst := run_storeCells_new (P := Try.prog) w1 68 Z512 cs (by rw [hs]; kernel_rfl) (by rw [hs]; simp [Z512]) (oneCells cs hs hcs)
  have hcl : (w1.alloc (.cells cs 68)).cell? ⟨w1.heap.size, n, none⟩ = some (.int .i64 (slen n)) := by
    rw [cell_of_row _ w1.heap.size n cs 68 (0, 0) (heap_alloc_last _ _)]; exact hcn
  clear hcs hcn
  go_wp2_with fail
  go_returns
  exact ⟨rfl, stpA hb _⟩

set_option maxHeartbeats 400000 in
theorem islen_any (n : Nat) (hn : n < 512) (w : World) :
    Calls Try.prog 13 #[.int .i64 n] w fun e w' => e = .returned (.int .i64 (slen n)) ∧ Below w.heap.size w w' := by
  go_enter Try.func13, Try.ntmps13
  go_wp2_with fail
  refine (zzslen_any n hn _).mono ?_
  rintro e w1 ⟨rfl, hb⟩
  go_wp2_with fail
  go_returns
  exact ⟨rfl, hb⟩

theorem islen1 (w : World) : Calls Try.prog 13 #[.int .i64 1] w fun e w' => e = .returned (.int .i64 512) ∧ Below w.heap.size w w' :=
  islen_any 1 (by decide) w

set_option maxRecDepth 100000 in
set_option maxHeartbeats 400000 in
theorem fnSlen_lo (m : Int) (k : Nat) (h0 : 0 ≤ m) (h1 : m ≤ 65535) (hk : m % 512 = (k : Int)) (hlt : k < 400) (w : World) :
    Calls Try.prog 4 #[.int .u16 m] w fun e w' => e = .returned (.bool true) ∧ Below w.heap.size w w' := by
  have b0 : bits .or .i64 ((k : Int) / 80) ((k : Int) / 16 % 5 * 8) = (k : Int) / 80 + (k : Int) / 16 % 5 * 8 := i64_joinL 3 _ _ (by omega) (by omega) (by omega) (by omega) (by omega) (by omega)
  have b1 : bits .or .i64 ((k : Int) / 80 + (k : Int) / 16 % 5 * 8) ((k : Int) / 4 % 4 * 64) = (k : Int) / 80 + (k : Int) / 16 % 5 * 8 + (k : Int) / 4 % 4 * 64 := i64_joinL 6 _ _ (by omega) (by omega) (by omega) (by omega) (by omega) (by omega)
  have b2 : bits .or .i64 ((k : Int) / 80 + (k : Int) / 16 % 5 * 8 + (k : Int) / 4 % 4 * 64) ((k : Int) % 4 * 512) = (k : Int) / 80 + (k : Int) / 16 % 5 * 8 + (k : Int) / 4 % 4 * 64 + (k : Int) % 4 * 512 := i64_joinL 9 _ _ (by omega) (by omega) (by omega) (by omega) (by omega) (by omega)
  have hs : slen k = (k : Int) / 80 + (k : Int) / 16 % 5 * 8 + (k : Int) / 4 % 4 * 64 + (k : Int) % 4 * 512 := by unfold slen; rw [if_pos hlt]; omega
  go_enter Try.func4, Try.ntmps4
  go_wp2_with fail
  refine (islen_any k (by omega) _).mono ?_
  rintro e w1 ⟨rfl, hb1⟩
  go_wp2_with fail
  refine (islen1 _).mono ?_
  rintro e w2 ⟨rfl, hb2⟩
  go_wp2_with fail
  go_returns
  exact ⟨rfl, stp hb1 hb2⟩

set_option maxRecDepth 100000 in
set_option maxHeartbeats 400000 in
theorem fnSlen_mid (m : Int) (k : Nat) (h0 : 0 ≤ m) (h1 : m ≤ 65535) (hk : m % 512 = (k : Int)) (hge : 400 ≤ k) (hlt : k < 500) (w : World) :
    Calls Try.prog 4 #[.int .u16 m] w fun e w' => e = .returned (.bool true) ∧ Below w.heap.size w w' := by
  have b0 : bits .or .i64 (((k : Int) - 400) / 20) (((k : Int) - 400) / 4 % 5 * 8) = ((k : Int) - 400) / 20 + ((k : Int) - 400) / 4 % 5 * 8 := i64_joinL 3 _ _ (by omega) (by omega) (by omega) (by omega) (by omega) (by omega)
  have b1 : bits .or .i64 (((k : Int) - 400) / 20 + ((k : Int) - 400) / 4 % 5 * 8) (((k : Int) - 400) % 4 * 64) = ((k : Int) - 400) / 20 + ((k : Int) - 400) / 4 % 5 * 8 + ((k : Int) - 400) % 4 * 64 := i64_joinL 6 _ _ (by omega) (by omega) (by omega) (by omega) (by omega) (by omega)
  have b2 : bits .or .i64 (((k : Int) - 400) / 20 + ((k : Int) - 400) / 4 % 5 * 8 + ((k : Int) - 400) % 4 * 64) (4096) = ((k : Int) - 400) / 20 + ((k : Int) - 400) / 4 % 5 * 8 + ((k : Int) - 400) % 4 * 64 + 4096 := i64_joinL 12 _ _ (by omega) (by omega) (by omega) (by omega) (by omega) (by omega)
  have hs : slen k = ((k : Int) - 400) / 20 + ((k : Int) - 400) / 4 % 5 * 8 + ((k : Int) - 400) % 4 * 64 + 4096 := by unfold slen; rw [if_neg (by omega), if_pos hlt]; omega
  go_enter Try.func4, Try.ntmps4
  go_wp2_with fail
  refine (islen_any k (by omega) _).mono ?_
  rintro e w1 ⟨rfl, hb1⟩
  go_wp2_with fail
  refine (islen1 _).mono ?_
  rintro e w2 ⟨rfl, hb2⟩
  go_wp2_with fail
  go_returns
  exact ⟨rfl, stp hb1 hb2⟩

set_option maxRecDepth 100000 in
set_option maxHeartbeats 400000 in
theorem fnSlen_hi (m : Int) (k : Nat) (h0 : 0 ≤ m) (h1 : m ≤ 65535) (hk : m % 512 = (k : Int)) (hge : 500 ≤ k) (hlt : k < 512) (w : World) :
    Calls Try.prog 4 #[.int .u16 m] w fun e w' => e = .returned (.bool true) ∧ Below w.heap.size w w' := by
  have b0 : bits .or .i64 (((k : Int) - 500) / 3) (((k : Int) - 500) % 3 * 8) = ((k : Int) - 500) / 3 + ((k : Int) - 500) % 3 * 8 := i64_joinL 3 _ _ (by omega) (by omega) (by omega) (by omega) (by omega) (by omega)
  have b1 : bits .or .i64 (((k : Int) - 500) / 3 + ((k : Int) - 500) % 3 * 8) (8192) = ((k : Int) - 500) / 3 + ((k : Int) - 500) % 3 * 8 + 8192 := i64_joinL 13 _ _ (by omega) (by omega) (by omega) (by omega) (by omega) (by omega)
  have b2 : bits .or .i64 (((k : Int) - 500) / 3 + ((k : Int) - 500) % 3 * 8 + 8192) (32768) = ((k : Int) - 500) / 3 + ((k : Int) - 500) % 3 * 8 + 8192 + 32768 := i64_joinL 15 _ _ (by omega) (by omega) (by omega) (by omega) (by omega) (by omega)
  have hs : slen k = ((k : Int) - 500) / 3 + ((k : Int) - 500) % 3 * 8 + 8192 + 32768 := by unfold slen; rw [if_neg (by omega), if_neg (by omega)]; omega
  go_enter Try.func4, Try.ntmps4
  go_wp2_with fail
  refine (islen_any k (by omega) _).mono ?_
  rintro e w1 ⟨rfl, hb1⟩
  go_wp2_with fail
  refine (islen1 _).mono ?_
  rintro e w2 ⟨rfl, hb2⟩
  go_wp2_with fail
  go_returns
  exact ⟨rfl, stp hb1 hb2⟩

theorem fnSlen_walk (m : Int) (w0 : (Lit.int .u16 m).wf = true) (w : World) :
    Calls Try.prog 4 #[.int .u16 m] w fun e w' => e = .returned (.bool true) ∧ Below w.heap.size w w' := by
  obtain ⟨h0, h1⟩ := bounds_u16 w0
  obtain ⟨k, hk⟩ := Int.eq_ofNat_of_zero_le (show 0 ≤ m % 512 by omega)
  by_cases h4 : k < 400
  · exact fnSlen_lo m k h0 h1 hk h4 w
  · by_cases h5 : k < 500
    · exact fnSlen_mid m k h0 h1 hk (by omega) h5 w
    · exact fnSlen_hi m k h0 h1 hk (by omega) (by omega) w
end Go.Proofs.Ytppfldobgemddaa
