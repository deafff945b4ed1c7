/-
  The contracts of Head.Bits, Head.Size, Head.Channels, Head.SideSize.
-/
import Derived.Test.YtppfldobgemddaaFz
import Derived.Deep.RegionHeld3
namespace Go.Proofs.Ytppfldobgemddaa
open Go.RowKit
set_option linter.unusedVariables false

def kb (k : Int) : Int := [(0 : Int), 32, 40, 48, 56, 64, 80, 96, 112, 128, 160, 192, 224, 256, 320].getD k.toNat 0
theorem kb_at (k : Int) (h0 : 0 ≤ k) (h1 : k ≤ 14) : [Value.int .i64 0, .int .i64 32, .int .i64 40, .int .i64 48, .int .i64 56, .int .i64 64, .int .i64 80, .int .i64 96, .int .i64 112, .int .i64 128, .int .i64 160, .int .i64 192, .int .i64 224, .int .i64 256, .int .i64 320][k.toNat]? = some (.int .i64 (kb k)) ∧ 1000 * kb k = br k ∧ 0 ≤ kb k ∧ kb k ≤ 320 := by
  obtain ⟨n, rfl⟩ := Int.eq_ofNat_of_zero_le h0
  have hn : n < 15 := by omega
  have h : n = 0 ∨ n = 1 ∨ n = 2 ∨ n = 3 ∨ n = 4 ∨ n = 5 ∨ n = 6 ∨ n = 7 ∨ n = 8 ∨ n = 9 ∨ n = 10 ∨ n = 11 ∨ n = 12 ∨ n = 13 ∨ n = 14 := by omega
  rcases h with rfl | rfl | rfl | rfl | rfl | rfl | rfl | rfl | rfl | rfl | rfl | rfl | rfl | rfl | rfl <;> exact ⟨rfl, by decide, by decide, by decide⟩

set_option maxRecDepth 100000 in
set_option maxHeartbeats 1000000 in
theorem hbits_any (B R P M J V K : Int) (h0 : 0 ≤ B) (h1 : B ≤ 14) (w : World) :
    Calls Try.prog 23 #[.agg #[.int .i64 B, .int .i64 R, .int .i64 P, .int .i64 M, .int .i64 J, .int .i64 V, .int .i64 K]] w fun e w' => e = .returned (.int .i64 (br B)) ∧ Below w.heap.size w w' := by
  obtain ⟨a, b, c0, c1⟩ := kb_at B h0 h1
  have H := Lib.hid b
  clear b
  go_enter Try.func23, Try.ntmps23
  go_wp2
  go_ret
  exact ⟨by rw [H.out]; rfl, by go_grown⟩

set_option maxRecDepth 100000 in
set_option maxHeartbeats 1000000 in
theorem channels_any (B R P M J V K : Int) (n : Int) (hn : n = if M = 3 then 1 else 2) (w : World) :
    Calls Try.prog 21 #[.agg #[.int .i64 B, .int .i64 R, .int .i64 P, .int .i64 M, .int .i64 J, .int .i64 V, .int .i64 K]] w fun e w' => e = .returned (.int .i64 n) ∧ Below w.heap.size w w' := by
  subst hn
  by_cases h : M = 3
  · rw [if_pos h]
    go_enter Try.func21, Try.ntmps21
    go_wp2
    go_ret
    exact ⟨rfl, by go_grown⟩
  · rw [if_neg h]
    go_enter Try.func21, Try.ntmps21
    go_wp2
    go_ret
    exact ⟨rfl, by go_grown⟩
set_option maxRecDepth 100000 in
set_option maxHeartbeats 1000000 in
theorem sidesize_any (B R P M J V K : Int) (n : Int) (hn : n = if M = 3 then 17 else 32) (w : World) :
    Calls Try.prog 22 #[.agg #[.int .i64 B, .int .i64 R, .int .i64 P, .int .i64 M, .int .i64 J, .int .i64 V, .int .i64 K]] w fun e w' => e = .returned (.int .i64 n) ∧ Below w.heap.size w w' := by
  subst hn
  by_cases h : M = 3
  · rw [if_pos h]
    go_enter Try.func22, Try.ntmps22
    go_wp2
    go_ret
    exact ⟨rfl, by go_grown⟩
  · rw [if_neg h]
    go_enter Try.func22, Try.ntmps22
    go_wp2
    go_ret
    exact ⟨rfl, by go_grown⟩

theorem head_keep {b : Nat} {w W w1 : World} {B R P M J V K : Int} (h : W.cell? ⟨b, 0, none⟩ = some (.int .i64 B) ∧ W.cell? ⟨b, 1, none⟩ = some (.int .i64 R) ∧ W.cell? ⟨b, 2, none⟩ = some (.int .i64 P) ∧ W.cell? ⟨b, 3, none⟩ = some (.int .i64 M) ∧ W.cell? ⟨b, 4, none⟩ = some (.int .i64 J) ∧ W.cell? ⟨b, 5, none⟩ = some (.int .i64 V) ∧ W.cell? ⟨b, 6, none⟩ = some (.int .i64 K) ∧ b < W.heap.size ∧ Below w.heap.size w W) (hb : Below W.heap.size W w1) :
    w1.cell? ⟨b, 0, none⟩ = some (.int .i64 B) ∧ w1.cell? ⟨b, 1, none⟩ = some (.int .i64 R) ∧ w1.cell? ⟨b, 2, none⟩ = some (.int .i64 P) ∧ w1.cell? ⟨b, 3, none⟩ = some (.int .i64 M) ∧ w1.cell? ⟨b, 4, none⟩ = some (.int .i64 J) ∧ w1.cell? ⟨b, 5, none⟩ = some (.int .i64 V) ∧ w1.cell? ⟨b, 6, none⟩ = some (.int .i64 K) ∧ b < w1.heap.size ∧ Below w.heap.size w w1 := by
  obtain ⟨h0, h1, h2, h3, h4, h5, h6, hz, hB⟩ := h
  refine ⟨?_, ?_, ?_, ?_, ?_, ?_, ?_, ?_, stp hB hb⟩
  all_goals first | (rw [hb.cell (by exact hz)]; assumption) | (have := hb.size; omega)

set_option maxRecDepth 100000 in
set_option maxHeartbeats 2000000 in
theorem hsize_any (B R P M J V K : Int) (hB0 : 0 ≤ B) (hB1 : B ≤ 14) (hR0 : 0 ≤ R) (hR1 : R ≤ 2) (hP0 : 0 ≤ P) (hP1 : P ≤ 1) (w : World) :
    Calls Try.prog 19 #[.agg #[.int .i64 B, .int .i64 R, .int .i64 P, .int .i64 M, .int .i64 J, .int .i64 V, .int .i64 K]] w fun e w' => e = .returned (.int .i64 (144 * br B / hz R + P)) ∧ Below w.heap.size w w' := by
  obtain ⟨b0, b1⟩ := br_bd B
  obtain ⟨z0, z1⟩ := hz_bd R
  obtain ⟨q0, q1⟩ := IntWalk.tdiv_le (144 * br B) (hz R) (by omega) (by omega)
  have s1 : IntKind.i64.wrap (144 * br B / hz R + P) = 144 * br B / hz R + P := IntWalk.i64_in _ (by omega)
  have SR := Lib.hid (show IntKind.i64.wrap (IntKind.i64.wrap ((IntKind.i64.wrap (144 * br B)).tdiv (hz R)) + P) = 144 * br B / hz R + P by rw [IntWalk.i64_in (144 * br B) (by omega), IntWalk.i64_quo _ _ (by omega), s1])
  have hne : ¬ hz R = 0 := by omega
  go_enter Try.func19, Try.ntmps19
  go_wp2_with fail
  go_region_held3 (fun w' => w'.cell? ⟨w.heap.size, 0, none⟩ = some (.int .i64 B) ∧ w'.cell? ⟨w.heap.size, 1, none⟩ = some (.int .i64 R) ∧ w'.cell? ⟨w.heap.size, 2, none⟩ = some (.int .i64 P) ∧ w'.cell? ⟨w.heap.size, 3, none⟩ = some (.int .i64 M) ∧ w'.cell? ⟨w.heap.size, 4, none⟩ = some (.int .i64 J) ∧ w'.cell? ⟨w.heap.size, 5, none⟩ = some (.int .i64 V) ∧ w'.cell? ⟨w.heap.size, 6, none⟩ = some (.int .i64 K) ∧ w.heap.size < w'.heap.size ∧ Below w.heap.size w w') (first | (go_keep; done) | exact ⟨by go_cell, by go_cell, by go_cell, by go_cell, by go_cell, by go_cell, by go_cell, by simp, by go_grown⟩ | (refine head_keep ?_ (by assumption); assumption))
    (first | (go_at_call 23; refine (hbits_any B R P M J V K hB0 hB1 _).mono ?_; rintro e w1 ⟨rfl, hb⟩) | (go_at_call 12; refine (hertz_any B R P M J V K hR0 hR1 _).mono ?_; rintro e w2 ⟨rfl, hb2⟩))
  rename_i hh
  obtain ⟨_, _, _, _, _, _, _, _, hB⟩ := hh
  clear hb hb2 s1
  go_wp2_with fail
  go_ret
  exact ⟨by rw [← SR.out]; rfl, hB⟩
end Go.Proofs.Ytppfldobgemddaa
