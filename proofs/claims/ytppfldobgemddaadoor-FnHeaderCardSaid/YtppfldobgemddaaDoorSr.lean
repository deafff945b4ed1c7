/-
  The contracts of io.ReadAtLeast, io.ReadFull and (*source).ReadFull where all that is asked for is there.
-/
import Derived.Test.YtppfldobgemddaaDoorRd
namespace Go.Proofs.YtppfldobgemddaaDoor
open Go.RowKit
set_option linter.unusedVariables false

/-- What a whole read leaves. -/
def Got (w : World) (Q X B k i cap : Nat) (D : List Int) (e : Ending) (w' : World) : Prop :=
  e = .returned (.tuple #[.int .i64 k, .nilIface]) ∧ Rdr w' Q X cap D (i + k) ∧ KeptBut w w' Q B ∧ w'.heap[B]? = some (.cells (bytesOf D i k).toArray 5 (0, 0))

theorem kept_drewN {w w' : World} {Q B : Nat} (h : KeptBut w w' Q B) (n : Nat) : KeptBut w (w'.drewN n) Q B := ⟨h.os, h.tape, h.output, h.size, h.block⟩
theorem kept_drewN0 {w w' : World} {Q B : Nat} {n : Nat} (h : KeptBut (w.drewN n) w' Q B) : KeptBut w w' Q B := ⟨h.os, h.tape, h.output, h.size, h.block⟩
theorem rdr_drewN {w : World} {Q X cap i : Nat} {D : List Int} (h : Rdr w Q X cap D i) (n : Nat) : Rdr (w.drewN n) Q X cap D i := ⟨h.vec, h.at', h.prev, h.free, h.cells, h.small, h.fits, h.fits2, h.apart⟩

theorem nilAhead_reader (Q : Nat) (w : World) : Sem.run Tryd.prog (nilAhead 308 109 (Value.pointer (some ⟨Q, 0, none⟩)) "Read") w = .ok (some false) w := by kernel_rfl

theorem method_reader (Q : Nat) (w : World) : Sem.run Tryd.prog (method 308 109 (Value.pointer (some ⟨Q, 0, none⟩)) "Read") w = .ok (108, Value.pointer (some ⟨Q, 0, none⟩)) w := by kernel_rfl

/-- The reader's contract at a world that has only drawn. -/
theorem read_at (Q X B k bc i cap : Nat) (D : List Int) (cur : List Value) (hk : 1 ≤ k) (hik : i + k ≤ D.length) (hcur : cur.length = k) (hkb : k ≤ bc) (w w1 : World) (h : Rdr w Q X cap D i)
    (hQ : Q < B) (hX : X < B) (hB : w.heap[B]? = some (.cells cur.toArray 5 (0, 0))) (n : Nat) (hw : w1 = w.drewN n) :
    Calls Tryd.prog 108 #[.pointer (some ⟨Q, 0, none⟩), .slice (some ⟨B, 0, none⟩) k bc] w1 (Got w Q X B k i cap D) := by
  subst hw
  refine (read_any Q X B k bc i cap D cur hk hik hcur hkb (w.drewN n) (rdr_drewN h n) hQ hX hB).mono ?_
  rintro e w' ⟨he, h1, h2, h3⟩
  exact ⟨he, h1, kept_drewN0 h2, h3⟩

set_option maxHeartbeats 1000000 in
theorem atLeast_any (Q X B k bc i cap : Nat) (D : List Int) (cur : List Value) (hk : 1 ≤ k) (hik : i + k ≤ D.length) (hcur : cur.length = k) (hkb : k ≤ bc) (w : World) (h : Rdr w Q X cap D i)
    (hQ : Q < B) (hX : X < B) (hB : w.heap[B]? = some (.cells cur.toArray 5 (0, 0))) :
    Calls Tryd.prog 89 #[.iface 109 (.pointer (some ⟨Q, 0, none⟩)), .slice (some ⟨B, 0, none⟩) k bc, .int .i64 k] w (Got w Q X B k i cap D) := by
  have hsm := h.small
  have HR := Lib.hid h
  have HB := Lib.hid hB
  clear h hB
  have hk1 : (k : Int) ≤ bc := by omega
  go_enter Tryd.func89, Tryd.ntmps89
  go_wp2_with fail
  refine wp_loop_rounds 2 ?_
  rw [rounds_succ]
  go_wp2_with fail
  have hna := fun wx => nilAhead_reader Q wx
  have hme := fun wx => method_reader Q wx
  go_region_with (refine (read_at Q X B k bc i cap D cur hk hik hcur hkb w _ HR.out hQ hX HB.out _ (by first | rfl | (show _ = w.drewN 1; rfl) | (show _ = w.drewN 2; rfl) | (show _ = w.drewN 3; rfl) | (show _ = w.drewN 4; rfl) | (show _ = w.drewN 5; rfl) | (show _ = w.drewN 6; rfl))).mono ?_; rintro e w1 ⟨rfl, g1, g2, g3⟩)
  all_goals
    have t1 : IntKind.i64.wrap ((0 : Int) + k) = k := by rw [Int.zero_add]; exact IntWalk.i64_in _ (by omega)
    go_wp2_with fail
    rw [rounds_succ]
    go_wp2_with fail
    go_returns
    exact ⟨rfl, g1, g2, g3⟩

set_option maxHeartbeats 1000000 in
/-- Nothing is asked for. -/
theorem atLeast_none (r : Value) (b : Option Addr) (bc : Nat) (w : World) :
    Calls Tryd.prog 89 #[r, .slice b 0 bc, .int .i64 0] w fun e w' => e = .returned (.tuple #[.int .i64 0, .nilIface]) ∧ w' = w := by
  go_enter Tryd.func89, Tryd.ntmps89
  go_wp2_with fail
  refine wp_loop_rounds 1 ?_
  rw [rounds_succ]
  go_wp2_with fail
  go_returns
  exact ⟨rfl, rfl⟩

set_option maxHeartbeats 1000000 in
theorem ioFull_any (Q X B k bc i cap : Nat) (D : List Int) (cur : List Value) (hk : 1 ≤ k) (hik : i + k ≤ D.length) (hcur : cur.length = k) (hkb : k ≤ bc) (w : World) (h : Rdr w Q X cap D i)
    (hQ : Q < B) (hX : X < B) (hB : w.heap[B]? = some (.cells cur.toArray 5 (0, 0))) :
    Calls Tryd.prog 76 #[.iface 109 (.pointer (some ⟨Q, 0, none⟩)), .slice (some ⟨B, 0, none⟩) k bc] w (Got w Q X B k i cap D) := by
  go_enter Tryd.func76, Tryd.ntmps76
  go_wp2_with fail
  refine (atLeast_any Q X B k bc i cap D cur hk hik hcur hkb w h hQ hX hB).mono ?_
  rintro e w1 ⟨rfl, g1, g2, g3⟩
  go_wp2_with fail
  go_returns
  exact ⟨rfl, g1, g2, g3⟩
set_option maxHeartbeats 1000000 in
theorem ioFull_none (r : Value) (b : Option Addr) (bc : Nat) (w : World) :
    Calls Tryd.prog 76 #[r, .slice b 0 bc] w fun e w' => e = .returned (.tuple #[.int .i64 0, .nilIface]) ∧ w' = w := by
  go_enter Tryd.func76, Tryd.ntmps76
  go_wp2_with fail
  refine (atLeast_none r b bc w).mono ?_
  rintro e w1 ⟨rfl, rfl⟩
  go_wp2_with fail
  go_returns
  exact ⟨rfl, rfl⟩
end Go.Proofs.YtppfldobgemddaaDoor
