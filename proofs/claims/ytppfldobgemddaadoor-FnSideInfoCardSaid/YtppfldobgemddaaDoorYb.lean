/-
  What the loops of spec.SideBytes keep.
-/
import Derived.Test.YtppfldobgemddaaDoorYa
import Derived.Test.YtppfldobgemddaaDoorMf
import Derived.Deep.RegionHeld3
namespace Go.Proofs.YtppfldobgemddaaDoor
open Go.RowKit
set_option linter.unusedVariables false

theorem wr_new (w : World) : Wr (w.alloc (.cells #[.slice none 0 0, .int .i64 0] 97)) w.heap.size (w.heap.size + 1) [] 0 :=
  ⟨⟨none, 0, by rw [cell_of_row _ w.heap.size _ _ _ _ (heap_alloc_last _ _)]; rfl, ⟨rfl, .inl ⟨rfl, rfl⟩⟩⟩, by rw [cell_of_row _ w.heap.size _ _ _ _ (heap_alloc_last _ _)]; rfl, fun j => frozen_of_row _ w.heap.size j _ _ (heap_alloc_last _ _),
    ⟨rfl, fun j => by simp, fun h => absurd rfl h⟩, Nat.lt_succ_self _, by simp⟩
theorem sw_new (w : World) : Sw w.heap.size (w.heap.size + 1) (w.alloc (.cells #[.slice none 0 0, .int .i64 0] 97)) 0 [] (w.alloc (.cells #[.slice none 0 0, .int .i64 0] 97)) :=
  ⟨⟨[], wr_new w, fun x hx => by cases hx⟩, Below.refl _ _⟩
theorem Sw.at {W base a a' : Nat} {w0 w : World} {ws : List Wd3} (h : Sw W base w0 a ws w) (e : a = a') : Sw W base w0 a' ws w := e ▸ h
theorem owns_lower {w : World} {base base' n size : Nat} {e : TypeId} {v : Value} {xs : List Value} (h : w.ownsRow base e size v n xs) (hb : base' ≤ base) : w.ownsRow base' e size v n xs :=
  ⟨h.1, h.2.imp id (fun ⟨g, cap, cur, e, hb', r⟩ => ⟨g, cap, cur, e, Nat.le_trans hb hb', r⟩)⟩
/-- The words ahead and those of the bits so far. -/
def InSc (S : Nat → Int) (n p0 : Nat) (ws : List Wd3) (q k : Nat) : Prop := (∀ x ∈ headW S n, x ∈ ws) ∧ ∀ c k', c < n → k' < 4 → (c < q ∨ c = q ∧ k' < k) → (p0 + 4 * c + k', S (2 + c * 4 + k'), 1) ∈ ws
theorem InSc.next {S : Nat → Int} {n p0 q k : Nat} {ws : List Wd3} (h : InSc S n p0 ws q k) : InSc S n p0 (ws ++ [(p0 + 4 * q + k, S (2 + q * 4 + k), 1)]) q (k + 1) := by
  refine ⟨fun x hx => List.mem_append.2 (.inl (h.1 x hx)), fun c k' hc hk hlt => ?_⟩
  by_cases e : c = q ∧ k' = k
  · obtain ⟨rfl, rfl⟩ := e
    exact List.mem_append.2 (.inr (List.mem_singleton.2 rfl))
  · exact List.mem_append.2 (.inl (h.2 c k' hc hk (by omega)))
theorem InSc.row {S : Nat → Int} {n p0 q : Nat} {ws : List Wd3} (h : InSc S n p0 ws q 4) : InSc S n p0 ws (q + 1) 0 :=
  ⟨h.1, fun c k' hc hk hlt => h.2 c k' hc hk (by omega)⟩
/-- And those of the granules of channels so far. -/
def InGc (S : Nat → Int) (n p0 P0 : Nat) (ws : List Wd3) (g c : Nat) : Prop := InSc S n p0 ws n 0 ∧ ∀ g' c', g' < 2 → c' < n → (g' < g ∨ g' = g ∧ c' < c) → ∀ x ∈ chunkW S (P0 + 59 * (g' * n + c')) g' c', x ∈ ws
theorem InGc.next {S : Nat → Int} {n p0 P0 g c b : Nat} {ws : List Wd3} (h : InGc S n p0 P0 ws g c) (hb : b = P0 + 59 * (g * n + c)) : InGc S n p0 P0 (ws ++ chunkW S b g c) g (c + 1) := by
  refine ⟨⟨fun x hx => List.mem_append.2 (.inl (h.1.1 x hx)), fun c k hc hk hlt => List.mem_append.2 (.inl (h.1.2 c k hc hk hlt))⟩, fun g' c' hg' hc' hlt x hx => ?_⟩
  by_cases e : g' = g ∧ c' = c
  · obtain ⟨rfl, rfl⟩ := e
    exact List.mem_append.2 (.inr (hb ▸ hx))
  · exact List.mem_append.2 (.inl (h.2 g' c' hg' hc' (by omega) x hx))
theorem InGc.row {S : Nat → Int} {n p0 P0 g : Nat} {ws : List Wd3} (h : InGc S n p0 P0 ws g n) : InGc S n p0 P0 ws (g + 1) 0 :=
  ⟨h.1, fun g' c' hg' hc' hlt => h.2 g' c' hg' hc' (by omega)⟩
end Go.Proofs.YtppfldobgemddaaDoor
