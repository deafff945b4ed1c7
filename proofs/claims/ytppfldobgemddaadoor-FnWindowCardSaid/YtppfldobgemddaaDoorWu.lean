/-
  The contract of spec.Turned.
-/
import Derived.Test.YtppfldobgemddaaDoorWs
import Derived.Test.YtppfldobgemddaaDoorTb
namespace Go.Proofs.YtppfldobgemddaaDoor
open Go.RowKit
set_option linter.unusedVariables false

/-- The block B holds n words of 64 bits, of which the first m are f's. -/
def TabD (B n T : Nat) (f : Nat → Nat) (m : Nat) (w : World) : Prop :=
  ∃ cs : Array Value, w.heap[B]? = some (.cells cs T (0, 0)) ∧ cs.size = n ∧ ∀ j, j < n → ∃ v, cs[j]? = some (.float .f64 v) ∧ (j < m → v = f j)
theorem TabD.cell {B n T m : Nat} {f : Nat → Nat} {w : World} (h : TabD B n T f m w) (j : Nat) (hj : j < n) : ∃ v, w.cell? ⟨B, j, none⟩ = some (.float .f64 v) ∧ (j < m → v = f j) := by
  obtain ⟨cs, hb, _, hc⟩ := h
  obtain ⟨v, hv, hp⟩ := hc j hj
  exact ⟨v, by rw [cell_of_row w B j cs _ _ hb]; exact hv, hp⟩
theorem TabD.free {B n T m : Nat} {f : Nat → Nat} {w : World} (h : TabD B n T f m w) (j : Nat) : w.frozen? ⟨B, j, none⟩ = false := by
  obtain ⟨cs, hb, _, hc⟩ := h
  exact frozen_of_row w B j cs _ hb
theorem TabD.step {B n T m : Nat} {f : Nat → Nat} {w : World} (h : TabD B n T f m w) (off v : Nat) (ho : off = m) (hn : m < n) (hv : v = f m) :
    TabD B n T f (m + 1) (w.setCell ⟨B, off, none⟩ (.float .f64 v)) := by
  subst ho
  obtain ⟨cs, hb, hs, hc⟩ := h
  refine ⟨_, heap_setCell_same w B off cs _ _ hb, by simpa using hs, fun j hj => ?_⟩
  by_cases e : off = j
  · subst e
    exact ⟨v, by simp [hs, hn], fun _ => hv⟩
  · obtain ⟨u, hu, hp⟩ := hc j hj
    exact ⟨u, by rw [Array.getElem?_setIfInBounds_ne e]; exact hu, fun q => hp (by omega)⟩
theorem TabD.drew {B n T m : Nat} {f : Nat → Nat} {w : World} (h : TabD B n T f m w) : TabD B n T f m w.drew := h
def Zd (n : Nat) : Array Value := Array.replicate n (.float .f64 0)
theorem tabD_new (w : World) (n T : Nat) (f : Nat → Nat) : TabD w.heap.size n T f 0 (w.alloc (.cells (Zd n) T)) :=
  ⟨Zd n, heap_alloc_last _ _, by simp [Zd], fun j hj => ⟨0, by simp [Zd, hj], fun h => by omega⟩⟩
theorem TabD.below {B n T m N : Nat} {f : Nat → Nat} {w w' : World} (h : TabD B n T f m w) (hb : Below N w w') (hB : B < N) : TabD B n T f m w' := by
  obtain ⟨cs, h1, h2⟩ := h
  exact ⟨cs, (hb.block B hB).trans h1, h2⟩
theorem TabD.drewN {B n T m : Nat} {f : Nat → Nat} {w : World} (h : TabD B n T f m w) (k : Nat) : TabD B n T f m (w.drewN k) := h
/-- A sum of products, one behind the other, of words of 32 bits. -/
def dotD (x c : Nat → Nat) : Nat → Option Nat
  | 0 => some 0
  | m + 1 => (dotD x c m).bind fun s => (fmul (x m) (c m)).bind fun t => fadd s t
theorem dotD_down {x c : Nat → Nat} {n r : Nat} (h : dotD x c n = some r) (m : Nat) (hm : m ≤ n) : ∃ s, dotD x c m = some s := by
  induction n generalizing r with
  | zero => exact ⟨r, by rw [show m = 0 by omega]; exact h⟩
  | succ n ih =>
    by_cases e : m = n + 1
    · exact ⟨r, by rw [e]; exact h⟩
    · obtain ⟨s, hs, _⟩ := bind_some h
      exact ih hs (by omega)
/-- The reference's cosines. -/
def k36O (k j : Nat) : Option Nat := (fmul 4586449032370930823 (fint ((2 * k + 19) * (2 * j + 1)))).bind cosO
def k36W (k j : Nat) : Nat := (k36O k j).getD 0
def k12O (k j : Nat) : Option Nat := (fmul 4593884178791887718 (fint ((2 * k + 7) * (2 * j + 1)))).bind cosO
def k12W (k j : Nat) : Nat := (k12O k j).getD 0
theorem k36_some : ∀ k : Fin 36, ∀ j : Fin 18, (k36O k j).isSome = true := by decide +kernel
theorem k36_is (k j : Nat) (hk : k < 36) (hj : j < 18) : k36O k j = some (k36W k j) := by
  have := k36_some ⟨k, hk⟩ ⟨j, hj⟩
  obtain ⟨r, hr⟩ := Option.isSome_iff_exists.1 this
  unfold k36W
  have hr' : k36O k j = some r := hr
  rw [hr']; rfl
theorem k12_some : ∀ k : Fin 12, ∀ j : Fin 6, (k12O k j).isSome = true := by decide +kernel
theorem k12_is (k j : Nat) (hk : k < 12) (hj : j < 6) : k12O k j = some (k12W k j) := by
  have := k12_some ⟨k, hk⟩ ⟨j, hj⟩
  obtain ⟨r, hr⟩ := Option.isSome_iff_exists.1 this
  unfold k12W
  have hr' : k12O k j = some r := hr
  rw [hr']; rfl
/-- The reference's results for long blocks. -/
def outD (x : Nat → Nat) (b k : Nat) : Option Nat := (dotD x (fun j => k36W k j) 18).bind fun s => (shapeO k b).bind fun t => fmul s t
/-- What is added at a step of short blocks. -/
def addD (x : Nat → Nat) (n : Nat) : Option Nat := (dotD (fun m => x (n / 12 + m * 3)) (fun m => k12W (n % 12) m) 6).bind fun s => (sineO (n % 12) 12).bind fun t => fmul s t
/-- The 36 words behind so many steps. -/
def stD (x : Nat → Nat) : Nat → Nat → Option Nat
  | 0, _ => some 0
  | n + 1, q => if q = 6 * (n / 12) + n % 12 + 6 then (stD x n q).bind fun o => (addD x n).bind fun v => fadd o v else stD x n q
theorem stD_down {x : Nat → Nat} {N q r : Nat} (h : stD x N q = some r) (n : Nat) (hn : n ≤ N) : ∃ s, stD x n q = some s := by
  induction N generalizing r with
  | zero => exact ⟨r, by rw [show n = 0 by omega]; exact h⟩
  | succ N ih =>
    by_cases e : n = N + 1
    · exact ⟨r, by rw [e]; exact h⟩
    · rw [stD] at h
      split at h
      · obtain ⟨s, hs, _⟩ := bind_some h
        exact ih hs (by omega)
      · exact ih h (by omega)
/-- The block O holds 36 words, which f tells. -/
def TabP (O : Nat) (f : Nat → Option Nat) (w : World) : Prop :=
  ∃ cs : Array Value, w.heap[O]? = some (.cells cs 70 (0, 0)) ∧ cs.size = 36 ∧ ∀ j, j < 36 → ∃ v, cs[j]? = some (.float .f64 v) ∧ f j = some v
theorem TabP.cell {O : Nat} {f : Nat → Option Nat} {w : World} (h : TabP O f w) (j : Nat) (hj : j < 36) : ∃ v, w.cell? ⟨O, j, none⟩ = some (.float .f64 v) ∧ f j = some v := by
  obtain ⟨cs, hb, _, hc⟩ := h
  obtain ⟨v, hv, hp⟩ := hc j hj
  exact ⟨v, by rw [cell_of_row w O j cs _ _ hb]; exact hv, hp⟩
theorem TabP.free {O : Nat} {f : Nat → Option Nat} {w : World} (h : TabP O f w) (j : Nat) : w.frozen? ⟨O, j, none⟩ = false := by
  obtain ⟨cs, hb, _, hc⟩ := h
  exact frozen_of_row w O j cs _ hb
theorem TabP.step {O : Nat} {f g : Nat → Option Nat} {w : World} (h : TabP O f w) (off v : Nat) (ho : off < 36) (hv : g off = some v) (hg : ∀ j, j ≠ off → g j = f j) :
    TabP O g (w.setCell ⟨O, off, none⟩ (.float .f64 v)) := by
  obtain ⟨cs, hb, hs, hc⟩ := h
  refine ⟨_, heap_setCell_same w O off cs _ _ hb, by simpa using hs, fun j hj => ?_⟩
  by_cases e : off = j
  · subst e
    exact ⟨v, by simp [hs, ho], hv⟩
  · obtain ⟨u, hu, hp⟩ := hc j hj
    exact ⟨u, by rw [Array.getElem?_setIfInBounds_ne e]; exact hu, by rw [hg j (Ne.symm e)]; exact hp⟩
theorem TabP.drewN {O : Nat} {f : Nat → Option Nat} {w : World} (h : TabP O f w) (k : Nat) : TabP O f (w.drewN k) := h
theorem TabP.drew {O : Nat} {f : Nat → Option Nat} {w : World} (h : TabP O f w) : TabP O f w.drew := h
theorem TabP.below {O N : Nat} {f : Nat → Option Nat} {w w' : World} (h : TabP O f w) (hb : Below N w w') (hB : O < N) : TabP O f w' := by
  obtain ⟨cs, h1, h2⟩ := h
  exact ⟨cs, (hb.block O hB).trans h1, h2⟩
theorem tabP_new (w : World) (f : Nat → Option Nat) (hf : ∀ j, f j = some 0) : TabP w.heap.size f (w.alloc (.cells (Zd 36) 70)) :=
  ⟨Zd 36, heap_alloc_last _ _, by simp [Zd], fun j hj => ⟨0, by simp [Zd, hj], hf j⟩⟩
theorem TabP.full {O : Nat} {f : Nat → Option Nat} {w : World} {Y : Nat → Nat} (h : TabP O f w) (hY : ∀ q, q < 36 → f q = some (Y q)) : TabD O 36 70 Y 36 w := by
  obtain ⟨cs, hb, hs, hc⟩ := h
  refine ⟨cs, hb, hs, fun j hj => ?_⟩
  obtain ⟨v, hv, hp⟩ := hc j hj
  rw [hY j hj] at hp
  exact ⟨v, hv, fun _ => (Option.some.inj hp).symm⟩
theorem stD_step {x : Nat → Nat} {i p o v r : Nat} (hp : p < 12) (h1 : stD x (12 * i + p) (6 * i + p + 6) = some o) (h2 : addD x (12 * i + p) = some v) (h3 : fadd o v = some r) : stD x (12 * i + p + 1) (6 * i + p + 6) = some r := by
  rw [stD, if_pos (by rw [show (12 * i + p) / 12 = i by omega, show (12 * i + p) % 12 = p by omega]), h1]
  show (addD x (12 * i + p)).bind _ = _
  rw [h2]; exact h3
theorem stD_other {x : Nat → Nat} {i p : Nat} (hp : p < 12) (j : Nat) (hj : j ≠ 6 * i + p + 6) : stD x (12 * i + p + 1) j = stD x (12 * i + p) j := by
  rw [stD, if_neg (by rw [show (12 * i + p) / 12 = i by omega, show (12 * i + p) % 12 = p by omega]; exact hj)]

theorem mk36d (w : World) : (Instr.makeSlice 69 (.int .i64 36) (.int .i64 36)).run Tryd.prog w = .ok (.slice (some ⟨w.heap.size, 0, none⟩) 36 36) (w.alloc (.cells (Zd 36) 70)) := by kernel_rfl
theorem quietly {f : FuncId} {args : Array Value} {w : World} {v : Value} (h : Calls Tryd.prog f args w fun e w' => e = .returned v ∧ w = w') :
    Calls Tryd.prog f args w fun e w' => e = .returned v ∧ w' = w := h.mono fun _ _ ⟨a, b⟩ => ⟨a, b.symm⟩
/-- The result: 36 words of 64 bits in a block of the call's own. -/
def ToldD (Y : Nat → Nat) (w : World) (e : Ending) (w' : World) : Prop :=
  ∃ g, e = .returned (.slice (some ⟨g, 0, none⟩) 36 36) ∧ w.heap.size ≤ g ∧ TabD g 36 70 Y 36 w' ∧ Below w.heap.size w w'
end Go.Proofs.YtppfldobgemddaaDoor
