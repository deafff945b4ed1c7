/-
  Words that stand in bytes; the writer of words.
-/
import Derived.Test.YtppfldobgemddaaDoorMg
import Derived.Test.YtppfldobgemddaaDoorMe
namespace Go.Proofs.YtppfldobgemddaaDoor
open Go.RowKit
set_option linter.unusedVariables false

/-- So many bits of a number stand at a place. -/
def Has (L : List Int) (p : Nat) (v : Int) (n : Nat) : Prop := ∀ j, j < n → bitAt L (p + j) = v / 2 ^ (n - 1 - j) % 2
theorem has_val {L : List Int} {p n : Nat} {v : Int} (h : Has L p v n) (h0 : 0 ≤ v) (h1 : v < 2 ^ n) : V L p n = v := by
  rw [V_of_bits L p v n n (Nat.le_refl _) h, Nat.sub_self, Int.pow_zero, Int.ediv_one]
  exact Int.emod_eq_of_lt h0 h1
/-- A word: its place, its number, its width. -/
abbrev Wd3 := Nat × Int × Nat
/-- Words that stand in the bytes. -/
def Stand (L : List Int) (a : Nat) (ws : List Wd3) : Prop := ∀ x ∈ ws, x.1 + x.2.2 ≤ a ∧ Has L x.1 x.2.1 x.2.2
theorem stand_more {L : List Int} {a n : Nat} {ws : List Wd3} {v : Int} (hp : Packed L a) (h : Stand L a ws) : Stand (wordTo L a v n n) (a + n) (ws ++ [(a, v, n)]) := by
  obtain ⟨h1, h2, h3⟩ := wordTo_facts hp v n n
  intro x hx
  rcases List.mem_append.1 hx with q | q
  · obtain ⟨b1, b2⟩ := h x q
    exact ⟨by omega, fun j hj => by rw [h2 _ (by omega)]; exact b2 j hj⟩
  · obtain rfl : x = (a, v, n) := by simpa using q
    exact ⟨Nat.le_refl _, h3⟩
/-- From a world on, a writer that has written these words, and nothing else below it. -/
structure Sw (W base : Nat) (w0 : World) (a : Nat) (ws : List Wd3) (w : World) : Prop where
  wr : ∃ L, Wr w W base L a ∧ Stand L a ws
  below : Below W w0 w
theorem Sw.lt {W base a : Nat} {w0 w : World} {ws : List Wd3} (h : Sw W base w0 a ws w) : W < w.heap.size := by
  obtain ⟨L, hr, _⟩ := h.wr
  exact Nat.lt_of_lt_of_le hr.hW hr.hb
theorem Sw.cell {W base a : Nat} {w0 w : World} {ws : List Wd3} (h : Sw W base w0 a ws w) {b : Nat} (hb : b < W) (j : Nat) : w.cell? ⟨b, j, none⟩ = w0.cell? ⟨b, j, none⟩ := h.below.cell (p := ⟨b, j, none⟩) hb
theorem Sw.later {W base a : Nat} {w0 w w1 : World} {ws : List Wd3} (h : Sw W base w0 a ws w) (hb : Below w.heap.size w w1) : Sw W base w0 a ws w1 := by
  obtain ⟨L, hr, hs⟩ := h.wr
  obtain ⟨ao, c, h0, ho⟩ := hr.out
  have hW := h.lt
  exact ⟨⟨L, ⟨⟨ao, c, (hb.cell (p := ⟨W, 0, none⟩) hW).trans h0, ho.kept (grown_of_below hb none) (by cases ao <;> simp [Value.ownBlock])⟩, (hb.cell (p := ⟨W, 1, none⟩) hW).trans hr.bit, fun j => (hb.frozen (p := ⟨W, j, none⟩) hW).trans (hr.free j), hr.packed, hr.hW, Nat.le_trans hr.hb hb.size⟩, hs⟩, h.below.trans (hb.mono (Nat.le_of_lt hW))⟩
theorem word_s {W base a n : Nat} {w0 w : World} {ws : List Wd3} {v : Int} (h : Sw W base w0 a ws w) (h0 : 0 ≤ v) (h1 : v ≤ 1000000) (hn : n ≤ 20) (ha : a ≤ 100000) :
    Calls Tryd.prog 33 #[.pointer (some ⟨W, 0, none⟩), .int .i64 v, .int .i64 n] w fun e w' => e = .returned (.tuple #[]) ∧ Sw W base w0 (a + n) (ws ++ [(a, v, n)]) w' := by
  obtain ⟨L, hr, hs⟩ := h.wr
  refine (word_any' W base a n v L h0 h1 hn ha w hr).mono ?_
  rintro e w' ⟨rfl, h1, h2, h3⟩
  exact ⟨rfl, ⟨⟨_, h1, stand_more hr.packed hs⟩, h.below.trans h2⟩⟩
/-- The words of a granule of a channel. -/
def chunkW (S : Nat → Int) (b g c : Nat) : List Wd3 :=
  [(b, S (10 + g * 2 + c), 12), (b + 12, S (14 + g * 2 + c), 9), (b + 21, S (18 + g * 2 + c), 8), (b + 29, S (22 + g * 2 + c), 4), (b + 33, S (26 + g * 2 + c), 1)] ++
  (if S (26 + g * 2 + c) = 1 then
    [(b + 34, S (30 + g * 2 + c), 2), (b + 36, S (34 + g * 2 + c), 1)] ++ (List.range 2).map (fun j => (b + 37 + 5 * j, S (38 + g * 6 + c * 3 + j), 5)) ++ (List.range 3).map (fun j => (b + 47 + 3 * j, S (50 + g * 6 + c * 3 + j), 3))
  else (List.range 3).map (fun j => (b + 34 + 5 * j, S (38 + g * 6 + c * 3 + j), 5)) ++ [(b + 49, S (62 + g * 2 + c), 4), (b + 53, S (66 + g * 2 + c), 3)]) ++
  [(b + 56, S (70 + g * 2 + c), 1), (b + 57, S (74 + g * 2 + c), 1), (b + 58, S (78 + g * 2 + c), 1)]
/-- How many private bits there are; where the granules' words begin. -/
def privN (n : Nat) : Nat := if n = 1 then 5 else 3
def preN (n : Nat) : Nat := 9 + privN n + 4 * n
/-- The words ahead. -/
def headW (S : Nat → Int) (n : Nat) : List Wd3 := [(0, S 0, 9), (9, S 1, privN n)]
/-- All words of the side information stand there. -/
structure SideSaid (L : List Int) (S : Nat → Int) (n : Nat) : Prop where
  head : ∀ x ∈ headW S n, Has L x.1 x.2.1 x.2.2
  sc : ∀ c k, c < n → k < 4 → Has L (9 + privN n + 4 * c + k) (S (2 + c * 4 + k)) 1
  chunk : ∀ g c, g < 2 → c < n → ∀ x ∈ chunkW S (preN n + 59 * (g * n + c)) g c, Has L x.1 x.2.1 x.2.2
/-- What a number of a granule of a channel may be, for it to be written. -/
structure GcFit (S : Nat → Int) (g c : Nat) : Prop where
  length : 0 ≤ S (10 + g * 2 + c) ∧ S (10 + g * 2 + c) < 4096
  big : 0 ≤ S (14 + g * 2 + c) ∧ S (14 + g * 2 + c) < 512
  gain : 0 ≤ S (18 + g * 2 + c) ∧ S (18 + g * 2 + c) < 256
  comp : 0 ≤ S (22 + g * 2 + c) ∧ S (22 + g * 2 + c) < 16
  sw : 0 ≤ S (26 + g * 2 + c) ∧ S (26 + g * 2 + c) < 2
  block : 0 ≤ S (30 + g * 2 + c) ∧ S (30 + g * 2 + c) < 4
  mixed : 0 ≤ S (34 + g * 2 + c) ∧ S (34 + g * 2 + c) < 2
  tab : ∀ i, i < 3 → 0 ≤ S (38 + g * 6 + c * 3 + i) ∧ S (38 + g * 6 + c * 3 + i) < 32
  sub : ∀ i, i < 3 → 0 ≤ S (50 + g * 6 + c * 3 + i) ∧ S (50 + g * 6 + c * 3 + i) < 8
  reg0 : 0 ≤ S (62 + g * 2 + c) ∧ S (62 + g * 2 + c) < 16
  reg1 : 0 ≤ S (66 + g * 2 + c) ∧ S (66 + g * 2 + c) < 1000
  pre : 0 ≤ S (70 + g * 2 + c) ∧ S (70 + g * 2 + c) < 2
  scale : 0 ≤ S (74 + g * 2 + c) ∧ S (74 + g * 2 + c) < 2
  which : 0 ≤ S (78 + g * 2 + c) ∧ S (78 + g * 2 + c) < 2
end Go.Proofs.YtppfldobgemddaaDoor
