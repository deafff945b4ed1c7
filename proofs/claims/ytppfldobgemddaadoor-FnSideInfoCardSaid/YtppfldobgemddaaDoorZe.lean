/-
  A law of no program: append(s, make([]byte, m)...), s a row of the call's own: with room, without room, m nought or more.
-/
import Derived.Lib.AppendZerosOnto
import Derived.WalkSpells
import Derived.Laws.OwnMore
namespace Go.Proofs.YtppfldobgemddaaDoor
open Go.RowKit
set_option linter.unusedVariables false

theorem zeroCells_u8 (m : Nat) : Builtin.zeroCells (Value.int .u8 0).cells m = (List.replicate m (Value.int .u8 0)).toArray := by
  apply Array.ext
  · simp [Builtin.zeroCells, Value.cells]
  · intro i h1 h2
    simp [Builtin.zeroCells, Value.cells, Nat.mod_one]

theorem run_append_own_zeros {P : Program} (w : World) (base : Nat) (t tn ty e : TypeId) (i : TypeInfo) (kn : IntKind) (ht : P.underlying t = some (.slice e)) (htn : P.underlying tn = some (.int kn)) (hi : P.info? e = some i) (hz : i.zero = some (.int .u8 0))
    (hsize : i.size = 1) (hby : i.bytes = 1) (g n cap : Nat) (xs : List Value) (hown : w.ownsRow base e 1 (.slice (some ⟨g, 0, none⟩) n cap) n xs)
    (m : Nat) (h63 : n + m ≤ 1000000) (hbase : base ≤ w.heap.size) :
    ∃ g' cap' w', (Builtin.append_ #[t, tn] ty #[.slice (some ⟨g, 0, none⟩) n cap, .int .i64 m]).run P w = .ok (.slice (some ⟨g', 0, none⟩) (n + m) cap') w' ∧ w'.ownsRow base e 1 (.slice (some ⟨g', 0, none⟩) (n + m) cap') (n + m) (xs ++ List.replicate m (Value.int .u8 0)) ∧ w.grownBy w' (some g) := by
  have hw0 : IntKind.i64.wrap 0 = 0 := rfl
  have hml : 1000000 ≤ maxLen := by unfold maxLen; omega
  have hw : IntKind.i64.wrap (m : Int) = m := by rw [IntKind.wrap_i64]; omega
  have hneg : ¬ ((m : Int) < 0) := by omega
  have hlen : (xs ++ List.replicate m (Value.int .u8 0)).length = (n + m) * 1 := by rw [List.length_append, hown.1, List.length_replicate]; omega
  have h48i : ¬ (281474976710656 < (m : Int)) := by omega
  rcases hown.2 with ⟨h, _⟩ | ⟨g0, cap0, cur, h, hbg, hg, hnc, hcm, hcs, htake⟩
  · simp at h
  simp only [Value.slice.injEq, Option.some.injEq, Addr.mk.injEq, and_true, true_and] at h
  obtain ⟨rfl, rfl⟩ := h
  by_cases hroom : n + m ≤ cap
  · have hst := run_storeCells_at P g n e (List.replicate m (Value.int .u8 0)) 0 cur w hg (by simp; omega) (by intro u hu; obtain ⟨_, rfl⟩ := List.mem_replicate.1 hu; rfl)
    simp only [Nat.add_zero] at hst
    refine ⟨g, cap, w.setRow g (cur.toList.take n ++ List.replicate m (Value.int .u8 0) ++ cur.toList.drop (n + (List.replicate m (Value.int .u8 0)).length)).toArray, ?_, ⟨hlen, .inr ⟨g, cap, _, rfl, hbg, setRow_heap w g cur _ e _ hg, hroom, hcm, ?_, ?_⟩⟩, ⟨rfl, rfl, rfl, by simp, fun k _ hk => setRow_other w g k _ (fun e => hk (by simp [e]))⟩⟩
    · by_cases hm0 : m = 0
      · subst hm0
        simp [Builtin.append_, run_underlying ht, run_underlying htn, sizeOf, typeInfo, zeroValue, hi, hz, hby, asInt, asIntOf, hw0, hnc, storeCells] at hst ⊢
        exact hst
      · simp [Builtin.append_, run_underlying ht, run_underlying htn, sizeOf, typeInfo, zeroValue, hi, hz, hsize, hby, asInt, asIntOf, hw, hneg, h48i, hroom, hm0, zeroCells_u8, Addr.add_lit] at hst ⊢
        rw [hst]; rfl
    · simp only [List.size_toArray, List.length_append, List.length_take, List.length_drop, Array.length_toList, List.length_replicate]
      omega
    · have ht' : cur.toList.take n = xs := by simpa using htake
      rw [ht', ← hlen]
      exact List.take_left
  · have holds : ∀ j u, xs[j]? = some u → w.drew.cell? ((⟨g, 0, none⟩ : Addr).add j) = some u := hown.cells (g := g) rfl
    have hold := run_firstCells_some (P := P) (w := w.drew) i.size n ⟨g, 0, none⟩ n cap xs (by rw [hsize]; exact hown.1) holds
    have hnx : Builtin.nextslicecap (n + m) cap ≤ 2 * (n + m) := nextslicecap_le (by omega)
    have hr := Lib.run_append_grow_zeros (P := P) w t tn ty e i (.int .u8 0) .i64 kn ht htn hi hz (some ⟨g, 0, none⟩) n cap xs hold m (by omega) (by omega) (by omega) (by omega) (by rw [hby]; omega) (by rw [hby]; omega)
    have hge := grownCap_ge w (n + m) cap e
    have hcm2 : grownCap w (n + m) cap e ≤ maxLen := grownCap_le_maxLen w (n + m) cap e (by omega)
    refine ⟨_, _, _, hr, ⟨hlen, .inr ⟨w.heap.size, _, _, rfl, hbase, heap_alloc_new w.drew _, hge, hcm2, ?_, ?_⟩⟩, ⟨rfl, rfl, rfl, by simp, fun k hk _ => heap_alloc_old w.drew _ hk⟩⟩
    · have hx := hown.1
      simp only [Array.size_append, List.size_toArray, size_zeroCells, Value.cells, hx]
      simp
      omega
    · rw [zeroCells_u8]
      simp only [Array.toList_append, List.append_assoc]
      rw [← List.append_assoc, ← hlen]
      exact List.take_left

/-- The same, for the walk. -/
theorem wpList_append_zeros {P : Program} {w : World} {ops : Array Oper} {rest : List Oper} {o : Oper} {a : Act} {Q : Exit → Act → World → Prop}
    (hgd : o.guard = none) (s x : Operand) (t tn : TypeId) (hop : o.op = .call { callee := .builtin .append, args := #[s, x], argTypes := #[t, tn] })
    (base : Nat) (e : TypeId) (i : TypeInfo) (kn : IntKind) (ht : P.underlying t = some (.slice e)) (htn : P.underlying tn = some (.int kn)) (hi : P.info? e = some i) (hz : i.zero = some (.int .u8 0)) (hsize : i.size = 1) (hby : i.bytes = 1)
    (g n cap : Nat) (xs : List Value) (hs : a.eval s = .slice (some ⟨g, 0, none⟩) n cap) (hown : w.ownsRow base e 1 (.slice (some ⟨g, 0, none⟩) n cap) n xs)
    (m : Nat) (hx : a.eval x = .int .i64 m) (h63 : n + m ≤ 1000000) (hbase : base ≤ w.heap.size)
    (h : ∀ g' cap' w', w'.ownsRow base e 1 (.slice (some ⟨g', 0, none⟩) (n + m) cap') (n + m) (xs ++ List.replicate m (Value.int .u8 0)) → w.grownBy w' (some g) → wpList P ops Q rest (a.put o.dst (.slice (some ⟨g', 0, none⟩) (n + m) cap')) w') :
    wpList P ops Q (o :: rest) a w := by
  obtain ⟨g', cap', w', hr, ho, hg⟩ := run_append_own_zeros (P := P) w base t tn o.type e i kn ht htn hi hz hsize hby g n cap xs hown m h63 hbase
  exact Lib.wpList_append_run w hgd s x t tn hop _ _ hs hx _ _ hr (h g' cap' w' ho hg)

/-- append of what came in, nil or not, to a row of the call's own. -/
theorem append_data {P : Program} {w : World} {ops : Array Oper} {rest : List Oper} {o : Oper} {a : Act} {Q : Exit → Act → World → Prop}
    (hgd : o.guard = none) (s x : Operand) (t : TypeId) (hop : o.op = .call { callee := .builtin .append, args := #[s, x], argTypes := #[t, t] })
    (base : Nat) (e : TypeId) (i : TypeInfo) (z : Value) (bytes : Nat) (h1 : P.underlying t = some (.slice e)) (h2 : P.info? e = some i) (h3 : i.zero = some z) (h4 : i.size = 1) (h5 : i.bytes = bytes) (h6 : z.cells.size = 1)
    (v : Value) (k : Nat) (xs : List Value) (hs : a.eval s = v) (hown : w.ownsRow base e 1 v k xs)
    (ao : Option Addr) (m c : Nat) (news : List Value) (hx : a.eval x = .slice ao m c) (hn : news.length = m * 1) (hd : (ao = none ∧ m = 0 ∧ c = 0) ∨ ∃ ad, ao = some ad ∧ ∀ j u, news[j]? = some u → w.cell? (ad.add j) = some u) (h1c : ∀ u ∈ news, u.oneCell' = true)
    (b1 : k + m ≤ maxLen) (b2 : (k + m) * bytes ≤ 140737488355328) (hbase : base ≤ w.heap.size)
    (h : ∀ v' w', w'.ownsRow base e 1 v' (k + m) (xs ++ news) → w.grownBy w' v.ownBlock → wpList P ops Q rest (a.put o.dst v') w') :
    wpList P ops Q (o :: rest) a w := by
  rcases hd with ⟨rfl, rfl, rfl⟩ | ⟨ad, rfl, hc⟩
  · have hn0 : news = [] := List.eq_nil_of_length_eq_zero (by simpa using hn)
    subst hn0
    have hr := run_append_owned_none (P := P) w base t o.type e i 1 h1 h2 v k xs hown
    exact Lib.wpList_append_run w hgd s x t t hop _ _ hs hx _ _ hr (h v w (by simpa using hown) ⟨rfl, rfl, rfl, Nat.le_refl _, fun _ _ _ => rfl⟩)
  · exact wpList_append_own w hgd s x t hop base e i z 1 bytes h1 h2 h3 h4 h5 h6 (by decide) v k xs hs hown ad m c news hx hn hc h1c b1 b2 hbase fun v' w' ho hg _ => h v' w' ho hg
end Go.Proofs.YtppfldobgemddaaDoor
