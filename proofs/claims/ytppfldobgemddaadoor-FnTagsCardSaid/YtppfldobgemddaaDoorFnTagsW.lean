/-
  The walk of laws.FnTags.
-/
import Derived.Test.YtppfldobgemddaaDoorTg
import Derived.Test.YtppfldobgemddaaDoorIn
import Derived.Test.YtppfldobgemddaaDoorAp
import Derived.Test.YtppfldobgemddaaDoorZe
import Derived.Lib.SlBytesConst
namespace Go.Proofs.YtppfldobgemddaaDoor
open Go.RowKit
set_option linter.unusedVariables false

set_option maxRecDepth 100000 in
set_option maxHeartbeats 1000000 in
theorem fnTags_big (a0 a1 : Int) (a : Option Addr) (len cap : Nat) (h : 100 < len) (w : World) :
    Calls Tryd.prog 3 #[.int .u16 a0, .int .u8 a1, .slice a len cap] w fun e w' => e = .returned (.bool true) ∧ Below w.heap.size w w' := by
  go_each [2147483647 < len, 100 < len] => (go_enter Tryd.func3, Tryd.ntmps3; go_wp2_with fail; go_returns; exact ⟨rfl, stp0 w⟩)

theorem own_ge {w : World} {base n size : Nat} {e : TypeId} {v : Value} {xs : List Value} (h : w.ownsRow base e size v n xs) {j : Nat} (hj : v.ownBlock = some j) : base ≤ j := (h.lt j hj).1
theorem owns_base {w : World} {base base' : Nat} {e : TypeId} {size : Nat} {v : Value} {n : Nat} {xs : List Value} (h : w.ownsRow base e size v n xs) (hb : base' ≤ base) : w.ownsRow base' e size v n xs := by
  refine ⟨h.1, ?_⟩
  rcases h.2 with h | ⟨g, cap, cur, h1, h2, h3⟩
  · exact .inl h
  · exact .inr ⟨g, cap, cur, h1, by omega, h3⟩
theorem new_row (w : World) (xs : List Value) : ∀ j u, xs[j]? = some u → (w.alloc (.cells xs.toArray 5)).cell? ((⟨w.heap.size, 0, none⟩ : Addr).add j) = some u := by
  intro j u hu
  have ha : (⟨w.heap.size, 0, none⟩ : Addr).add j = ⟨w.heap.size, j, none⟩ := by unfold Addr.add; split <;> simp_all
  rw [ha, World.cell?_alloc_new]
  simpa using hu
theorem new_row2 (w : World) (o : Obj) (xs : List Value) : ∀ j u, xs[j]? = some u → ((w.alloc o).alloc (.cells xs.toArray 5)).cell? ((⟨w.heap.size + 1, 0, none⟩ : Addr).add j) = some u := by
  intro j u hu
  have h := new_row (w.alloc o) xs j u hu
  rw [World.size_alloc] at h
  exact h
theorem marked_row (w : World) (xs : List Value) (fr : Nat × Nat) (o : Obj) : ∀ b, some (⟨w.heap.size, 0, none⟩ : Addr) = some b → ∀ j u, xs[j]? = some u → ((w.alloc (.cells xs.toArray 5 fr)).alloc o).cell? (b.add j) = some u := by
  intro b hb j u hu
  injection hb with hb
  subst hb
  have ha : (⟨w.heap.size, 0, none⟩ : Addr).add j = ⟨w.heap.size, j, none⟩ := by unfold Addr.add; split <;> simp_all
  rw [ha, World.cell?_alloc_past _ _ _ (by simp), World.cell?_alloc_mark]
  simpa using hu
theorem owned_some {w : World} {base n : Nat} {v : Value} {xs : List Value} (h : w.ownsRow base 5 1 v n xs) (hn : n ≠ 0) : ∃ g c, v = .slice (some ⟨g, 0, none⟩) n c ∧ base ≤ g := by
  rcases h.2 with ⟨_, h0⟩ | ⟨g, cap, cur, rfl, hb, _⟩
  · omega
  · exact ⟨g, cap, rfl, hb⟩
theorem owned_bytes {w : World} {base n c g : Nat} {zs : List Int} (h : w.ownsRow base 5 1 (.slice (some ⟨g, 0, none⟩) n c) n (zs.map (Value.int .u8))) : ∀ j, j < n → w.cell? ⟨g, 0 + j, none⟩ = some (.int .u8 (zs.getD j 0)) := by
  intro j hj
  have hl : zs.length = n := by have := h.1; simpa using this
  rw [Nat.zero_add, h.cellAt j (by omega), List.getD_eq_getElem?_getD]
  simp [hl, hj]

theorem fresh_own (w : World) (base n : Nat) (xs : List Value) (hn : xs.length = n) (hm : n ≤ maxLen) (hb : base ≤ w.heap.size) : (w.alloc (.cells xs.toArray 5)).ownsRow base 5 1 (.slice (some ⟨w.heap.size, 0, none⟩) n n) n xs :=
  ⟨by omega, .inr ⟨w.heap.size, n, xs.toArray, rfl, hb, heap_alloc_new w _, Nat.le_refl _, hm, by simp [hn], by simp [← hn]⟩⟩
/-- The bytes with a tag ahead. -/
def tagged (m x6 x7 x8 x9 : Int) (sz : Nat) (D : List Int) : List Int := [73, 68, 51, 3, m, 0, x6, x7, x8, x9] ++ List.replicate sz 0 ++ [255, 251, 144, 0] ++ D
theorem tagged_length (m x6 x7 x8 x9 : Int) (sz : Nat) (D : List Int) : (tagged m x6 x7 x8 x9 sz D).length = 10 + sz + 4 + D.length := by
  simp [tagged]; omega
theorem tagged_map (m x6 x7 x8 x9 : Int) (sz : Nat) (D : List Int) : (tagged m x6 x7 x8 x9 sz D).map (Value.int .u8) =
    [Value.int .u8 73, .int .u8 68, .int .u8 51] ++ [Value.int .u8 3, .int .u8 m, .int .u8 0, .int .u8 x6, .int .u8 x7, .int .u8 x8, .int .u8 x9] ++ List.replicate sz (Value.int .u8 0) ++ [Value.int .u8 255, .int .u8 251, .int .u8 144, .int .u8 0] ++ D.map (Value.int .u8) := by
  simp [tagged]
theorem tagged_skips (m x6 x7 x8 x9 : Int) (sz : Nat) (D : List Int) (hsz : sz ≤ 10000) (h6 : 0 ≤ x6 ∧ x6 ≤ 127) (h7 : 0 ≤ x7 ∧ x7 ≤ 127) (h8 : 0 ≤ x8 ∧ x8 ≤ 127) (h9 : 0 ≤ x9 ∧ x9 ≤ 127) (hx : x6 * 2097152 + x7 * 16384 + x8 * 128 + x9 = sz) : Skips (tagged m x6 x7 x8 x9 sz D) (10 + sz) :=
  fun S Q X cap w h => skip_tag S Q X cap sz _ (by simp [tagged]; omega) hsz rfl rfl rfl x6 x7 x8 x9 rfl rfl rfl rfl h6 h7 h8 h9 hx w h
theorem plain_skips (D : List Int) : Skips ([255, 251, 144, 0] ++ D) 0 :=
  fun S Q X cap w h => skip_none S Q X cap _ (by simp) rfl rfl rfl w h
theorem i64_and127 (n : Int) : bits .and .i64 n 127 = n % 128 := and_mask_i64 7 (by decide) n

set_option maxRecDepth 100000 in
set_option maxHeartbeats 2000000 in
theorem fnTags_main (a0 a1 : Int) (h0 : 0 ≤ a0 ∧ a0 ≤ 65535) (h1 : 0 ≤ a1 ∧ a1 ≤ 255) (a : Option Addr) (D : List Int) (cap : Nat) (hl : D.length ≤ 100) (w : World) (hd : DataIn w a D cap) :
    Calls Tryd.prog 3 #[.int .u16 a0, .int .u8 a1, .slice a D.length cap] w fun e w' => e = .returned (.bool true) ∧ Below w.heap.size w w' := by
  obtain ⟨i0, hi, hz0, hz1, hz2⟩ := info_parts info5
  have kc := fun (w : World) (C : Array Value) (n c : Nat) => Lib.run_convert_bytes_const (P := Tryd.prog) w 23 5 C n c Tryd.underlying23 Tryd.underlying5
  obtain ⟨sz, hsz⟩ : ∃ sz : Nat, a0 % 10000 = sz := ⟨(a0 % 10000).toNat, by omega⟩
  obtain ⟨m, hm⟩ : ∃ m, a1 % 5 = m := ⟨_, rfl⟩
  have hszb : sz ≤ 9999 := by omega
  obtain ⟨x6, hx6⟩ : ∃ x, x = (sz : Int) / 2097152 % 128 := ⟨_, rfl⟩
  obtain ⟨x7, hx7⟩ : ∃ x, x = (sz : Int) / 16384 % 128 := ⟨_, rfl⟩
  obtain ⟨x8, hx8⟩ : ∃ x, x = (sz : Int) / 128 % 128 := ⟨_, rfl⟩
  obtain ⟨x9, hx9⟩ : ∃ x, x = (sz : Int) % 128 := ⟨_, rfl⟩
  have e6 : bits .and .i64 ((sz : Int) / 2097152) 127 = x6 := by rw [i64_and127, hx6]
  have e7 : bits .and .i64 ((sz : Int) / 16384) 127 = x7 := by rw [i64_and127, hx7]
  have e8 : bits .and .i64 ((sz : Int) / 128) 127 = x8 := by rw [i64_and127, hx8]
  have e9 : bits .and .i64 (sz : Int) 127 = x9 := by rw [i64_and127, hx9]
  have b6 : 0 ≤ x6 ∧ x6 ≤ 127 := by omega
  have b7 : 0 ≤ x7 ∧ x7 ≤ 127 := by omega
  have b8 : 0 ≤ x8 ∧ x8 ≤ 127 := by omega
  have b9 : 0 ≤ x9 ∧ x9 ≤ 127 := by omega
  have f6 : x6 % 256 = x6 := by omega
  have f7 : x7 % 256 = x7 := by omega
  have f8 : x8 % 256 = x8 := by omega
  have f9 : x9 % 256 = x9 := by omega
  have hx : x6 * 2097152 + x7 * 16384 + x8 * 128 + x9 = sz := by omega
  have HSK := Lib.hid (tagged_skips m x6 x7 x8 x9 sz D (by omega) b6 b7 b8 b9 hx)
  have HD := Lib.hid hd
  clear hx hx6 hx7 hx8 hx9 b6 b7 b8 b9 hd
  have h2 : ¬ (2147483647 < (D.length : Int)) := by omega
  have h3 : ¬ (100 < (D.length : Int)) := by omega
  go_enter Tryd.func3, Tryd.ntmps3
  go_wp2_with (first
    | (at_builtin; refine wpList_append_grows _ rfl (.tmp 23) (.tmp 41) 23 rfl 5 i0 (.int .u8 0) 1 1 Tryd.underlying23 hi hz0 hz1 hz2 rfl (by decide) (some ⟨w.heap.size, 0, none⟩) 3 3 [.int .u8 73, .int .u8 68, .int .u8 51] rfl (by intro hh; cases hh) rfl (marked_row w [.int .u8 73, .int .u8 68, .int .u8 51] (3, 4) _) ⟨w.heap.size + 1, 0, none⟩ 7 7 [.int .u8 3, .int .u8 m, .int .u8 0, .int .u8 x6, .int .u8 x7, .int .u8 x8, .int .u8 x9] rfl rfl (new_row2 w _ [.int .u8 3, .int .u8 m, .int .u8 0, .int .u8 x6, .int .u8 x7, .int .u8 x8, .int .u8 x9]) (by simp [Value.oneCell']) (by decide) (by unfold maxLen; omega) (by omega) ?_; intro v1 w1 hown1 hgr1; (have hB1 : Below w.heap.size w w1 := (stpA (stpA (stp0 w) _) _).grown hgr1 (by simp; omega) (by intro j hj; cases hj)); (have ho1 := owns_base (base' := w.heap.size) hown1 (by simp; omega)); (obtain ⟨g1, c1, rfl, hge1⟩ := owned_some ho1 (by omega)); clear hown1 hgr1)
    | (at_builtin; refine wpList_append_zeros rfl (.tmp 43) (.tmp 44) 23 3 rfl w.heap.size 5 i0 .i64 Tryd.underlying23 Tryd.underlying3 hi hz0 hz1 hz2 g1 10 c1 _ rfl ho1 sz rfl (by omega) hB1.size ?_; intro g2 c2 w2 ho2 hgr2; (have hB2 : Below w.heap.size w w2 := hB1.grown hgr2 hB1.size (by intro j hj; injection hj with hj; subst hj; exact hge1)); clear hgr2 ho1 hB1)
    | (at_builtin; refine append_data rfl (.tmp 45) (.tmp 46) 23 rfl w.heap.size 5 i0 (.int .u8 0) 1 Tryd.underlying23 hi hz0 hz1 hz2 rfl _ (10 + sz) _ rfl (ho2.alloc _) (some ⟨w2.heap.size, 0, none⟩) 4 4 [.int .u8 255, .int .u8 251, .int .u8 144, .int .u8 0] rfl rfl (.inr ⟨_, rfl, new_row w2 [.int .u8 255, .int .u8 251, .int .u8 144, .int .u8 0]⟩) (by simp [Value.oneCell']) (by unfold maxLen; omega) (by omega) (by have := hB2.size; simp; omega) ?_; intro v3 w3 ho3 hgr3; (have hB3 : Below w.heap.size w w3 := (stpA hB2 _).grown hgr3 (by have := hB2.size; simp; omega) (by intro j hj; exact own_ge ho2 hj)); (obtain ⟨g3, c3, rfl, hge3⟩ := owned_some ho3 (by omega)); clear hgr3 ho2 hB2)
    | (at_builtin; refine append_data rfl (.tmp 49) (.tmp 50) 23 rfl w.heap.size 5 i0 (.int .u8 0) 1 Tryd.underlying23 hi hz0 hz1 hz2 rfl _ (10 + sz + 4) _ rfl ho3 a D.length cap (D.map (Value.int .u8)) rfl (by simp) (HD.out.below hB3) oneCell_ints (by unfold maxLen; omega) (by omega) hB3.size ?_; intro v4 w4 ho4 hgr4; (have hB4 : Below w.heap.size w w4 := hB3.grown hgr4 hB3.size (by intro j hj; exact own_ge ho3 hj)); (obtain ⟨g4, c4, rfl, hge4⟩ := owned_some ho4 (by omega)); clear hgr4 ho3 hB3))
  rw [← tagged_map] at ho4
  have HC4 := Lib.hid (owned_bytes ho4)
  clear ho4 kc e6 e7 e8 e9 f6 f7 f8 f9
  refine (tags_any g4 0 (10 + sz + 4 + D.length) c4 (10 + sz) (tagged m x6 x7 x8 x9 sz D) (tagged_length m x6 x7 x8 x9 sz D) (by omega) HSK.out (by rw [tagged_length]; omega) w4 HC4.out).mono ?_
  rintro e w5 ⟨rfl, hb5⟩
  have hB5 := stp hB4 hb5
  have hs5 := hB5.size
  clear hB4 hb5 HC4
  have t1 : IntKind.i64.wrap (10 + (sz : Int)) = 10 + sz := IntWalk.i64_in _ (by omega)
  go_wp2_with (at_builtin; refine append_data rfl (.tmp 56) (.tmp 57) 23 rfl w.heap.size 5 i0 (.int .u8 0) 1 Tryd.underlying23 hi hz0 hz1 hz2 rfl _ 4 _ rfl (fresh_own w5 w.heap.size 4 [.int .u8 255, .int .u8 251, .int .u8 144, .int .u8 0] rfl (by unfold maxLen; omega) hs5) a D.length cap (D.map (Value.int .u8)) rfl (by simp) (HD.out.below (stpA hB5 _)) oneCell_ints (by unfold maxLen; omega) (by omega) (by simp; omega) ?_; intro v6 w6 ho6 hgr6; (have hB6 : Below w.heap.size w w6 := (stpA hB5 _).grown hgr6 (by simp; omega) (by intro j hj; injection hj with hj; subst hj; exact hs5)); (obtain ⟨g6, c6, rfl, hge6⟩ := owned_some ho6 (by omega)); clear hgr6 hB5)
  have hmap : [Value.int .u8 255, .int .u8 251, .int .u8 144, .int .u8 0] ++ D.map (Value.int .u8) = ([255, 251, 144, 0] ++ D).map (Value.int .u8) := by simp
  rw [hmap] at ho6
  have HC6 := Lib.hid (owned_bytes ho6)
  clear ho6 hmap
  have hlen : ([255, 251, 144, 0] ++ D).length = 4 + D.length := by simp; omega
  refine (tags_any g6 0 (4 + D.length) c6 0 ([255, 251, 144, 0] ++ D) hlen (by omega) (plain_skips D) (by omega) w6 HC6.out).mono ?_
  rintro e w7 ⟨rfl, hb7⟩
  have hB7 := stp hB6 hb7
  clear hB6 hb7 HC6
  go_wp2_with fail
  go_returns
  exact ⟨by simp, hB7⟩

theorem fnTags_walk (a0 : Int) (a1 : Int) (a2 : Option Addr) (len2 cap2 : Nat) (z2 : List Int) (w : World) (w0 : (Lit.int .u16 a0).wf = true) (w1 : (Lit.int .u8 a1).wf = true)
    (w2 : IsRowP .u8 w a2 len2 cap2 z2) :
    Calls Tryd.prog 3 #[.int .u16 a0, .int .u8 a1, .slice a2 len2 cap2] w fun e w' => e = .returned (.bool true) ∧ Below w.heap.size w w' := by
  by_cases h : 100 < len2
  · exact fnTags_big a0 a1 a2 len2 cap2 h w
  · obtain ⟨D, hD, hd, _⟩ := isRow_dataIn w2
    subst hD
    exact fnTags_main a0 a1 (bounds_u16 w0) (bounds_u8 w1) a2 D cap2 (by omega) w hd
end Go.Proofs.YtppfldobgemddaaDoor
