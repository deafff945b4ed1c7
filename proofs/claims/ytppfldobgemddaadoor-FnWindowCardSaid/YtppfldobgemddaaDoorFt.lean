/-
  The law of the window in plain words: what the package reckons in 32 bits lies near what the reference reckons in 64.
-/
import Derived.Test.YtppfldobgemddaaDoorFq
import Derived.Test.YtppfldobgemddaaDoorFr
namespace Go.Proofs.YtppfldobgemddaaDoor
open Ieee
set_option linter.unusedVariables false

theorem fv_val {f : Format} {x : Nat} {X : Int} (h : FV f x X) : X = valZ f x := by
  obtain ⟨s, m, e, hr, _, rfl⟩ := h
  unfold valZ
  rw [hr]
theorem Pair.val {a b : Nat} {A B : Int} (h : Pair a b A B) : Pair a b (valZ single a) (valZ double b) := by
  have e1 := fv_val h.fa
  have e2 := fv_val h.fb
  subst e1
  subst e2
  exact h
theorem whole_div {P : Int} (h : ∃ E, P = E * un) : P = P / un * un := by
  obtain ⟨E, rfl⟩ := h
  rw [Int.mul_ediv_cancel _ un_ne]
theorem big_of {K : Nat} {E : Int} (hK : K ≤ 2 ^ 2205) (hE : E.natAbs ≤ 1000 * K + 1000 * tin) : E.natAbs < much := by
  have h4 := much_big
  generalize 2 ^ 2205 = A at *
  omega
theorem abs_tri (a b c : Int) : (a - c).natAbs ≤ (a - b).natAbs + (b - c).natAbs := by
  rw [show a - c = (a - b) + (b - c) by omega]; exact Int.natAbs_add_le _ _
theorem abs_le_add (a b : Int) : a.natAbs ≤ b.natAbs + (a - b).natAbs := by
  have h := Int.natAbs_add_le b (a - b)
  rwa [show b + (a - b) = a by omega] at h
theorem abs_sym (a b : Int) : (a - b).natAbs = (b - a).natAbs := by rw [← Int.natAbs_neg, Int.neg_sub]

/-- A word of 32 bits and one of 64 that stand for near numbers. -/
def Close (K c d : Nat) (y z : Nat) : Prop :=
  ∃ Y Z, FV single y Y ∧ FV double z Z ∧ Y.natAbs ≤ c * (21 * K + 5 * tin) ∧ Z.natAbs ≤ c * (21 * K + 5 * tin) ∧ 16777216 * (Y - Z).natAbs ≤ d * (1600 * K + 300 * tin)

/-- The same, nearer: one product. -/
def Fine (K : Nat) (y z : Nat) : Prop :=
  ∃ Y Z, FV single y Y ∧ FV double z Z ∧ Y.natAbs ≤ 20 * K + 3 * tin ∧ Z.natAbs ≤ 20 * K + 3 * tin ∧ 16777216 * (Y - Z).natAbs ≤ 1400 * K + 200 * tin
theorem Fine.close {K y z : Nat} (h : Fine K y z) : Close K 1 1 y z := by
  obtain ⟨Y, Z, hY, hZ, h1, h2, h3⟩ := h
  exact ⟨Y, Z, hY, hZ, by omega, by omega, by omega⟩

/-- The sums, times a number of the windows. -/
theorem win_near {K : Nat} (hK : K ≤ 2 ^ 2205) {s t w r : Nat} {R R' S S' A B : Int} (hR : FV single s R) (hR' : FV double t R') (hp : Pair w r A B)
    (h1 : (16777216 * (R - S)).natAbs ≤ 18 * step K) (h2 : (16777216 * (R' - S')).natAbs ≤ 18 * step K) (hS : S.natAbs ≤ 18 * K) (hS' : S'.natAbs ≤ 18 * K) (hd : (1048576 * (S - S')).natAbs ≤ 18 * K) :
    ∃ y z, gmul s w = some y ∧ fmul t r = some z ∧ Fine K y z := by
  obtain ⟨F, hF⟩ := mul_whole good32 hR hp.fa
  obtain ⟨G, hG⟩ := mul_whole good64 hR' hp.fb
  have h3 : step K = 20 * K + 4 * tin := rfl
  rw [abs_mul24] at h1 h2
  rw [Int.natAbs_mul] at hd
  have hd' : 1048576 * (S - S').natAbs ≤ 18 * K := hd
  have bR : R.natAbs ≤ 19 * K + tin := by
    have := abs_le_add R S
    generalize R.natAbs = a at *
    generalize S.natAbs = b at *
    generalize (R - S).natAbs = c at *
    omega
  have bR' : R'.natAbs ≤ 19 * K + tin := by
    have := abs_le_add R' S'
    generalize R'.natAbs = a at *
    generalize S'.natAbs = b at *
    generalize (R' - S').natAbs = c at *
    omega
  have bF : F.natAbs ≤ 19 * K + tin := prod_le hF bR hp.la
  have bG : G.natAbs ≤ 19 * K + tin := prod_le hG bR' hp.lb
  have bRR : 16777216 * (R - R').natAbs ≤ 1008 * K + 144 * tin := by
    have t1 := abs_tri R S R'
    have t2 := abs_tri S S' R'
    have t3 := abs_sym S' R'
    generalize (R - R').natAbs = a at *
    generalize (R - S).natAbs = b at *
    generalize (S - R').natAbs = c at *
    generalize (S - S').natAbs = d at *
    generalize (S' - R').natAbs = e at *
    generalize (R' - S').natAbs = f at *
    omega
  have bFG : 16777216 * (F - G).natAbs ≤ 1312 * K + 160 * tin := by
    have e : 16777216 * (F - G) * un = 16777216 * (R - R') * A + 16 * R' * (1048576 * (A - B)) := by
      have e1 : (F - G) * un = (R - R') * A + R' * (A - B) := by rw [Int.sub_mul, ← hF, ← hG, Int.sub_mul, Int.mul_sub]; omega
      have e2 : 16777216 * (R' * (A - B)) = 16 * R' * (1048576 * (A - B)) := by
        rw [Int.mul_assoc 16 R', Int.mul_left_comm R']
        generalize R' * (A - B) = v
        omega
      rw [Int.mul_assoc, e1, Int.mul_add, ← Int.mul_assoc, e2]
    have e2 : (16777216 * (F - G) * un).natAbs ≤ (16777216 * (R - R').natAbs + 16 * R'.natAbs) * un.natAbs := by
      rw [e, Nat.add_mul]
      refine Nat.le_trans (Int.natAbs_add_le _ _) (Nat.add_le_add ?_ ?_)
      · rw [Int.natAbs_mul, abs_mul24]; exact Nat.mul_le_mul_left _ hp.la
      · rw [Int.natAbs_mul, Int.natAbs_mul]; exact Nat.mul_le_mul_left _ hp.near
    rw [Int.natAbs_mul, abs_mul24] at e2
    have e3 := Nat.le_of_mul_le_mul_right e2 (by have := un_pos; omega)
    generalize (F - G).natAbs = a at *
    generalize (R - R').natAbs = b at *
    generalize R'.natAbs = c at *
    omega
  obtain ⟨y, Y, hy, hY, hYe⟩ := mul_near good32 hR hp.fa hF (big_of hK (by omega))
  obtain ⟨z, Z, hz, hZ, hZe⟩ := mul_near good64 hR' hp.fb hG (big_of hK (by omega))
  have hYn := nigh_of b32 hYe
  have hZn := nigh_of b64 hZe
  unfold Nigh at hYn hZn
  rw [abs_mul24] at hYn hZn
  refine ⟨y, z, hy, hz, Y, Z, hY, hZ, ?_, ?_, ?_⟩
  · have := abs_le_add Y F
    generalize Y.natAbs = a at *
    generalize F.natAbs = b at *
    generalize (Y - F).natAbs = c at *
    omega
  · have := abs_le_add Z G
    generalize Z.natAbs = a at *
    generalize G.natAbs = b at *
    generalize (Z - G).natAbs = c at *
    omega
  · have t1 := abs_tri Y F Z
    have t2 := abs_tri F G Z
    have t3 := abs_sym G Z
    generalize (Y - Z).natAbs = a at *
    generalize (Y - F).natAbs = b at *
    generalize (F - Z).natAbs = c at *
    generalize (F - G).natAbs = d at *
    generalize (G - Z).natAbs = e at *
    generalize (Z - G).natAbs = f at *
    generalize F.natAbs = g at *
    generalize G.natAbs = i at *
    omega

/-- The sums themselves, of 32 and of 64 bits. -/
theorem sums_of {K : Nat} (hK : K ≤ 2 ^ 2205) {x y c k : Nat → Nat} {X : Nat → Int} (N : Nat) (hN : N ≤ 18) (hx : ∀ j, j < N → FV single (y j) (X j) ∧ FV double (x j) (X j) ∧ (X j).natAbs ≤ K)
    (hc : ∀ j, j < N → Pair (c j) (k j) (valZ single (c j)) (valZ double (k j))) :
    ∃ s t R R' S S', dot y c N = some s ∧ dotD x k N = some t ∧ FV single s R ∧ FV double t R' ∧ (16777216 * (R - S)).natAbs ≤ 18 * step K ∧ (16777216 * (R' - S')).natAbs ≤ 18 * step K ∧ S.natAbs ≤ 18 * K ∧ S'.natAbs ≤ 18 * K ∧ (1048576 * (S - S')).natAbs ≤ 18 * K := by
  have hE : ∀ j, j < N → X j * valZ single (c j) = (X j * valZ single (c j) / un) * un := fun j hj => whole_div (mul_whole good32 (hx j hj).1 (hc j hj).fa)
  have hF : ∀ j, j < N → X j * valZ double (k j) = (X j * valZ double (k j) / un) * un := fun j hj => whole_div (mul_whole good64 (hx j hj).2.1 (hc j hj).fb)
  obtain ⟨s, R, h1, h2, h3⟩ := dot_near hK N hN (fun j hj => ⟨(hx j hj).1, (hx j hj).2.2⟩) (fun j hj => ⟨(hc j hj).fa, (hc j hj).la⟩) hE N (Nat.le_refl _)
  obtain ⟨t, R', k1, k2, k3⟩ := dotD_near hK N hN (fun j hj => ⟨(hx j hj).2.1, (hx j hj).2.2⟩) (fun j hj => ⟨(hc j hj).fb, (hc j hj).lb⟩) hF N (Nat.le_refl _)
  have m1 := Nat.mul_le_mul_right (step K) hN
  have m2 := Nat.mul_le_mul_right K hN
  exact ⟨s, t, R, R', _, _, h1, k1, h2, k2, Nat.le_trans h3 m1, Nat.le_trans k3 m1,
    Nat.le_trans (sumE_le N fun j hj => prod_le (hE j hj) (hx j hj).2.2 (hc j hj).la) m2,
    Nat.le_trans (sumE_le N fun j hj => prod_le (hF j hj) (hx j hj).2.2 (hc j hj).lb) m2,
    Nat.le_trans (sums_near N fun j hj => prods_near (hE j hj) (hF j hj) (hx j hj).2.2 (hc j hj).near) m2⟩

/-- What is near enough. -/
theorem nearAt_of {K c d tol : Nat} {T : Int} (hK : K ≤ 2 ^ 2205) (hc : c ≤ 3) (hd : d ≤ 3) {y z : Nat} (h : Close K c d y z) (hT : FV double tol T) (hle : (K : Int) + 2048 * ((2 ^ 2170 : Nat) : Int) ≤ 2048 * T) : NearAt y z tol := by
  obtain ⟨Y, Z, hY, hZ, bY, bZ, hn⟩ := h
  have mc : c * (21 * K + 5 * tin) ≤ 3 * (21 * K + 5 * tin) := Nat.mul_le_mul_right _ hc
  have md : d * (1600 * K + 300 * tin) ≤ 3 * (1600 * K + 300 * tin) := Nat.mul_le_mul_right _ hd
  obtain ⟨f, F, hf, hF, hFe⟩ := to64_near hY (big_of hK (by omega))
  have hFn := nigh_of b64 hFe
  unfold Nigh at hFn
  rw [abs_mul24] at hFn
  have bFZ : 16777216 * (F - Z).natAbs ≤ 4863 * K + 916 * tin := by
    have t1 := abs_tri F Y Z
    generalize (F - Z).natAbs = a at *
    generalize (F - Y).natAbs = b at *
    generalize (Y - Z).natAbs = e at *
    generalize Y.natAbs = g at *
    omega
  obtain ⟨w, D, hw, hD, hDe⟩ := sub_near good64 hF hZ (big_of hK (by omega))
  have hDn := nigh_of b64 hDe
  unfold Nigh at hDn
  rw [abs_mul24] at hDn
  have bD : 16777216 * D.natAbs ≤ 4870 * K + 920 * tin := by
    have t1 := abs_le_add D (F - Z)
    generalize (D - (F - Z)).natAbs = a at *
    generalize (F - Z).natAbs = b at *
    generalize D.natAbs = e at *
    omega
  have ht : 1000 * tin < 16777216 * 2 ^ 2170 := by decide +kernel
  have hlt : D < T ∧ -D < T := by
    generalize (2 ^ 2170 : Nat) = W at *
    clear hY hZ hF hD hT hDe hFe
    omega
  exact ⟨f, w, hf, hw, order_lt good64 hD hT hlt.1, order_lt good64 (fneg_fv hD) hT hlt.2, order_self good64 hD⟩

/-! ### The two kinds of block -/
/-- The numbers that came in, bounded by their greatest. -/
def pw : Nat := 2 ^ 2197
def kOf (V : Nat → Int) : Nat := topV V 18 * pw
theorem eig_abs : eig.natAbs = pw := by decide +kernel
theorem kOf_le {V : Nat → Int} (h : ∀ k, k < 18 → -128 ≤ V k ∧ V k ≤ 127) : kOf V ≤ 2 ^ 2205 := by
  have h1 : topV V 18 * pw ≤ 128 * pw := Nat.mul_le_mul_right _ (topV_le h)
  have h2 : 128 * pw ≤ 2 ^ 2205 := by decide +kernel
  exact Nat.le_trans h1 h2
theorem kOf_int (V : Nat → Int) : (kOf V : Int) = (topV V 18 : Int) * eig := by
  have e : eig = (pw : Int) := by decide +kernel
  rw [e, ← Int.natCast_mul]; rfl
theorem ins (V : Nat → Int) (h : ∀ k, k < 18 → -128 ≤ V k ∧ V k ≤ 127) (j : Nat) (hj : j < 18) :
    FV single (s8 (V j)) (V j * eig) ∧ FV double (e8 (V j)) (V j * eig) ∧ (V j * eig).natAbs ≤ kOf V := by
  obtain ⟨h1, h2⟩ := eight_is (V j) (h j hj).1 (h j hj).2
  refine ⟨h2, h1, ?_⟩
  rw [Int.natAbs_mul, eig_abs]
  exact Nat.mul_le_mul_right _ (le_topV hj)

theorem long_near (V : Nat → Int) (h : ∀ k, k < 18 → -128 ≤ V k ∧ V k ≤ 127) (b p : Nat) (hb : b < 4) (hb2 : b ≠ 2) (hp : p < 36) :
    ∃ y z, outO (fun k => s8 (V k)) b p = some y ∧ outD (fun k => e8 (V k)) b p = some z ∧ Close (kOf V) 1 1 y z := by
  have hK := kOf_le h
  obtain ⟨s, t, R, R', S, S', h1, h2, h3, h4, h5, h6, h7, h8, h9⟩ := sums_of hK (x := fun k => e8 (V k)) (y := fun k => s8 (V k)) (c := fun m => c36W m p) (k := fun m => k36W p m) (X := fun j => V j * eig) 18 (Nat.le_refl _) (fun j hj => ins V h j hj)
    (fun j hj => by obtain ⟨A, B, hAB⟩ := pair36 p j hp hj; exact hAB.val)
  obtain ⟨r, A, B, hr, hAB⟩ := pairS b p hb hb2 hp
  obtain ⟨y, z, hy, hz, hc⟩ := win_near hK h3 h4 hAB h5 h6 h7 h8 h9
  refine ⟨y, z, ?_, ?_, hc.close⟩
  · unfold outO; rw [h1]; exact hy
  · unfold outD; rw [h2]
    show (shapeO p b).bind _ = _
    rw [hr]; exact hz
theorem add_of (V : Nat → Int) (h : ∀ k, k < 18 → -128 ≤ V k ∧ V k ≤ 127) (n : Nat) (hn : n < 36) :
    ∃ y z, addS (fun k => s8 (V k)) n = some y ∧ addD (fun k => e8 (V k)) n = some z ∧ Fine (kOf V) y z := by
  have hK := kOf_le h
  have hp : n % 12 < 12 := by omega
  obtain ⟨s, t, R, R', S, S', h1, h2, h3, h4, h5, h6, h7, h8, h9⟩ := sums_of hK (x := fun m => e8 (V (n / 12 + m * 3))) (y := fun m => s8 (V (n / 12 + m * 3))) (c := fun m => c12W m (n % 12)) (k := fun m => k12W (n % 12) m) (X := fun m => V (n / 12 + m * 3) * eig) 6 (by decide) (fun j hj => ins V h (n / 12 + j * 3) (by omega))
    (fun j hj => by obtain ⟨A, B, hAB⟩ := pair12 (n % 12) j hp hj; exact hAB.val)
  obtain ⟨r, A, B, hr, hAB⟩ := pairS2 (n % 12) hp
  obtain ⟨y, z, hy, hz, hc⟩ := win_near hK h3 h4 hAB h5 h6 h7 h8 h9
  refine ⟨y, z, ?_, ?_, hc⟩
  · unfold addS; rw [h1]; exact hy
  · unfold addD; rw [h2]
    show (sineO (n % 12) 12).bind _ = _
    rw [hr]; exact hz
/-- How often a place is met. -/
def hits : Nat → Nat → Nat
  | 0, _ => 0
  | n + 1, q => if q = 6 * (n / 12) + n % 12 + 6 then hits n q + 1 else hits n q
theorem hits_all : ∀ n : Fin 37, ∀ q : Fin 36, hits n q ≤ 2 := by decide +kernel
theorem hits_le (n q : Nat) (hn : n ≤ 36) (hq : q < 36) : hits n q ≤ 2 := hits_all ⟨n, by omega⟩ ⟨q, hq⟩

theorem close_add {K c : Nat} (hK : K ≤ 2 ^ 2205) (hc : c ≤ 2) {a b y z : Nat} (h1 : Close K c c a b) (h2 : Fine K y z) : ∃ r s, gadd a y = some r ∧ fadd b z = some s ∧ Close K (c + 1) (c + 1) r s := by
  obtain ⟨A, B, hA, hB, bA, bB, hAB⟩ := h1
  obtain ⟨Y, Z, hY, hZ, bY, bZ, hYZ⟩ := h2
  have m1 : c * (21 * K + 5 * tin) ≤ 2 * (21 * K + 5 * tin) := Nat.mul_le_mul_right _ hc
  have tA := Int.natAbs_add_le A Y
  have tB := Int.natAbs_add_le B Z
  have sA : (A + Y).natAbs ≤ 3 * (21 * K + 5 * tin) := by omega
  have sB : (B + Z).natAbs ≤ 3 * (21 * K + 5 * tin) := by omega
  obtain ⟨r, R, hr, hR, hRe⟩ := add_near good32 hA hY (big_of hK (by omega))
  obtain ⟨s, S, hs, hS, hSe⟩ := add_near good64 hB hZ (big_of hK (by omega))
  have hRn := nigh_of b32 hRe
  have hSn := nigh_of b64 hSe
  unfold Nigh at hRn hSn
  rw [abs_mul24] at hRn hSn
  have e1 : (c + 1) * (21 * K + 5 * tin) = c * (21 * K + 5 * tin) + (21 * K + 5 * tin) := by rw [Nat.add_mul, Nat.one_mul]
  have e2 : (c + 1) * (1600 * K + 300 * tin) = c * (1600 * K + 300 * tin) + (1600 * K + 300 * tin) := by rw [Nat.add_mul, Nat.one_mul]
  refine ⟨r, s, hr, hs, R, S, hR, hS, ?_, ?_, ?_⟩
  · rw [e1]
    have := abs_le_add R (A + Y)
    generalize c * (21 * K + 5 * tin) = cK at *
    generalize R.natAbs = a at *
    generalize (A + Y).natAbs = b at *
    generalize (R - (A + Y)).natAbs = d at *
    omega
  · rw [e1]
    have := abs_le_add S (B + Z)
    generalize c * (21 * K + 5 * tin) = cK at *
    generalize S.natAbs = a at *
    generalize (B + Z).natAbs = b at *
    generalize (S - (B + Z)).natAbs = d at *
    omega
  · rw [e2]
    have t1 := abs_tri R (A + Y) S
    have t2 := abs_tri (A + Y) (B + Z) S
    have t3 := abs_sym (B + Z) S
    have t4 : (A + Y - (B + Z)).natAbs ≤ (A - B).natAbs + (Y - Z).natAbs := by
      rw [show A + Y - (B + Z) = (A - B) + (Y - Z) by omega]; exact Int.natAbs_add_le _ _
    generalize c * (1600 * K + 300 * tin) = cD at *
    generalize (R - S).natAbs = a at *
    generalize (R - (A + Y)).natAbs = b at *
    generalize (A + Y - S).natAbs = d at *
    generalize (A + Y - (B + Z)).natAbs = f at *
    generalize (B + Z - S).natAbs = g at *
    generalize (S - (B + Z)).natAbs = i at *
    generalize (A - B).natAbs = j at *
    generalize (Y - Z).natAbs = k at *
    generalize (A + Y).natAbs = l at *
    generalize (B + Z).natAbs = m at *
    omega

theorem st_near (V : Nat → Int) (h : ∀ k, k < 18 → -128 ≤ V k ∧ V k ≤ 127) (q : Nat) (hq : q < 36) (n : Nat) (hn : n ≤ 36) :
    ∃ a b, stS (fun k => s8 (V k)) n q = some a ∧ stD (fun k => e8 (V k)) n q = some b ∧ Close (kOf V) (hits n q) (hits n q) a b := by
  induction n with
  | zero => exact ⟨0, 0, rfl, rfl, 0, 0, zero32, zero64, Nat.zero_le _, Nat.zero_le _, Nat.zero_le _⟩
  | succ n ih =>
    obtain ⟨a, b, ha, hb, hab⟩ := ih (by omega)
    by_cases hc : q = 6 * (n / 12) + n % 12 + 6
    · obtain ⟨y, z, hy, hz, hyz⟩ := add_of V h n (by omega)
      obtain ⟨r, s, hr, hs, hrs⟩ := close_add (kOf_le h) (hits_le n q (by omega) hq) hab hyz
      refine ⟨r, s, ?_, ?_, ?_⟩
      · rw [stS, if_pos hc, ha]
        show (addS (fun k => s8 (V k)) n).bind _ = _
        rw [hy]; exact hr
      · rw [stD, if_pos hc, hb]
        show (addD (fun k => e8 (V k)) n).bind _ = _
        rw [hz]; exact hs
      · rw [hits, if_pos hc]; exact hrs
    · refine ⟨a, b, ?_, ?_, ?_⟩
      · rw [stS, if_neg hc]; exact ha
      · rw [stD, if_neg hc]; exact hb
      · rw [hits, if_neg hc]; exact hab

theorem getD_of {o : Option Nat} {r : Nat} (h : o = some r) : o.getD 0 = r := by rw [h]; rfl
/-- The law, whole. -/
theorem law_at (V : Nat → Int) (h : ∀ k, k < 18 → -128 ≤ V k ∧ V k ≤ 127) (b : Nat) (hb : b < 4) : LawAt (fun k => e8 (V k)) (fun k => s8 (V k)) b := by
  have hK := kOf_le h
  obtain ⟨m, q, r, R, hm, hq, hr, hR, hle⟩ := tol_is (topV V 18) (topV_le h)
  rw [← kOf_int] at hle
  have ht := top_is V 18 h
  by_cases hb2 : b = 2
  · subst hb2
    refine ⟨fun p => (stS (fun k => s8 (V k)) 36 p).getD 0, fun p => (stD (fun k => e8 (V k)) 36 p).getD 0, _, m, q, r, .inr ⟨rfl, fun p hp => ?_, fun p hp => ?_⟩, ht, hm, hq, hr, fun p hp => ?_⟩
    · obtain ⟨y, z, hy, hz, _⟩ := st_near V h p hp 36 (Nat.le_refl _)
      exact hy.trans (congrArg some (getD_of hy).symm)
    · obtain ⟨y, z, hy, hz, _⟩ := st_near V h p hp 36 (Nat.le_refl _)
      exact hz.trans (congrArg some (getD_of hz).symm)
    · obtain ⟨y, z, hy, hz, hc⟩ := st_near V h p hp 36 (Nat.le_refl _)
      have h2 := hits_le 36 p (Nat.le_refl _) hp
      show NearAt ((stS (fun k => s8 (V k)) 36 p).getD 0) ((stD (fun k => e8 (V k)) 36 p).getD 0) r
      rw [getD_of hy, getD_of hz]
      exact nearAt_of hK (by omega) (by omega) hc hR hle
  · refine ⟨fun p => (outO (fun k => s8 (V k)) b p).getD 0, fun p => (outD (fun k => e8 (V k)) b p).getD 0, _, m, q, r, .inl ⟨hb2, fun p hp => ?_, fun p hp => ?_⟩, ht, hm, hq, hr, fun p hp => ?_⟩
    · obtain ⟨y, z, hy, hz, _⟩ := long_near V h b p hb hb2 hp
      exact hy.trans (congrArg some (getD_of hy).symm)
    · obtain ⟨y, z, hy, hz, _⟩ := long_near V h b p hb hb2 hp
      exact hz.trans (congrArg some (getD_of hz).symm)
    · obtain ⟨y, z, hy, hz, hc⟩ := long_near V h b p hb hb2 hp
      show NearAt ((outO (fun k => s8 (V k)) b p).getD 0) ((outD (fun k => e8 (V k)) b p).getD 0) r
      rw [getD_of hy, getD_of hz]
      exact nearAt_of hK (by decide) (by decide) hc hR hle
end Go.Proofs.YtppfldobgemddaaDoor
