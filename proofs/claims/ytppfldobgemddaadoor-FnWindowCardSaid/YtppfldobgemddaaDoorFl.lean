/-
  Rounding: how far the word nearest to a number lies from it, and what follows for sums, products and conversions of floats.
-/
import Derived.Laws.FloatArith
namespace Go.Proofs.YtppfldobgemddaaDoor
open Ieee
set_option linter.unusedVariables false

theorem word_parts (f : Format) (s : Bool) (r : Nat) (h : r < f.signWeight) : (f.word s r / f.signWeight % 2 == 1) = s ∧ f.word s r % f.signWeight = r := by
  have h0 : 0 < f.signWeight := Nat.two_pow_pos _
  unfold Format.word
  cases s
  · simp [Nat.div_eq_of_lt h, Nat.mod_eq_of_lt h]
  · have e1 : (f.signWeight + r) / f.signWeight = 1 := by
      rw [Nat.add_div_left _ h0, Nat.div_eq_of_lt h]
    have e2 : (f.signWeight + r) % f.signWeight = r := by
      rw [Nat.add_mod_left, Nat.mod_eq_of_lt h]
    simp [e1, e2]

theorem cut_err (s : Bool) (n drop : Nat) :
    2 * (Toward.even.cut s n drop * 2 ^ drop) ≤ 2 * n + 2 ^ drop ∧ 2 * n ≤ 2 * (Toward.even.cut s n drop * 2 ^ drop) + 2 ^ drop ∧ n / 2 ^ drop ≤ Toward.even.cut s n drop ∧ Toward.even.cut s n drop ≤ n / 2 ^ drop + 1 := by
  unfold Toward.cut
  simp only [Nat.one_shiftLeft]
  by_cases hd : drop ≤ n.log2 + 2
  · rw [Nat.min_eq_left hd]
    have hD : 0 < 2 ^ drop := Nat.two_pow_pos _
    have hdm := Nat.div_add_mod n (2 ^ drop)
    have hr := Nat.mod_lt n hD
    generalize 2 ^ drop = D at *
    generalize n % D = r at *
    generalize n / D = q at *
    have hq : D * q = q * D := Nat.mul_comm _ _
    have hq1 : (q + 1) * D = q * D + D := Nat.succ_mul _ _
    obtain ⟨b, hb⟩ : ∃ b : Bool, b = (decide (D < 2 * r) || (D == 2 * r && q % 2 == 1)) := ⟨_, rfl⟩
    rw [← hb]
    have hb1 : b = true → D ≤ 2 * r := by
      intro h
      rw [h] at hb
      have := hb.symm
      simp at this
      omega
    have hb0 : b = false → 2 * r ≤ D := by
      intro h
      rw [h] at hb
      have := hb.symm
      simp at this
      omega
    cases b
    · have := hb0 rfl
      rw [show q + false.toNat = q from rfl]
      omega
    · have := hb1 rfl
      rw [show q + true.toNat = q + 1 from rfl]
      omega
  · have hn : n < 2 ^ (n.log2 + 1) := Nat.lt_log2_self
    rw [Nat.min_eq_right (by omega)]
    have e1 : 2 ^ (n.log2 + 2) = 2 * 2 ^ (n.log2 + 1) := by rw [Nat.pow_succ, Nat.mul_comm]
    have hle : 2 ^ (n.log2 + 2) ≤ 2 ^ drop := Nat.pow_le_pow_right (by decide) (by omega)
    have q0 : n / 2 ^ (n.log2 + 2) = 0 := Nat.div_eq_of_lt (by omega)
    have r0 : n % 2 ^ (n.log2 + 2) = n := Nat.mod_eq_of_lt (by omega)
    have q1 : n / 2 ^ drop = 0 := Nat.div_eq_of_lt (by omega)
    rw [q0, r0, q1]
    have h1 : ¬ 2 ^ (n.log2 + 2) < 2 * n := by omega
    simp [h1]
    omega

theorem pow_split {a b c : Nat} (h : a = b + c) : 2 ^ a = 2 ^ b * 2 ^ c := by rw [h, Nat.pow_add]

/-- The word nearest to a number that is not too great stands for a number that is off by half of the last place at most. -/
theorem nearest_err (f : Format) (s : Bool) (m : Nat) (e : Int) (L : Nat) (hL : -(L : Int) ≤ f.leastPlace) (he : -(L : Int) ≤ e)
    (hbig : m * 2 ^ (e + L).toNat < 2 ^ (L + 100)) (hf : f.leastPlace + (2 ^ f.exponentBits : Nat) ≥ 104 - (f.fractionBits : Int)) (hf4 : 4 ≤ 2 ^ f.exponentBits) :
    ∃ m' e', f.read (f.nearest s m e) = .number s m' e' ∧ f.leastPlace ≤ e' ∧
      2 * (f.binade * (m' * 2 ^ (e' + L).toNat)) ≤ 2 * (f.binade * (m * 2 ^ (e + L).toNat)) + (m * 2 ^ (e + L).toNat + f.binade * 2 ^ (f.leastPlace + L).toNat) ∧
      2 * (f.binade * (m * 2 ^ (e + L).toNat)) ≤ 2 * (f.binade * (m' * 2 ^ (e' + L).toNat)) + (m * 2 ^ (e + L).toNat + f.binade * 2 ^ (f.leastPlace + L).toNat) := by
  have hB0 : 0 < f.binade := Nat.two_pow_pos _
  have hsw := f.infRung_lt
  by_cases hm : m = 0
  · subst hm
    refine ⟨0, f.leastPlace, ?_, Int.le_refl _, by simp, by simp⟩
    unfold Format.nearest
    simp only [if_true]
    have hp := word_parts f s 0 (by omega)
    unfold Format.read
    simp only [hp.1, hp.2, hB0, if_true]
  · obtain ⟨last, hlast⟩ : ∃ last, last = max (e + m.log2 - f.fractionBits) f.leastPlace := ⟨_, rfl⟩
    obtain ⟨n, hn⟩ : ∃ n, n = m <<< (e - last).toNat := ⟨_, rfl⟩
    obtain ⟨drop, hdrop⟩ : ∃ drop, drop = (last - e).toNat := ⟨_, rfl⟩
    obtain ⟨k, hk⟩ : ∃ k, k = Toward.even.cut s n drop := ⟨_, rfl⟩
    have hlow : 2 ^ m.log2 ≤ m := Nat.log2_self_le hm
    have hhigh : m < 2 ^ (m.log2 + 1) := Nat.lt_log2_self
    obtain ⟨c1, c2, c3, c4⟩ := cut_err s n drop
    rw [← hk] at c1 c2 c3 c4
    rw [Nat.shiftLeft_eq] at hn
    have hlL : f.leastPlace ≤ last := by omega
    have hB : f.binade = 2 ^ f.fractionBits := rfl
    -- how great the number is
    have hexp : e + m.log2 < 100 := by
      have h1 : 2 ^ m.log2 * 2 ^ (e + L).toNat < 2 ^ (L + 100) := Nat.lt_of_le_of_lt (Nat.mul_le_mul_right _ hlow) hbig
      rw [← Nat.pow_add] at h1
      have := (Nat.pow_lt_pow_iff_right (a := 2) (by decide)).1 h1
      omega
    -- what is kept, in its place, is near
    have K2 : 2 * (k * 2 ^ (last + L).toNat) ≤ 2 * (m * 2 ^ (e + L).toNat) + 2 ^ (last + L).toNat ∧ 2 * (m * 2 ^ (e + L).toNat) ≤ 2 * (k * 2 ^ (last + L).toNat) + 2 ^ (last + L).toNat := by
      by_cases hle : last ≤ e
      · have hd0 : drop = 0 := by omega
        rw [hd0] at c1 c2
        have hkn : k = n := by simp at c1 c2; omega
        have : m * 2 ^ (e + L).toNat = k * 2 ^ (last + L).toNat := by
          rw [hkn, hn, pow_split (show (e + L).toNat = (e - last).toNat + (last + L).toNat by omega), Nat.mul_assoc]
        have := Nat.two_pow_pos (last + L).toNat
        omega
      · have h0 : (e - last).toNat = 0 := by omega
        have hnm : n = m := by rw [hn, h0]; simp
        rw [hnm] at c1 c2
        have hs := pow_split (show (last + L).toNat = drop + (e + L).toNat by omega)
        rw [hs]
        generalize 2 ^ (e + L).toNat = E at *
        generalize 2 ^ drop = D at *
        have d1 := Nat.mul_le_mul_right E c1
        have d2 := Nat.mul_le_mul_right E c2
        have e1 : 2 * (k * D) * E = 2 * (k * (D * E)) := by rw [Nat.mul_assoc, Nat.mul_assoc]
        have e2 : 2 * m * E = 2 * (m * E) := Nat.mul_assoc _ _ _
        rw [Nat.add_mul] at d1 d2
        omega
    have hnlt : n / 2 ^ drop < 2 * f.binade := by
      rw [Nat.div_lt_iff_lt_mul (Nat.two_pow_pos _), hn, hB]
      have h1 : m * 2 ^ (e - last).toNat < 2 ^ (m.log2 + 1) * 2 ^ (e - last).toNat := Nat.mul_lt_mul_of_pos_right hhigh (Nat.two_pow_pos _)
      rw [← Nat.pow_add] at h1
      have h2 : 2 * 2 ^ f.fractionBits * 2 ^ drop = 2 ^ (f.fractionBits + 1 + drop) := by rw [Nat.pow_add, Nat.pow_succ, Nat.mul_comm 2]
      rw [h2]
      exact Nat.lt_of_lt_of_le h1 (Nat.pow_le_pow_right (by decide) (by omega))
    have K3 : k ≤ 2 * f.binade := by omega
    have K4 : f.leastPlace < last → f.binade ≤ k := by
      intro hgt
      refine Nat.le_trans ?_ c3
      rw [Nat.le_div_iff_mul_le (Nat.two_pow_pos _), hn, hB, ← Nat.pow_add]
      refine Nat.le_trans ?_ (Nat.mul_le_mul_right _ hlow)
      rw [← Nat.pow_add]
      exact Nat.pow_le_pow_right (by decide) (by omega)
    have K1 : f.binade * 2 ^ (last + L).toNat ≤ m * 2 ^ (e + L).toNat + f.binade * 2 ^ (f.leastPlace + L).toNat := by
      by_cases hgt : f.leastPlace < last
      · have : f.binade * 2 ^ (last + L).toNat ≤ m * 2 ^ (e + L).toNat := by
          rw [hB, ← Nat.pow_add]
          refine Nat.le_trans ?_ (Nat.mul_le_mul_right _ hlow)
          rw [← Nat.pow_add]
          exact Nat.pow_le_pow_right (by decide) (by omega)
        omega
      · have : last = f.leastPlace := by omega
        rw [this]; omega
    -- the word and what it stands for
    obtain ⟨g, hg⟩ : ∃ g : Nat, g = (last - f.leastPlace).toNat := ⟨_, rfl⟩
    have hgl : (g : Int) = last - f.leastPlace := by omega
    have hinf : g * f.binade + k < f.infRung := by
      have h1 : g + 3 ≤ 2 ^ f.exponentBits - 1 := by omega
      have h2 := Nat.mul_le_mul_right f.binade h1
      unfold Format.infRung
      rw [Nat.add_mul] at h2
      omega
    have hw : f.nearest s m e = f.word s (g * f.binade + k) := by
      unfold Format.nearest
      rw [if_neg hm]
      dsimp only
      rw [← hlast, ← hdrop, ← hg]
      rw [show m <<< (e - last).toNat = n by rw [Nat.shiftLeft_eq, hn], ← hk, Nat.min_eq_left (by omega)]
    obtain ⟨p1, p2⟩ := word_parts f s (g * f.binade + k) (by omega)
    have key : ∃ m' e', f.read (f.nearest s m e) = .number s m' e' ∧ f.leastPlace ≤ e' ∧ m' * 2 ^ (e' + L).toNat = k * 2 ^ (last + L).toNat := by
      rw [hw]
      unfold Format.read
      simp only [p1, p2]
      by_cases hsmall : g * f.binade + k < f.binade
      · rw [if_pos hsmall]
        have hg0 : g = 0 := by
          by_cases h : g = 0
          · exact h
          · have h1 : 1 ≤ g := by omega
            have h2 := Nat.mul_le_mul_right f.binade h1
            omega
        refine ⟨_, _, rfl, Int.le_refl _, ?_⟩
        rw [hg0, show last = f.leastPlace by omega]; simp
      · rw [if_neg hsmall, if_pos hinf]
        have hk1 : f.binade ≤ k := by
          by_cases h : f.leastPlace < last
          · exact K4 h
          · have : g = 0 := by omega
            rw [this] at hsmall; simp at hsmall; omega
        by_cases htop : k = 2 * f.binade
        · have q : (g * f.binade + k) / f.binade = g + 2 := by
            rw [htop, ← Nat.add_mul, Nat.mul_div_cancel _ hB0]
          have r : (g * f.binade + k) % f.binade = 0 := by
            rw [htop, ← Nat.add_mul, Nat.mul_mod_left]
          rw [q, r]
          refine ⟨_, _, rfl, by omega, ?_⟩
          rw [htop, Nat.add_zero, pow_split (show (f.leastPlace + ((g + 2 - 1 : Nat) : Int) + L).toNat = 1 + (last + L).toNat by omega), ← Nat.mul_assoc, Nat.mul_comm f.binade]
        · have q : (g * f.binade + k) / f.binade = g + 1 := by
            rw [Nat.add_comm, Nat.add_mul_div_right _ _ hB0, show k / f.binade = 1 by
              rw [Nat.div_eq_iff hB0]; omega]
            omega
          have r : (g * f.binade + k) % f.binade = k - f.binade := by
            rw [Nat.add_comm, Nat.add_mul_mod_self_right, Nat.mod_eq_sub_mod hk1, Nat.mod_eq_of_lt (by omega)]
          rw [q, r]
          refine ⟨_, _, rfl, by omega, ?_⟩
          rw [show f.binade + (k - f.binade) = k by omega, show f.leastPlace + ((g + 1 - 1 : Nat) : Int) = last by omega]
    obtain ⟨m', e', hr, hle, hv⟩ := key
    refine ⟨m', e', hr, hle, ?_, ?_⟩
    · rw [hv]
      have := Nat.mul_le_mul_left f.binade K2.1
      rw [Nat.mul_add] at this
      have a1 : f.binade * (2 * (k * 2 ^ (last + L).toNat)) = 2 * (f.binade * (k * 2 ^ (last + L).toNat)) := Nat.mul_left_comm _ _ _
      have a2 : f.binade * (2 * (m * 2 ^ (e + L).toNat)) = 2 * (f.binade * (m * 2 ^ (e + L).toNat)) := Nat.mul_left_comm _ _ _
      omega
    · rw [hv]
      have := Nat.mul_le_mul_left f.binade K2.2
      rw [Nat.mul_add] at this
      have a1 : f.binade * (2 * (k * 2 ^ (last + L).toNat)) = 2 * (f.binade * (k * 2 ^ (last + L).toNat)) := Nat.mul_left_comm _ _ _
      have a2 : f.binade * (2 * (m * 2 ^ (e + L).toNat)) = 2 * (f.binade * (m * 2 ^ (e + L).toNat)) := Nat.mul_left_comm _ _ _
      omega

/-! ### Words that stand for numbers, as integers: a number times 2 ^ 2200 -/
/-- The unit; something tiny; something great. -/
def un : Int := 2 ^ 2200
def tin : Nat := 2 ^ 2100
def much : Nat := 2 ^ 2300
theorem much_eq : much = 2 ^ (2200 + 100) := by decide +kernel
/-- A format with which we deal: that of 32 or that of 64 bits. -/
structure Good (f : Format) : Prop where
  lo : -1100 ≤ f.leastPlace
  hi : f.leastPlace ≤ -140
  room : f.leastPlace + (2 ^ f.exponentBits : Nat) ≥ 104 - (f.fractionBits : Int)
  four : 4 ≤ 2 ^ f.exponentBits
  tiny : f.binade * 2 ^ (f.leastPlace + 2200).toNat ≤ tin
theorem good32 : Good single := ⟨by decide, by decide, by decide, by decide, by decide +kernel⟩
theorem good64 : Good double := ⟨by decide, by decide, by decide, by decide, by decide +kernel⟩

/-- The word x stands for the number X / 2 ^ 2200. -/
def FV (f : Format) (x : Nat) (X : Int) : Prop := ∃ s m e, f.read x = .number s m e ∧ f.leastPlace ≤ e ∧ X = signed s m (e + 2200).toNat
theorem signed_pos (s : Bool) (m k : Nat) : signed s m k = if s then -((m * 2 ^ k : Nat) : Int) else ((m * 2 ^ k : Nat) : Int) := by
  unfold signed; rw [Nat.shiftLeft_eq]
theorem signed_abs (s : Bool) (m k : Nat) : (signed s m k).natAbs = m * 2 ^ k := by
  rw [signed_pos]; cases s
  · exact Int.natAbs_natCast _
  · show (-((m * 2 ^ k : Nat) : Int)).natAbs = _
    rw [Int.natAbs_neg]; exact Int.natAbs_natCast _

/-- Rounding an exact number E: what comes is off by E / (2 * binade) and something tiny at most. -/
theorem near_of {f : Format} (g : Good f) (s : Bool) (m : Nat) (e : Int) (E : Int) (he : -2200 ≤ e) (hE : E = signed s m (e + 2200).toNat) (hbig : E.natAbs < much) :
    ∃ R, FV f (f.nearest s m e) R ∧ ((2 * f.binade : Nat) * (R - E)).natAbs ≤ E.natAbs + tin := by
  have hab : E.natAbs = m * 2 ^ (e + 2200).toNat := by rw [hE, signed_abs]
  obtain ⟨m', e', hr, hle, h1, h2⟩ := nearest_err f s m e 2200 (by have := g.lo; omega) he (by rw [hab] at hbig; exact Nat.lt_of_lt_of_eq hbig much_eq) g.room g.four
  refine ⟨signed s m' (e' + 2200).toNat, ⟨s, m', e', hr, hle, rfl⟩, ?_⟩
  have ht := g.tiny
  rw [hE, signed_abs, signed_pos, signed_pos]
  have ht' : f.binade * 2 ^ (f.leastPlace + (2200 : Nat)).toNat ≤ tin := ht
  have a1 : m' * 2 ^ (e' + ((2200 : Nat) : Int)).toNat = m' * 2 ^ (e' + 2200).toNat := rfl
  have a2 : m * 2 ^ (e + ((2200 : Nat) : Int)).toNat = m * 2 ^ (e + 2200).toNat := rfl
  rw [a1, a2] at h1 h2
  generalize m' * 2 ^ (e' + 2200).toNat = R at *
  generalize m * 2 ^ (e + 2200).toNat = X at *
  generalize f.binade * 2 ^ (f.leastPlace + (2200 : Nat)).toNat = t at *
  generalize tin = T at *
  clear a1 a2 hbig hab ht hr hE
  generalize f.binade = B at *
  have key : ∀ a b : Nat, 2 * (B * a) ≤ 2 * (B * b) + (X + t) → ((2 * B : Nat) : Int) * ((a : Int) - (b : Int)) ≤ ((X + T : Nat) : Int) := by
    intro a b h
    have e1 : ((2 * B : Nat) : Int) * ((a : Int) - (b : Int)) = ((2 * (B * a) : Nat) : Int) - ((2 * (B * b) : Nat) : Int) := by
      rw [Int.mul_sub, ← Int.natCast_mul, ← Int.natCast_mul, Nat.mul_assoc, Nat.mul_assoc]
    rw [e1]; omega
  have k1 := key R X h1
  have k2 := key X R h2
  have flip : ∀ a b : Int, ((2 * B : Nat) : Int) * (a - b) = -(((2 * B : Nat) : Int) * (b - a)) := fun a b => by rw [← Int.mul_neg]; congr 1; omega
  cases s
  · simp only [Bool.false_eq_true, if_false]
    have := flip R X
    omega
  · simp only [if_true]
    rw [show -(R : Int) - -(X : Int) = (X : Int) - R by omega]
    have := flip R X
    omega

theorem signed_natAbs (z : Int) (k : Nat) : signed (decide (z < 0)) z.natAbs k = z * 2 ^ k := by
  rw [signed_pos]
  by_cases h : z < 0
  · simp only [h, decide_true, if_true]
    obtain ⟨n, rfl⟩ : ∃ n : Nat, z = -(n : Int) := ⟨z.natAbs, by omega⟩
    simp [Int.neg_mul]
  · simp only [h, decide_false, Bool.false_eq_true, if_false]
    obtain ⟨n, rfl⟩ : ∃ n : Nat, z = (n : Int) := ⟨z.natAbs, by omega⟩
    simp
theorem signed_shift (s : Bool) (m a b : Nat) : signed s m (a + b) = signed s m a * 2 ^ b := by
  rw [signed_pos, signed_pos, Nat.pow_add, ← Nat.mul_assoc]
  cases s
  · simp
  · simp [Int.neg_mul]
theorem signed_mul (s t : Bool) (m n a b : Nat) : signed s m a * signed t n b = signed (s ^^ t) (m * n) (a + b) := by
  rw [signed_pos, signed_pos, signed_pos]
  have e : ((m * n * 2 ^ (a + b) : Nat) : Int) = ((m * 2 ^ a : Nat) : Int) * ((n * 2 ^ b : Nat) : Int) := by
    rw [← Int.natCast_mul]; congr 1; rw [Nat.pow_add, Nat.mul_mul_mul_comm]
  rw [e]
  cases s <;> cases t <;> simp [Int.neg_mul, Int.mul_neg]

theorem add_near {f : Format} (g : Good f) {x y : Nat} {X Y : Int} (hx : FV f x X) (hy : FV f y Y) (hbig : (X + Y).natAbs < much) :
    ∃ r R, f.add x y = some r ∧ FV f r R ∧ ((2 * f.binade : Nat) * (R - (X + Y))).natAbs ≤ (X + Y).natAbs + tin := by
  obtain ⟨s, m, i, hrx, hix, rfl⟩ := hx
  obtain ⟨t, n, j, hry, hjy, rfl⟩ := hy
  have lo := g.lo
  unfold Format.add
  rw [hrx, hry]
  simp only [Datum.sum, Option.map_some, Format.write]
  obtain ⟨tot, htot⟩ : ∃ tot, tot = signed s m (i - min i j).toNat + signed t n (j - min i j).toNat := ⟨_, rfl⟩
  have hsum : signed s m (i + 2200).toNat + signed t n (j + 2200).toNat = tot * 2 ^ (min i j + 2200).toNat := by
    rw [htot, Int.add_mul, ← signed_shift, ← signed_shift]
    congr 2 <;> omega
  rw [← htot]
  obtain ⟨sg, hsg⟩ : ∃ sg : Bool, sg = (if tot = 0 then s && t else decide (tot < 0)) := ⟨_, rfl⟩
  have hE : signed s m (i + 2200).toNat + signed t n (j + 2200).toNat = signed sg tot.natAbs (min i j + 2200).toNat := by
    rw [hsum]
    by_cases h0 : tot = 0
    · rw [h0, signed_pos]; cases sg <;> simp
    · rw [hsg, if_neg h0, signed_natAbs]
  obtain ⟨R, hR, hn⟩ := near_of g sg tot.natAbs (min i j) _ (by omega) hE hbig
  rw [← hsg]
  exact ⟨_, R, rfl, hR, hn⟩

theorem mul_near {f : Format} (g : Good f) {x y : Nat} {X Y E : Int} (hx : FV f x X) (hy : FV f y Y) (hE : X * Y = E * un) (hbig : E.natAbs < much) :
    ∃ r R, f.mul x y = some r ∧ FV f r R ∧ ((2 * f.binade : Nat) * (R - E)).natAbs ≤ E.natAbs + tin := by
  obtain ⟨s, m, i, hrx, hix, rfl⟩ := hx
  obtain ⟨t, n, j, hry, hjy, rfl⟩ := hy
  have lo := g.lo
  unfold Format.mul
  rw [hrx, hry]
  simp only [Datum.product, Option.map_some, Format.write]
  have hv : E = signed (s ^^ t) (m * n) (i + j + 2200).toNat := by
    have h2 : (i + 2200).toNat + (j + 2200).toNat = (i + j + 2200).toNat + 2200 := by omega
    rw [signed_mul, h2, signed_shift] at hE
    exact (Int.eq_of_mul_eq_mul_right (by decide +kernel) hE).symm
  obtain ⟨R, hR, hn⟩ := near_of g (s ^^ t) (m * n) (i + j) _ (by omega) hv hbig
  exact ⟨_, R, rfl, hR, hn⟩
end Go.Proofs.YtppfldobgemddaaDoor
