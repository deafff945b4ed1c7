/-
  The contracts of math.Abs, math.IsNaN and math.IsInf at numbers that are not negative; The contracts of math.Cos and math.Sin at words for which the function of Co tells a number; The contracts of math.Cos and math.Sin, joined.
-/
import Derived.Test.YtppfldobgemddaaDoorRows
import Derived.Test.YtppfldobgemddaaDoorMb
import Derived.Laws.Externs
namespace Go.Proofs.YtppfldobgemddaaDoor
open Go.RowKit
set_option linter.unusedVariables false

theorem call85 (b : Nat) (w : World) : (callFunc 85 #[.float .f64 b]).run Tryd.prog w = .ok (.value (.int .u64 b)) w := by
  rw [run_callFunc_extern (e := Extern.MathFloatBits.float64bits) Tryd.func85 (by kernel_rfl) (by kernel_rfl) (by kernel_rfl) (by kernel_rfl)]; rfl
theorem call84 (b : Nat) (w : World) : (callFunc 84 #[.int .u64 b]).run Tryd.prog w = .ok (.value (.float .f64 b)) w := by
  rw [run_callFunc_extern (e := Extern.MathFloatBits.float64frombits) Tryd.func84 (by kernel_rfl) (by kernel_rfl) (by kernel_rfl) (by kernel_rfl)]; rfl

theorem andNot_top (b : Nat) (h : b < 2 ^ 63) : bits .andNot .u64 (b : Int) 9223372036854775808 = b := by
  show IntKind.u64.wrap ((BitVec.ofInt 64 (b : Int) &&& ~~~ BitVec.ofInt 64 9223372036854775808).toNat : Nat) = b
  have e : BitVec.ofInt 64 (b : Int) &&& ~~~ BitVec.ofInt 64 9223372036854775808 = BitVec.ofInt 64 (b : Int) := by
    apply BitVec.eq_of_toNat_eq
    have hm : (~~~ BitVec.ofInt 64 9223372036854775808).toNat = 2 ^ 63 - 1 := by decide +kernel
    rw [BitVec.toNat_and, hm, Nat.and_two_pow_sub_one_eq_mod, BitVec.ofInt_natCast, BitVec.toNat_ofNat]
    omega
  rw [e, BitVec.ofInt_natCast, BitVec.toNat_ofNat, Nat.mod_eq_of_lt (by omega)]
  exact IntWalk.u64_in _ (by omega)

set_option maxHeartbeats 400000 in
theorem abs_any (b : Nat) (h : b < 2 ^ 63) (w : World) :
    Calls Tryd.prog 72 #[.float .f64 b] w fun e w' => e = .returned (.float .f64 b) ∧ w = w' := by
  have h1 := call85 b
  have h2 := call84 b
  have h3 := andNot_top b h
  go_enter Tryd.func72, Tryd.ntmps72
  go_wp2_with fail
  go_ret
  exact ⟨rfl, rfl⟩
set_option maxHeartbeats 400000 in
theorem isNaN_no (b : Nat) (h : FloatKind.f64.format.order b b = some .eq) (w : World) :
    Calls Tryd.prog 69 #[.float .f64 b] w fun e w' => e = .returned (.bool false) ∧ w = w' := by
  go_enter Tryd.func69, Tryd.ntmps69
  go_wp2_with fail
  go_ret
  exact ⟨rfl, rfl⟩
set_option maxHeartbeats 400000 in
theorem isInf_no (b : Nat) (hb : b < 2 ^ 63) (h : FloatKind.f64.format.order b 9218868437227405311 = some .lt) (w : World) :
    Calls Tryd.prog 70 #[.float .f64 b, .int .i64 0] w fun e w' => e = .returned (.bool false) ∧ w = w' := by
  go_enter Tryd.func70, Tryd.ntmps70
  go_wp2_with (go_at_call 72; refine (abs_any _ hb _).mono ?_; rintro e w' ⟨rfl, rfl⟩)
  go_ret
  exact ⟨rfl, rfl⟩
end Go.Proofs.YtppfldobgemddaaDoor
namespace Go.Proofs.YtppfldobgemddaaDoor
open Go.RowKit
set_option linter.unusedVariables false

/-- The two tables of math lie in the world. -/
structure Tabs (w : World) : Prop where
  s0 : w.cell? ⟨3, 0, none⟩ = some (.float .f64 4460209587652500685)
  s1 : w.cell? ⟨3, 1, none⟩ = some (.float .f64 13716528389658582877)
  s2 : w.cell? ⟨3, 2, none⟩ = some (.float .f64 4523617212962785441)
  s3 : w.cell? ⟨3, 3, none⟩ = some (.float .f64 13774824197404483331)
  s4 : w.cell? ⟨3, 4, none⟩ = some (.float .f64 4575957461383575504)
  s5 : w.cell? ⟨3, 5, none⟩ = some (.float .f64 13818544856648471880)
  c0 : w.cell? ⟨4, 0, none⟩ = some (.float .f64 13666448263388469915)
  c1 : w.cell? ⟨4, 1, none⟩ = some (.float .f64 4477121864728985349)
  c2 : w.cell? ⟨4, 2, none⟩ = some (.float .f64 13732177093698800582)
  c3 : w.cell? ⟨4, 3, none⟩ = some (.float .f64 4537941361668146421)
  c4 : w.cell? ⟨4, 4, none⟩ = some (.float .f64 13787419979223748497)
  c5 : w.cell? ⟨4, 5, none⟩ = some (.float .f64 4586165620538955083)

theorem opmul {x y r : Nat} (h : fmul x y = some r) (t : TypeId) (w : World) : (binOp .mul t (.float .f64 x) (.float .f64 y)).run Tryd.prog w = .ok (.float .f64 r) w := run_float_arith w .mul t .f64 x y r h
theorem opadd {x y r : Nat} (h : fadd x y = some r) (t : TypeId) (w : World) : (binOp .add t (.float .f64 x) (.float .f64 y)).run Tryd.prog w = .ok (.float .f64 r) w := run_float_arith w .add t .f64 x y r h
theorem opsub {x y r : Nat} (h : fsub x y = some r) (t : TypeId) (w : World) : (binOp .sub t (.float .f64 x) (.float .f64 y)).run Tryd.prog w = .ok (.float .f64 r) w := run_float_arith w .sub t .f64 x y r h
theorem opneg (x : Nat) (w : World) : (Op.unary .neg (.float .f64 x)).run Tryd.prog w = .ok (.float .f64 (fneg x)) w := rfl
theorem toU {t : Nat} {k : Int} (h : floatToIntVal .f64 t .u64 = some k) (w : World) : (convert 70 166 (.float .f64 t)).run Tryd.prog w = .ok (.int .u64 k) w :=
  run_convert_float_int w 70 166 .f64 .u64 t k (by kernel_rfl) Tryd.underlying166 h
theorem u64_and1 (k : Nat) (h : k ≤ 300) : bits .and .u64 (k : Int) 1 = (k % 2 : Nat) := by
  have key : ∀ k : Fin 301, bits .and .u64 (k.val : Int) 1 = (k.val % 2 : Nat) := by decide +kernel
  exact key ⟨k, by omega⟩
theorem u64_and7 (k : Nat) (h : k ≤ 300) : bits .and .u64 (k : Int) 7 = (k % 8 : Nat) := by
  have key : ∀ k : Fin 301, bits .and .u64 (k.val : Int) 7 = (k.val % 8 : Nat) := by decide +kernel
  exact key ⟨k, by omega⟩

/-! ### The walks -/
set_option maxRecDepth 100000 in
set_option maxHeartbeats 1000000 in
theorem cos_1_0 (x t k z s y : Nat) (w : World) (hT : Tabs w) (ht : tame x = true) (r1 : fmul x 4608412980311869571 = some t) (r2 : floatToIntVal .f64 t .u64 = some (k : Int)) (hj : k ≤ 200) (r3 : fadd (floatOfInt .f64 k) 4607182418800017408 = some y) (hk : k % 2 = 1) (h8 : (k + 1) % 8 = 0) (hrest : RestAt x y z) (hw : CAt z s) :
    Calls Tryd.prog 53 #[.float .f64 x] w fun e w' => e = .returned (.float .f64 s) ∧ w = w' := by
  obtain ⟨t1, t2, t3, t4, t5⟩ := tame_at ht
  obtain ⟨q1, q2, q3, q4, q5, q6, p1, p2, p3, p4, p5, p6⟩ := hT
  have e1 := opmul r1
  have e2 := toU r2
  have e3 := opadd r3
  obtain ⟨a, b, c, d, e, u1, u2, u3, u4, u5, u6⟩ := hrest.ex
  have e4 := opmul u1
  have e5 := opsub u2
  have e6 := opmul u3
  have e7 := opsub u4
  have e8 := opmul u5
  have e9 := opsub u6
  clear u1 u2 u3 u4 u5 u6 hrest r1 r2 ht r3
  have n1 := u64_and1 k (by omega)
  rw [hk] at n1
  have n2 := u64_and7 (k + 1) (by omega)
  rw [h8] at n2
  clear h8 hk
  have n3 : ((k + 1 : Nat) : Int) = (k : Int) + 1 := by omega
  rw [n3] at n2
  clear n3
  obtain ⟨zz, A, A2, A3, B, C, v1, v2, v3, v4, v5, v6, v7⟩ := hw.ex
  obtain ⟨b1, b2, b3, b4, b5, b6, b7, b8, b9, w1, w2, w3, w4, w5, w6, w7, w8, w9, w10⟩ := v5.ex
  have f1 := opmul w1
  have f2 := opadd w2
  have f3 := opmul w3
  have f4 := opadd w4
  have f5 := opmul w5
  have f6 := opadd w6
  have f7 := opmul w7
  have f8 := opadd w8
  have f9 := opmul w9
  have f10 := opadd w10
  have g1 := opmul v1
  have g2 := opmul v2
  have g3 := opsub v3
  have g4 := opmul v4
  have g5 := opmul v6
  have g6 := opadd v7
  clear w1 w2 w3 w4 w5 w6 w7 w8 w9 w10 v1 v2 v3 v4 v6 v7 v5 hw
  go_enter Tryd.func53, Tryd.ntmps53
  go_wp2_with (first | (go_at_call 69; refine (isNaN_no _ t2 _).mono ?_; rintro e w' ⟨rfl, rfl⟩) | (go_at_call 70; refine (isInf_no _ t1 t3 _).mono ?_; rintro e w' ⟨rfl, rfl⟩) | (go_at_call 72; refine (abs_any _ t1 _).mono ?_; rintro e w' ⟨rfl, rfl⟩))
  go_ret
  exact ⟨rfl, rfl⟩
set_option maxRecDepth 100000 in
set_option maxHeartbeats 1000000 in
theorem cos_1_2 (x t k z s y : Nat) (w : World) (hT : Tabs w) (ht : tame x = true) (r1 : fmul x 4608412980311869571 = some t) (r2 : floatToIntVal .f64 t .u64 = some (k : Int)) (hj : k ≤ 200) (r3 : fadd (floatOfInt .f64 k) 4607182418800017408 = some y) (hk : k % 2 = 1) (h8 : (k + 1) % 8 = 2) (hrest : RestAt x y z) (hw : SAt z s) :
    Calls Tryd.prog 53 #[.float .f64 x] w fun e w' => e = .returned (.float .f64 (fneg s)) ∧ w = w' := by
  obtain ⟨t1, t2, t3, t4, t5⟩ := tame_at ht
  obtain ⟨q1, q2, q3, q4, q5, q6, p1, p2, p3, p4, p5, p6⟩ := hT
  have e1 := opmul r1
  have e2 := toU r2
  have e3 := opadd r3
  obtain ⟨a, b, c, d, e, u1, u2, u3, u4, u5, u6⟩ := hrest.ex
  have e4 := opmul u1
  have e5 := opsub u2
  have e6 := opmul u3
  have e7 := opsub u4
  have e8 := opmul u5
  have e9 := opsub u6
  clear u1 u2 u3 u4 u5 u6 hrest r1 r2 ht r3
  have n1 := u64_and1 k (by omega)
  rw [hk] at n1
  have n2 := u64_and7 (k + 1) (by omega)
  rw [h8] at n2
  clear h8 hk
  have n3 : ((k + 1 : Nat) : Int) = (k : Int) + 1 := by omega
  rw [n3] at n2
  clear n3
  obtain ⟨zz, A, B, C, v1, v2, v3, v4, v5⟩ := hw.ex
  obtain ⟨b1, b2, b3, b4, b5, b6, b7, b8, b9, w1, w2, w3, w4, w5, w6, w7, w8, w9, w10⟩ := v3.ex
  have f1 := opmul w1
  have f2 := opadd w2
  have f3 := opmul w3
  have f4 := opadd w4
  have f5 := opmul w5
  have f6 := opadd w6
  have f7 := opmul w7
  have f8 := opadd w8
  have f9 := opmul w9
  have f10 := opadd w10
  have g1 := opmul v1
  have g2 := opmul v2
  have g3 := opmul v4
  have g4 := opadd v5
  clear w1 w2 w3 w4 w5 w6 w7 w8 w9 w10 v1 v2 v4 v5 v3 hw
  have hn := opneg s
  go_enter Tryd.func53, Tryd.ntmps53
  go_wp2_with (first | (go_at_call 69; refine (isNaN_no _ t2 _).mono ?_; rintro e w' ⟨rfl, rfl⟩) | (go_at_call 70; refine (isInf_no _ t1 t3 _).mono ?_; rintro e w' ⟨rfl, rfl⟩) | (go_at_call 72; refine (abs_any _ t1 _).mono ?_; rintro e w' ⟨rfl, rfl⟩))
  go_ret
  exact ⟨rfl, rfl⟩
set_option maxRecDepth 100000 in
set_option maxHeartbeats 1000000 in
theorem cos_1_4 (x t k z s y : Nat) (w : World) (hT : Tabs w) (ht : tame x = true) (r1 : fmul x 4608412980311869571 = some t) (r2 : floatToIntVal .f64 t .u64 = some (k : Int)) (hj : k ≤ 200) (r3 : fadd (floatOfInt .f64 k) 4607182418800017408 = some y) (hk : k % 2 = 1) (h8 : (k + 1) % 8 = 4) (hrest : RestAt x y z) (hw : CAt z s) :
    Calls Tryd.prog 53 #[.float .f64 x] w fun e w' => e = .returned (.float .f64 (fneg s)) ∧ w = w' := by
  obtain ⟨t1, t2, t3, t4, t5⟩ := tame_at ht
  obtain ⟨q1, q2, q3, q4, q5, q6, p1, p2, p3, p4, p5, p6⟩ := hT
  have e1 := opmul r1
  have e2 := toU r2
  have e3 := opadd r3
  obtain ⟨a, b, c, d, e, u1, u2, u3, u4, u5, u6⟩ := hrest.ex
  have e4 := opmul u1
  have e5 := opsub u2
  have e6 := opmul u3
  have e7 := opsub u4
  have e8 := opmul u5
  have e9 := opsub u6
  clear u1 u2 u3 u4 u5 u6 hrest r1 r2 ht r3
  have n1 := u64_and1 k (by omega)
  rw [hk] at n1
  have n2 := u64_and7 (k + 1) (by omega)
  rw [h8] at n2
  clear h8 hk
  have n3 : ((k + 1 : Nat) : Int) = (k : Int) + 1 := by omega
  rw [n3] at n2
  clear n3
  obtain ⟨zz, A, A2, A3, B, C, v1, v2, v3, v4, v5, v6, v7⟩ := hw.ex
  obtain ⟨b1, b2, b3, b4, b5, b6, b7, b8, b9, w1, w2, w3, w4, w5, w6, w7, w8, w9, w10⟩ := v5.ex
  have f1 := opmul w1
  have f2 := opadd w2
  have f3 := opmul w3
  have f4 := opadd w4
  have f5 := opmul w5
  have f6 := opadd w6
  have f7 := opmul w7
  have f8 := opadd w8
  have f9 := opmul w9
  have f10 := opadd w10
  have g1 := opmul v1
  have g2 := opmul v2
  have g3 := opsub v3
  have g4 := opmul v4
  have g5 := opmul v6
  have g6 := opadd v7
  clear w1 w2 w3 w4 w5 w6 w7 w8 w9 w10 v1 v2 v3 v4 v6 v7 v5 hw
  have hn := opneg s
  go_enter Tryd.func53, Tryd.ntmps53
  go_wp2_with (first | (go_at_call 69; refine (isNaN_no _ t2 _).mono ?_; rintro e w' ⟨rfl, rfl⟩) | (go_at_call 70; refine (isInf_no _ t1 t3 _).mono ?_; rintro e w' ⟨rfl, rfl⟩) | (go_at_call 72; refine (abs_any _ t1 _).mono ?_; rintro e w' ⟨rfl, rfl⟩))
  go_ret
  exact ⟨rfl, rfl⟩
set_option maxRecDepth 100000 in
set_option maxHeartbeats 1000000 in
theorem cos_1_6 (x t k z s y : Nat) (w : World) (hT : Tabs w) (ht : tame x = true) (r1 : fmul x 4608412980311869571 = some t) (r2 : floatToIntVal .f64 t .u64 = some (k : Int)) (hj : k ≤ 200) (r3 : fadd (floatOfInt .f64 k) 4607182418800017408 = some y) (hk : k % 2 = 1) (h8 : (k + 1) % 8 = 6) (hrest : RestAt x y z) (hw : SAt z s) :
    Calls Tryd.prog 53 #[.float .f64 x] w fun e w' => e = .returned (.float .f64 s) ∧ w = w' := by
  obtain ⟨t1, t2, t3, t4, t5⟩ := tame_at ht
  obtain ⟨q1, q2, q3, q4, q5, q6, p1, p2, p3, p4, p5, p6⟩ := hT
  have e1 := opmul r1
  have e2 := toU r2
  have e3 := opadd r3
  obtain ⟨a, b, c, d, e, u1, u2, u3, u4, u5, u6⟩ := hrest.ex
  have e4 := opmul u1
  have e5 := opsub u2
  have e6 := opmul u3
  have e7 := opsub u4
  have e8 := opmul u5
  have e9 := opsub u6
  clear u1 u2 u3 u4 u5 u6 hrest r1 r2 ht r3
  have n1 := u64_and1 k (by omega)
  rw [hk] at n1
  have n2 := u64_and7 (k + 1) (by omega)
  rw [h8] at n2
  clear h8 hk
  have n3 : ((k + 1 : Nat) : Int) = (k : Int) + 1 := by omega
  rw [n3] at n2
  clear n3
  obtain ⟨zz, A, B, C, v1, v2, v3, v4, v5⟩ := hw.ex
  obtain ⟨b1, b2, b3, b4, b5, b6, b7, b8, b9, w1, w2, w3, w4, w5, w6, w7, w8, w9, w10⟩ := v3.ex
  have f1 := opmul w1
  have f2 := opadd w2
  have f3 := opmul w3
  have f4 := opadd w4
  have f5 := opmul w5
  have f6 := opadd w6
  have f7 := opmul w7
  have f8 := opadd w8
  have f9 := opmul w9
  have f10 := opadd w10
  have g1 := opmul v1
  have g2 := opmul v2
  have g3 := opmul v4
  have g4 := opadd v5
  clear w1 w2 w3 w4 w5 w6 w7 w8 w9 w10 v1 v2 v4 v5 v3 hw
  go_enter Tryd.func53, Tryd.ntmps53
  go_wp2_with (first | (go_at_call 69; refine (isNaN_no _ t2 _).mono ?_; rintro e w' ⟨rfl, rfl⟩) | (go_at_call 70; refine (isInf_no _ t1 t3 _).mono ?_; rintro e w' ⟨rfl, rfl⟩) | (go_at_call 72; refine (abs_any _ t1 _).mono ?_; rintro e w' ⟨rfl, rfl⟩))
  go_ret
  exact ⟨rfl, rfl⟩
set_option maxRecDepth 100000 in
set_option maxHeartbeats 1000000 in
theorem cos_0_0 (x t k z s : Nat) (w : World) (hT : Tabs w) (ht : tame x = true) (r1 : fmul x 4608412980311869571 = some t) (r2 : floatToIntVal .f64 t .u64 = some (k : Int)) (hj : k ≤ 200) (hk : k % 2 = 0) (h8 : (k) % 8 = 0) (hrest : RestAt x (floatOfInt .f64 k) z) (hw : CAt z s) :
    Calls Tryd.prog 53 #[.float .f64 x] w fun e w' => e = .returned (.float .f64 s) ∧ w = w' := by
  obtain ⟨t1, t2, t3, t4, t5⟩ := tame_at ht
  obtain ⟨q1, q2, q3, q4, q5, q6, p1, p2, p3, p4, p5, p6⟩ := hT
  have e1 := opmul r1
  have e2 := toU r2
  obtain ⟨a, b, c, d, e, u1, u2, u3, u4, u5, u6⟩ := hrest.ex
  have e4 := opmul u1
  have e5 := opsub u2
  have e6 := opmul u3
  have e7 := opsub u4
  have e8 := opmul u5
  have e9 := opsub u6
  clear u1 u2 u3 u4 u5 u6 hrest r1 r2 ht
  have n1 := u64_and1 k (by omega)
  rw [hk] at n1
  have n2 := u64_and7 k (by omega)
  rw [h8] at n2
  clear h8 hk
  obtain ⟨zz, A, A2, A3, B, C, v1, v2, v3, v4, v5, v6, v7⟩ := hw.ex
  obtain ⟨b1, b2, b3, b4, b5, b6, b7, b8, b9, w1, w2, w3, w4, w5, w6, w7, w8, w9, w10⟩ := v5.ex
  have f1 := opmul w1
  have f2 := opadd w2
  have f3 := opmul w3
  have f4 := opadd w4
  have f5 := opmul w5
  have f6 := opadd w6
  have f7 := opmul w7
  have f8 := opadd w8
  have f9 := opmul w9
  have f10 := opadd w10
  have g1 := opmul v1
  have g2 := opmul v2
  have g3 := opsub v3
  have g4 := opmul v4
  have g5 := opmul v6
  have g6 := opadd v7
  clear w1 w2 w3 w4 w5 w6 w7 w8 w9 w10 v1 v2 v3 v4 v6 v7 v5 hw
  go_enter Tryd.func53, Tryd.ntmps53
  go_wp2_with (first | (go_at_call 69; refine (isNaN_no _ t2 _).mono ?_; rintro e w' ⟨rfl, rfl⟩) | (go_at_call 70; refine (isInf_no _ t1 t3 _).mono ?_; rintro e w' ⟨rfl, rfl⟩) | (go_at_call 72; refine (abs_any _ t1 _).mono ?_; rintro e w' ⟨rfl, rfl⟩))
  go_ret
  exact ⟨rfl, rfl⟩
set_option maxRecDepth 100000 in
set_option maxHeartbeats 1000000 in
theorem cos_0_2 (x t k z s : Nat) (w : World) (hT : Tabs w) (ht : tame x = true) (r1 : fmul x 4608412980311869571 = some t) (r2 : floatToIntVal .f64 t .u64 = some (k : Int)) (hj : k ≤ 200) (hk : k % 2 = 0) (h8 : (k) % 8 = 2) (hrest : RestAt x (floatOfInt .f64 k) z) (hw : SAt z s) :
    Calls Tryd.prog 53 #[.float .f64 x] w fun e w' => e = .returned (.float .f64 (fneg s)) ∧ w = w' := by
  obtain ⟨t1, t2, t3, t4, t5⟩ := tame_at ht
  obtain ⟨q1, q2, q3, q4, q5, q6, p1, p2, p3, p4, p5, p6⟩ := hT
  have e1 := opmul r1
  have e2 := toU r2
  obtain ⟨a, b, c, d, e, u1, u2, u3, u4, u5, u6⟩ := hrest.ex
  have e4 := opmul u1
  have e5 := opsub u2
  have e6 := opmul u3
  have e7 := opsub u4
  have e8 := opmul u5
  have e9 := opsub u6
  clear u1 u2 u3 u4 u5 u6 hrest r1 r2 ht
  have n1 := u64_and1 k (by omega)
  rw [hk] at n1
  have n2 := u64_and7 k (by omega)
  rw [h8] at n2
  clear h8 hk
  obtain ⟨zz, A, B, C, v1, v2, v3, v4, v5⟩ := hw.ex
  obtain ⟨b1, b2, b3, b4, b5, b6, b7, b8, b9, w1, w2, w3, w4, w5, w6, w7, w8, w9, w10⟩ := v3.ex
  have f1 := opmul w1
  have f2 := opadd w2
  have f3 := opmul w3
  have f4 := opadd w4
  have f5 := opmul w5
  have f6 := opadd w6
  have f7 := opmul w7
  have f8 := opadd w8
  have f9 := opmul w9
  have f10 := opadd w10
  have g1 := opmul v1
  have g2 := opmul v2
  have g3 := opmul v4
  have g4 := opadd v5
  clear w1 w2 w3 w4 w5 w6 w7 w8 w9 w10 v1 v2 v4 v5 v3 hw
  have hn := opneg s
  go_enter Tryd.func53, Tryd.ntmps53
  go_wp2_with (first | (go_at_call 69; refine (isNaN_no _ t2 _).mono ?_; rintro e w' ⟨rfl, rfl⟩) | (go_at_call 70; refine (isInf_no _ t1 t3 _).mono ?_; rintro e w' ⟨rfl, rfl⟩) | (go_at_call 72; refine (abs_any _ t1 _).mono ?_; rintro e w' ⟨rfl, rfl⟩))
  go_ret
  exact ⟨rfl, rfl⟩
set_option maxRecDepth 100000 in
set_option maxHeartbeats 1000000 in
theorem cos_0_4 (x t k z s : Nat) (w : World) (hT : Tabs w) (ht : tame x = true) (r1 : fmul x 4608412980311869571 = some t) (r2 : floatToIntVal .f64 t .u64 = some (k : Int)) (hj : k ≤ 200) (hk : k % 2 = 0) (h8 : (k) % 8 = 4) (hrest : RestAt x (floatOfInt .f64 k) z) (hw : CAt z s) :
    Calls Tryd.prog 53 #[.float .f64 x] w fun e w' => e = .returned (.float .f64 (fneg s)) ∧ w = w' := by
  obtain ⟨t1, t2, t3, t4, t5⟩ := tame_at ht
  obtain ⟨q1, q2, q3, q4, q5, q6, p1, p2, p3, p4, p5, p6⟩ := hT
  have e1 := opmul r1
  have e2 := toU r2
  obtain ⟨a, b, c, d, e, u1, u2, u3, u4, u5, u6⟩ := hrest.ex
  have e4 := opmul u1
  have e5 := opsub u2
  have e6 := opmul u3
  have e7 := opsub u4
  have e8 := opmul u5
  have e9 := opsub u6
  clear u1 u2 u3 u4 u5 u6 hrest r1 r2 ht
  have n1 := u64_and1 k (by omega)
  rw [hk] at n1
  have n2 := u64_and7 k (by omega)
  rw [h8] at n2
  clear h8 hk
  obtain ⟨zz, A, A2, A3, B, C, v1, v2, v3, v4, v5, v6, v7⟩ := hw.ex
  obtain ⟨b1, b2, b3, b4, b5, b6, b7, b8, b9, w1, w2, w3, w4, w5, w6, w7, w8, w9, w10⟩ := v5.ex
  have f1 := opmul w1
  have f2 := opadd w2
  have f3 := opmul w3
  have f4 := opadd w4
  have f5 := opmul w5
  have f6 := opadd w6
  have f7 := opmul w7
  have f8 := opadd w8
  have f9 := opmul w9
  have f10 := opadd w10
  have g1 := opmul v1
  have g2 := opmul v2
  have g3 := opsub v3
  have g4 := opmul v4
  have g5 := opmul v6
  have g6 := opadd v7
  clear w1 w2 w3 w4 w5 w6 w7 w8 w9 w10 v1 v2 v3 v4 v6 v7 v5 hw
  have hn := opneg s
  go_enter Tryd.func53, Tryd.ntmps53
  go_wp2_with (first | (go_at_call 69; refine (isNaN_no _ t2 _).mono ?_; rintro e w' ⟨rfl, rfl⟩) | (go_at_call 70; refine (isInf_no _ t1 t3 _).mono ?_; rintro e w' ⟨rfl, rfl⟩) | (go_at_call 72; refine (abs_any _ t1 _).mono ?_; rintro e w' ⟨rfl, rfl⟩))
  go_ret
  exact ⟨rfl, rfl⟩
set_option maxRecDepth 100000 in
set_option maxHeartbeats 1000000 in
theorem cos_0_6 (x t k z s : Nat) (w : World) (hT : Tabs w) (ht : tame x = true) (r1 : fmul x 4608412980311869571 = some t) (r2 : floatToIntVal .f64 t .u64 = some (k : Int)) (hj : k ≤ 200) (hk : k % 2 = 0) (h8 : (k) % 8 = 6) (hrest : RestAt x (floatOfInt .f64 k) z) (hw : SAt z s) :
    Calls Tryd.prog 53 #[.float .f64 x] w fun e w' => e = .returned (.float .f64 s) ∧ w = w' := by
  obtain ⟨t1, t2, t3, t4, t5⟩ := tame_at ht
  obtain ⟨q1, q2, q3, q4, q5, q6, p1, p2, p3, p4, p5, p6⟩ := hT
  have e1 := opmul r1
  have e2 := toU r2
  obtain ⟨a, b, c, d, e, u1, u2, u3, u4, u5, u6⟩ := hrest.ex
  have e4 := opmul u1
  have e5 := opsub u2
  have e6 := opmul u3
  have e7 := opsub u4
  have e8 := opmul u5
  have e9 := opsub u6
  clear u1 u2 u3 u4 u5 u6 hrest r1 r2 ht
  have n1 := u64_and1 k (by omega)
  rw [hk] at n1
  have n2 := u64_and7 k (by omega)
  rw [h8] at n2
  clear h8 hk
  obtain ⟨zz, A, B, C, v1, v2, v3, v4, v5⟩ := hw.ex
  obtain ⟨b1, b2, b3, b4, b5, b6, b7, b8, b9, w1, w2, w3, w4, w5, w6, w7, w8, w9, w10⟩ := v3.ex
  have f1 := opmul w1
  have f2 := opadd w2
  have f3 := opmul w3
  have f4 := opadd w4
  have f5 := opmul w5
  have f6 := opadd w6
  have f7 := opmul w7
  have f8 := opadd w8
  have f9 := opmul w9
  have f10 := opadd w10
  have g1 := opmul v1
  have g2 := opmul v2
  have g3 := opmul v4
  have g4 := opadd v5
  clear w1 w2 w3 w4 w5 w6 w7 w8 w9 w10 v1 v2 v4 v5 v3 hw
  go_enter Tryd.func53, Tryd.ntmps53
  go_wp2_with (first | (go_at_call 69; refine (isNaN_no _ t2 _).mono ?_; rintro e w' ⟨rfl, rfl⟩) | (go_at_call 70; refine (isInf_no _ t1 t3 _).mono ?_; rintro e w' ⟨rfl, rfl⟩) | (go_at_call 72; refine (abs_any _ t1 _).mono ?_; rintro e w' ⟨rfl, rfl⟩))
  go_ret
  exact ⟨rfl, rfl⟩
set_option maxRecDepth 100000 in
set_option maxHeartbeats 1000000 in
theorem sin_1_0 (x t k z s y : Nat) (w : World) (hT : Tabs w) (ht : tame x = true) (r1 : fmul x 4608412980311869571 = some t) (r2 : floatToIntVal .f64 t .u64 = some (k : Int)) (hj : k ≤ 200) (r3 : fadd (floatOfInt .f64 k) 4607182418800017408 = some y) (hk : k % 2 = 1) (h8 : (k + 1) % 8 = 0) (hrest : RestAt x y z) (hw : SAt z s) :
    Calls Tryd.prog 75 #[.float .f64 x] w fun e w' => e = .returned (.float .f64 s) ∧ w = w' := by
  obtain ⟨t1, t2, t3, t4, t5⟩ := tame_at ht
  obtain ⟨q1, q2, q3, q4, q5, q6, p1, p2, p3, p4, p5, p6⟩ := hT
  have e1 := opmul r1
  have e2 := toU r2
  have e3 := opadd r3
  obtain ⟨a, b, c, d, e, u1, u2, u3, u4, u5, u6⟩ := hrest.ex
  have e4 := opmul u1
  have e5 := opsub u2
  have e6 := opmul u3
  have e7 := opsub u4
  have e8 := opmul u5
  have e9 := opsub u6
  clear u1 u2 u3 u4 u5 u6 hrest r1 r2 ht r3
  have n1 := u64_and1 k (by omega)
  rw [hk] at n1
  have n2 := u64_and7 (k + 1) (by omega)
  rw [h8] at n2
  clear h8 hk
  have n3 : ((k + 1 : Nat) : Int) = (k : Int) + 1 := by omega
  rw [n3] at n2
  clear n3
  obtain ⟨zz, A, B, C, v1, v2, v3, v4, v5⟩ := hw.ex
  obtain ⟨b1, b2, b3, b4, b5, b6, b7, b8, b9, w1, w2, w3, w4, w5, w6, w7, w8, w9, w10⟩ := v3.ex
  have f1 := opmul w1
  have f2 := opadd w2
  have f3 := opmul w3
  have f4 := opadd w4
  have f5 := opmul w5
  have f6 := opadd w6
  have f7 := opmul w7
  have f8 := opadd w8
  have f9 := opmul w9
  have f10 := opadd w10
  have g1 := opmul v1
  have g2 := opmul v2
  have g3 := opmul v4
  have g4 := opadd v5
  clear w1 w2 w3 w4 w5 w6 w7 w8 w9 w10 v1 v2 v4 v5 v3 hw
  go_enter Tryd.func75, Tryd.ntmps75
  go_wp2_with (first | (go_at_call 69; refine (isNaN_no _ t2 _).mono ?_; rintro e w' ⟨rfl, rfl⟩) | (go_at_call 70; refine (isInf_no _ t1 t3 _).mono ?_; rintro e w' ⟨rfl, rfl⟩))
  go_ret
  exact ⟨rfl, rfl⟩
set_option maxRecDepth 100000 in
set_option maxHeartbeats 1000000 in
theorem sin_1_2 (x t k z s y : Nat) (w : World) (hT : Tabs w) (ht : tame x = true) (r1 : fmul x 4608412980311869571 = some t) (r2 : floatToIntVal .f64 t .u64 = some (k : Int)) (hj : k ≤ 200) (r3 : fadd (floatOfInt .f64 k) 4607182418800017408 = some y) (hk : k % 2 = 1) (h8 : (k + 1) % 8 = 2) (hrest : RestAt x y z) (hw : CAt z s) :
    Calls Tryd.prog 75 #[.float .f64 x] w fun e w' => e = .returned (.float .f64 s) ∧ w = w' := by
  obtain ⟨t1, t2, t3, t4, t5⟩ := tame_at ht
  obtain ⟨q1, q2, q3, q4, q5, q6, p1, p2, p3, p4, p5, p6⟩ := hT
  have e1 := opmul r1
  have e2 := toU r2
  have e3 := opadd r3
  obtain ⟨a, b, c, d, e, u1, u2, u3, u4, u5, u6⟩ := hrest.ex
  have e4 := opmul u1
  have e5 := opsub u2
  have e6 := opmul u3
  have e7 := opsub u4
  have e8 := opmul u5
  have e9 := opsub u6
  clear u1 u2 u3 u4 u5 u6 hrest r1 r2 ht r3
  have n1 := u64_and1 k (by omega)
  rw [hk] at n1
  have n2 := u64_and7 (k + 1) (by omega)
  rw [h8] at n2
  clear h8 hk
  have n3 : ((k + 1 : Nat) : Int) = (k : Int) + 1 := by omega
  rw [n3] at n2
  clear n3
  obtain ⟨zz, A, A2, A3, B, C, v1, v2, v3, v4, v5, v6, v7⟩ := hw.ex
  obtain ⟨b1, b2, b3, b4, b5, b6, b7, b8, b9, w1, w2, w3, w4, w5, w6, w7, w8, w9, w10⟩ := v5.ex
  have f1 := opmul w1
  have f2 := opadd w2
  have f3 := opmul w3
  have f4 := opadd w4
  have f5 := opmul w5
  have f6 := opadd w6
  have f7 := opmul w7
  have f8 := opadd w8
  have f9 := opmul w9
  have f10 := opadd w10
  have g1 := opmul v1
  have g2 := opmul v2
  have g3 := opsub v3
  have g4 := opmul v4
  have g5 := opmul v6
  have g6 := opadd v7
  clear w1 w2 w3 w4 w5 w6 w7 w8 w9 w10 v1 v2 v3 v4 v6 v7 v5 hw
  go_enter Tryd.func75, Tryd.ntmps75
  go_wp2_with (first | (go_at_call 69; refine (isNaN_no _ t2 _).mono ?_; rintro e w' ⟨rfl, rfl⟩) | (go_at_call 70; refine (isInf_no _ t1 t3 _).mono ?_; rintro e w' ⟨rfl, rfl⟩))
  go_ret
  exact ⟨rfl, rfl⟩
set_option maxRecDepth 100000 in
set_option maxHeartbeats 1000000 in
theorem sin_1_4 (x t k z s y : Nat) (w : World) (hT : Tabs w) (ht : tame x = true) (r1 : fmul x 4608412980311869571 = some t) (r2 : floatToIntVal .f64 t .u64 = some (k : Int)) (hj : k ≤ 200) (r3 : fadd (floatOfInt .f64 k) 4607182418800017408 = some y) (hk : k % 2 = 1) (h8 : (k + 1) % 8 = 4) (hrest : RestAt x y z) (hw : SAt z s) :
    Calls Tryd.prog 75 #[.float .f64 x] w fun e w' => e = .returned (.float .f64 (fneg s)) ∧ w = w' := by
  obtain ⟨t1, t2, t3, t4, t5⟩ := tame_at ht
  obtain ⟨q1, q2, q3, q4, q5, q6, p1, p2, p3, p4, p5, p6⟩ := hT
  have e1 := opmul r1
  have e2 := toU r2
  have e3 := opadd r3
  obtain ⟨a, b, c, d, e, u1, u2, u3, u4, u5, u6⟩ := hrest.ex
  have e4 := opmul u1
  have e5 := opsub u2
  have e6 := opmul u3
  have e7 := opsub u4
  have e8 := opmul u5
  have e9 := opsub u6
  clear u1 u2 u3 u4 u5 u6 hrest r1 r2 ht r3
  have n1 := u64_and1 k (by omega)
  rw [hk] at n1
  have n2 := u64_and7 (k + 1) (by omega)
  rw [h8] at n2
  clear h8 hk
  have n3 : ((k + 1 : Nat) : Int) = (k : Int) + 1 := by omega
  rw [n3] at n2
  clear n3
  obtain ⟨zz, A, B, C, v1, v2, v3, v4, v5⟩ := hw.ex
  obtain ⟨b1, b2, b3, b4, b5, b6, b7, b8, b9, w1, w2, w3, w4, w5, w6, w7, w8, w9, w10⟩ := v3.ex
  have f1 := opmul w1
  have f2 := opadd w2
  have f3 := opmul w3
  have f4 := opadd w4
  have f5 := opmul w5
  have f6 := opadd w6
  have f7 := opmul w7
  have f8 := opadd w8
  have f9 := opmul w9
  have f10 := opadd w10
  have g1 := opmul v1
  have g2 := opmul v2
  have g3 := opmul v4
  have g4 := opadd v5
  clear w1 w2 w3 w4 w5 w6 w7 w8 w9 w10 v1 v2 v4 v5 v3 hw
  have hn := opneg s
  go_enter Tryd.func75, Tryd.ntmps75
  go_wp2_with (first | (go_at_call 69; refine (isNaN_no _ t2 _).mono ?_; rintro e w' ⟨rfl, rfl⟩) | (go_at_call 70; refine (isInf_no _ t1 t3 _).mono ?_; rintro e w' ⟨rfl, rfl⟩))
  go_ret
  exact ⟨rfl, rfl⟩
set_option maxRecDepth 100000 in
set_option maxHeartbeats 1000000 in
theorem sin_1_6 (x t k z s y : Nat) (w : World) (hT : Tabs w) (ht : tame x = true) (r1 : fmul x 4608412980311869571 = some t) (r2 : floatToIntVal .f64 t .u64 = some (k : Int)) (hj : k ≤ 200) (r3 : fadd (floatOfInt .f64 k) 4607182418800017408 = some y) (hk : k % 2 = 1) (h8 : (k + 1) % 8 = 6) (hrest : RestAt x y z) (hw : CAt z s) :
    Calls Tryd.prog 75 #[.float .f64 x] w fun e w' => e = .returned (.float .f64 (fneg s)) ∧ w = w' := by
  obtain ⟨t1, t2, t3, t4, t5⟩ := tame_at ht
  obtain ⟨q1, q2, q3, q4, q5, q6, p1, p2, p3, p4, p5, p6⟩ := hT
  have e1 := opmul r1
  have e2 := toU r2
  have e3 := opadd r3
  obtain ⟨a, b, c, d, e, u1, u2, u3, u4, u5, u6⟩ := hrest.ex
  have e4 := opmul u1
  have e5 := opsub u2
  have e6 := opmul u3
  have e7 := opsub u4
  have e8 := opmul u5
  have e9 := opsub u6
  clear u1 u2 u3 u4 u5 u6 hrest r1 r2 ht r3
  have n1 := u64_and1 k (by omega)
  rw [hk] at n1
  have n2 := u64_and7 (k + 1) (by omega)
  rw [h8] at n2
  clear h8 hk
  have n3 : ((k + 1 : Nat) : Int) = (k : Int) + 1 := by omega
  rw [n3] at n2
  clear n3
  obtain ⟨zz, A, A2, A3, B, C, v1, v2, v3, v4, v5, v6, v7⟩ := hw.ex
  obtain ⟨b1, b2, b3, b4, b5, b6, b7, b8, b9, w1, w2, w3, w4, w5, w6, w7, w8, w9, w10⟩ := v5.ex
  have f1 := opmul w1
  have f2 := opadd w2
  have f3 := opmul w3
  have f4 := opadd w4
  have f5 := opmul w5
  have f6 := opadd w6
  have f7 := opmul w7
  have f8 := opadd w8
  have f9 := opmul w9
  have f10 := opadd w10
  have g1 := opmul v1
  have g2 := opmul v2
  have g3 := opsub v3
  have g4 := opmul v4
  have g5 := opmul v6
  have g6 := opadd v7
  clear w1 w2 w3 w4 w5 w6 w7 w8 w9 w10 v1 v2 v3 v4 v6 v7 v5 hw
  have hn := opneg s
  go_enter Tryd.func75, Tryd.ntmps75
  go_wp2_with (first | (go_at_call 69; refine (isNaN_no _ t2 _).mono ?_; rintro e w' ⟨rfl, rfl⟩) | (go_at_call 70; refine (isInf_no _ t1 t3 _).mono ?_; rintro e w' ⟨rfl, rfl⟩))
  go_ret
  exact ⟨rfl, rfl⟩
set_option maxRecDepth 100000 in
set_option maxHeartbeats 1000000 in
theorem sin_0_0 (x t k z s : Nat) (w : World) (hT : Tabs w) (ht : tame x = true) (r1 : fmul x 4608412980311869571 = some t) (r2 : floatToIntVal .f64 t .u64 = some (k : Int)) (hj : k ≤ 200) (hk : k % 2 = 0) (h8 : (k) % 8 = 0) (hrest : RestAt x (floatOfInt .f64 k) z) (hw : SAt z s) :
    Calls Tryd.prog 75 #[.float .f64 x] w fun e w' => e = .returned (.float .f64 s) ∧ w = w' := by
  obtain ⟨t1, t2, t3, t4, t5⟩ := tame_at ht
  obtain ⟨q1, q2, q3, q4, q5, q6, p1, p2, p3, p4, p5, p6⟩ := hT
  have e1 := opmul r1
  have e2 := toU r2
  obtain ⟨a, b, c, d, e, u1, u2, u3, u4, u5, u6⟩ := hrest.ex
  have e4 := opmul u1
  have e5 := opsub u2
  have e6 := opmul u3
  have e7 := opsub u4
  have e8 := opmul u5
  have e9 := opsub u6
  clear u1 u2 u3 u4 u5 u6 hrest r1 r2 ht
  have n1 := u64_and1 k (by omega)
  rw [hk] at n1
  have n2 := u64_and7 k (by omega)
  rw [h8] at n2
  clear h8 hk
  obtain ⟨zz, A, B, C, v1, v2, v3, v4, v5⟩ := hw.ex
  obtain ⟨b1, b2, b3, b4, b5, b6, b7, b8, b9, w1, w2, w3, w4, w5, w6, w7, w8, w9, w10⟩ := v3.ex
  have f1 := opmul w1
  have f2 := opadd w2
  have f3 := opmul w3
  have f4 := opadd w4
  have f5 := opmul w5
  have f6 := opadd w6
  have f7 := opmul w7
  have f8 := opadd w8
  have f9 := opmul w9
  have f10 := opadd w10
  have g1 := opmul v1
  have g2 := opmul v2
  have g3 := opmul v4
  have g4 := opadd v5
  clear w1 w2 w3 w4 w5 w6 w7 w8 w9 w10 v1 v2 v4 v5 v3 hw
  go_enter Tryd.func75, Tryd.ntmps75
  go_wp2_with (first | (go_at_call 69; refine (isNaN_no _ t2 _).mono ?_; rintro e w' ⟨rfl, rfl⟩) | (go_at_call 70; refine (isInf_no _ t1 t3 _).mono ?_; rintro e w' ⟨rfl, rfl⟩))
  go_ret
  exact ⟨rfl, rfl⟩
set_option maxRecDepth 100000 in
set_option maxHeartbeats 1000000 in
theorem sin_0_2 (x t k z s : Nat) (w : World) (hT : Tabs w) (ht : tame x = true) (r1 : fmul x 4608412980311869571 = some t) (r2 : floatToIntVal .f64 t .u64 = some (k : Int)) (hj : k ≤ 200) (hk : k % 2 = 0) (h8 : (k) % 8 = 2) (hrest : RestAt x (floatOfInt .f64 k) z) (hw : CAt z s) :
    Calls Tryd.prog 75 #[.float .f64 x] w fun e w' => e = .returned (.float .f64 s) ∧ w = w' := by
  obtain ⟨t1, t2, t3, t4, t5⟩ := tame_at ht
  obtain ⟨q1, q2, q3, q4, q5, q6, p1, p2, p3, p4, p5, p6⟩ := hT
  have e1 := opmul r1
  have e2 := toU r2
  obtain ⟨a, b, c, d, e, u1, u2, u3, u4, u5, u6⟩ := hrest.ex
  have e4 := opmul u1
  have e5 := opsub u2
  have e6 := opmul u3
  have e7 := opsub u4
  have e8 := opmul u5
  have e9 := opsub u6
  clear u1 u2 u3 u4 u5 u6 hrest r1 r2 ht
  have n1 := u64_and1 k (by omega)
  rw [hk] at n1
  have n2 := u64_and7 k (by omega)
  rw [h8] at n2
  clear h8 hk
  obtain ⟨zz, A, A2, A3, B, C, v1, v2, v3, v4, v5, v6, v7⟩ := hw.ex
  obtain ⟨b1, b2, b3, b4, b5, b6, b7, b8, b9, w1, w2, w3, w4, w5, w6, w7, w8, w9, w10⟩ := v5.ex
  have f1 := opmul w1
  have f2 := opadd w2
  have f3 := opmul w3
  have f4 := opadd w4
  have f5 := opmul w5
  have f6 := opadd w6
  have f7 := opmul w7
  have f8 := opadd w8
  have f9 := opmul w9
  have f10 := opadd w10
  have g1 := opmul v1
  have g2 := opmul v2
  have g3 := opsub v3
  have g4 := opmul v4
  have g5 := opmul v6
  have g6 := opadd v7
  clear w1 w2 w3 w4 w5 w6 w7 w8 w9 w10 v1 v2 v3 v4 v6 v7 v5 hw
  go_enter Tryd.func75, Tryd.ntmps75
  go_wp2_with (first | (go_at_call 69; refine (isNaN_no _ t2 _).mono ?_; rintro e w' ⟨rfl, rfl⟩) | (go_at_call 70; refine (isInf_no _ t1 t3 _).mono ?_; rintro e w' ⟨rfl, rfl⟩))
  go_ret
  exact ⟨rfl, rfl⟩
set_option maxRecDepth 100000 in
set_option maxHeartbeats 1000000 in
theorem sin_0_4 (x t k z s : Nat) (w : World) (hT : Tabs w) (ht : tame x = true) (r1 : fmul x 4608412980311869571 = some t) (r2 : floatToIntVal .f64 t .u64 = some (k : Int)) (hj : k ≤ 200) (hk : k % 2 = 0) (h8 : (k) % 8 = 4) (hrest : RestAt x (floatOfInt .f64 k) z) (hw : SAt z s) :
    Calls Tryd.prog 75 #[.float .f64 x] w fun e w' => e = .returned (.float .f64 (fneg s)) ∧ w = w' := by
  obtain ⟨t1, t2, t3, t4, t5⟩ := tame_at ht
  obtain ⟨q1, q2, q3, q4, q5, q6, p1, p2, p3, p4, p5, p6⟩ := hT
  have e1 := opmul r1
  have e2 := toU r2
  obtain ⟨a, b, c, d, e, u1, u2, u3, u4, u5, u6⟩ := hrest.ex
  have e4 := opmul u1
  have e5 := opsub u2
  have e6 := opmul u3
  have e7 := opsub u4
  have e8 := opmul u5
  have e9 := opsub u6
  clear u1 u2 u3 u4 u5 u6 hrest r1 r2 ht
  have n1 := u64_and1 k (by omega)
  rw [hk] at n1
  have n2 := u64_and7 k (by omega)
  rw [h8] at n2
  clear h8 hk
  obtain ⟨zz, A, B, C, v1, v2, v3, v4, v5⟩ := hw.ex
  obtain ⟨b1, b2, b3, b4, b5, b6, b7, b8, b9, w1, w2, w3, w4, w5, w6, w7, w8, w9, w10⟩ := v3.ex
  have f1 := opmul w1
  have f2 := opadd w2
  have f3 := opmul w3
  have f4 := opadd w4
  have f5 := opmul w5
  have f6 := opadd w6
  have f7 := opmul w7
  have f8 := opadd w8
  have f9 := opmul w9
  have f10 := opadd w10
  have g1 := opmul v1
  have g2 := opmul v2
  have g3 := opmul v4
  have g4 := opadd v5
  clear w1 w2 w3 w4 w5 w6 w7 w8 w9 w10 v1 v2 v4 v5 v3 hw
  have hn := opneg s
  go_enter Tryd.func75, Tryd.ntmps75
  go_wp2_with (first | (go_at_call 69; refine (isNaN_no _ t2 _).mono ?_; rintro e w' ⟨rfl, rfl⟩) | (go_at_call 70; refine (isInf_no _ t1 t3 _).mono ?_; rintro e w' ⟨rfl, rfl⟩))
  go_ret
  exact ⟨rfl, rfl⟩
set_option maxRecDepth 100000 in
set_option maxHeartbeats 1000000 in
theorem sin_0_6 (x t k z s : Nat) (w : World) (hT : Tabs w) (ht : tame x = true) (r1 : fmul x 4608412980311869571 = some t) (r2 : floatToIntVal .f64 t .u64 = some (k : Int)) (hj : k ≤ 200) (hk : k % 2 = 0) (h8 : (k) % 8 = 6) (hrest : RestAt x (floatOfInt .f64 k) z) (hw : CAt z s) :
    Calls Tryd.prog 75 #[.float .f64 x] w fun e w' => e = .returned (.float .f64 (fneg s)) ∧ w = w' := by
  obtain ⟨t1, t2, t3, t4, t5⟩ := tame_at ht
  obtain ⟨q1, q2, q3, q4, q5, q6, p1, p2, p3, p4, p5, p6⟩ := hT
  have e1 := opmul r1
  have e2 := toU r2
  obtain ⟨a, b, c, d, e, u1, u2, u3, u4, u5, u6⟩ := hrest.ex
  have e4 := opmul u1
  have e5 := opsub u2
  have e6 := opmul u3
  have e7 := opsub u4
  have e8 := opmul u5
  have e9 := opsub u6
  clear u1 u2 u3 u4 u5 u6 hrest r1 r2 ht
  have n1 := u64_and1 k (by omega)
  rw [hk] at n1
  have n2 := u64_and7 k (by omega)
  rw [h8] at n2
  clear h8 hk
  obtain ⟨zz, A, A2, A3, B, C, v1, v2, v3, v4, v5, v6, v7⟩ := hw.ex
  obtain ⟨b1, b2, b3, b4, b5, b6, b7, b8, b9, w1, w2, w3, w4, w5, w6, w7, w8, w9, w10⟩ := v5.ex
  have f1 := opmul w1
  have f2 := opadd w2
  have f3 := opmul w3
  have f4 := opadd w4
  have f5 := opmul w5
  have f6 := opadd w6
  have f7 := opmul w7
  have f8 := opadd w8
  have f9 := opmul w9
  have f10 := opadd w10
  have g1 := opmul v1
  have g2 := opmul v2
  have g3 := opsub v3
  have g4 := opmul v4
  have g5 := opmul v6
  have g6 := opadd v7
  clear w1 w2 w3 w4 w5 w6 w7 w8 w9 w10 v1 v2 v3 v4 v6 v7 v5 hw
  have hn := opneg s
  go_enter Tryd.func75, Tryd.ntmps75
  go_wp2_with (first | (go_at_call 69; refine (isNaN_no _ t2 _).mono ?_; rintro e w' ⟨rfl, rfl⟩) | (go_at_call 70; refine (isInf_no _ t1 t3 _).mono ?_; rintro e w' ⟨rfl, rfl⟩))
  go_ret
  exact ⟨rfl, rfl⟩
end Go.Proofs.YtppfldobgemddaaDoor
namespace Go.Proofs.YtppfldobgemddaaDoor
open Go.RowKit
set_option linter.unusedVariables false

theorem cos53_any (x r : Nat) (h : cosO x = some r) (w : World) (hT : Tabs w) :
    Calls Tryd.prog 53 #[.float .f64 x] w fun e w' => e = .returned (.float .f64 r) ∧ w = w' := by
  obtain ⟨ht, j, z, hred, hj, hway⟩ := cos_at h
  obtain ⟨t, k, r1, r2, hpar⟩ := hred.ex
  rcases hpar with ⟨hk, rfl, y, r3, hrest⟩ | ⟨hk, rfl, hrest⟩
  · rcases hway with ⟨h8, hw⟩ | ⟨h8, s, hw, rfl⟩ | ⟨h8, s, hw, rfl⟩ | ⟨h8, hw⟩
    · exact cos_1_0 x t k z _ y w hT ht r1 r2 (by omega) r3 hk h8 hrest hw
    · exact cos_1_2 x t k z _ y w hT ht r1 r2 (by omega) r3 hk h8 hrest hw
    · exact cos_1_4 x t k z _ y w hT ht r1 r2 (by omega) r3 hk h8 hrest hw
    · exact cos_1_6 x t k z _ y w hT ht r1 r2 (by omega) r3 hk h8 hrest hw
  · rcases hway with ⟨h8, hw⟩ | ⟨h8, s, hw, rfl⟩ | ⟨h8, s, hw, rfl⟩ | ⟨h8, hw⟩
    · exact cos_0_0 x t j z _ w hT ht r1 r2 (by omega) hk h8 hrest hw
    · exact cos_0_2 x t j z _ w hT ht r1 r2 (by omega) hk h8 hrest hw
    · exact cos_0_4 x t j z _ w hT ht r1 r2 (by omega) hk h8 hrest hw
    · exact cos_0_6 x t j z _ w hT ht r1 r2 (by omega) hk h8 hrest hw
theorem sin75_any (x r : Nat) (h : sinO x = some r) (w : World) (hT : Tabs w) :
    Calls Tryd.prog 75 #[.float .f64 x] w fun e w' => e = .returned (.float .f64 r) ∧ w = w' := by
  obtain ⟨ht, j, z, hred, hj, hway⟩ := sin_at h
  obtain ⟨t, k, r1, r2, hpar⟩ := hred.ex
  rcases hpar with ⟨hk, rfl, y, r3, hrest⟩ | ⟨hk, rfl, hrest⟩
  · rcases hway with ⟨h8, hw⟩ | ⟨h8, hw⟩ | ⟨h8, s, hw, rfl⟩ | ⟨h8, s, hw, rfl⟩
    · exact sin_1_0 x t k z _ y w hT ht r1 r2 (by omega) r3 hk h8 hrest hw
    · exact sin_1_2 x t k z _ y w hT ht r1 r2 (by omega) r3 hk h8 hrest hw
    · exact sin_1_4 x t k z _ y w hT ht r1 r2 (by omega) r3 hk h8 hrest hw
    · exact sin_1_6 x t k z _ y w hT ht r1 r2 (by omega) r3 hk h8 hrest hw
  · rcases hway with ⟨h8, hw⟩ | ⟨h8, hw⟩ | ⟨h8, s, hw, rfl⟩ | ⟨h8, s, hw, rfl⟩
    · exact sin_0_0 x t j z _ w hT ht r1 r2 (by omega) hk h8 hrest hw
    · exact sin_0_2 x t j z _ w hT ht r1 r2 (by omega) hk h8 hrest hw
    · exact sin_0_4 x t j z _ w hT ht r1 r2 (by omega) hk h8 hrest hw
    · exact sin_0_6 x t j z _ w hT ht r1 r2 (by omega) hk h8 hrest hw
set_option maxHeartbeats 400000 in
theorem cos_any (x r : Nat) (h : cosO x = some r) (w : World) (hT : Tabs w) :
    Calls Tryd.prog 36 #[.float .f64 x] w fun e w' => e = .returned (.float .f64 r) ∧ w = w' := by
  have H := Lib.hid h
  clear h
  go_enter Tryd.func36, Tryd.ntmps36
  go_wp2_with (go_at_call 53; refine (cos53_any _ _ H.out _ hT).mono ?_; rintro e w' ⟨rfl, rfl⟩)
  go_ret
  exact ⟨rfl, rfl⟩
set_option maxHeartbeats 400000 in
theorem sin_any (x r : Nat) (h : sinO x = some r) (w : World) (hT : Tabs w) :
    Calls Tryd.prog 54 #[.float .f64 x] w fun e w' => e = .returned (.float .f64 r) ∧ w = w' := by
  have H := Lib.hid h
  clear h
  go_enter Tryd.func54, Tryd.ntmps54
  go_wp2_with (go_at_call 75; refine (sin75_any _ _ H.out _ hT).mono ?_; rintro e w' ⟨rfl, rfl⟩)
  go_ret
  exact ⟨rfl, rfl⟩

/-- The word that math.Sin is handed by sine: of k among n. -/
def sineAt (k n : Nat) : Option Nat :=
  (Ieee.double.div 4614256656552045848 (floatOfInt .f64 n)).bind fun a => (fadd (floatOfInt .f64 k) 4602678819172646912).bind fun b => fmul a b
def sineO (k n : Nat) : Option Nat := (sineAt k n).bind sinO
theorem opquo {x y r : Nat} (h : Ieee.double.div x y = some r) (t : TypeId) (w : World) : (binOp .quo t (.float .f64 x) (.float .f64 y)).run Tryd.prog w = .ok (.float .f64 r) w := run_float_arith w .quo t .f64 x y r h
set_option maxRecDepth 100000 in
set_option maxHeartbeats 400000 in
theorem sine_any (k n r : Nat) (h : sineO k n = some r) (w : World) (hT : Tabs w) :
    Calls Tryd.prog 38 #[.int .i64 k, .int .i64 n] w fun e w' => e = .returned (.float .f64 r) ∧ w = w' := by
  obtain ⟨c, h1, h4⟩ := bind_some h
  obtain ⟨a, h1, h2⟩ := bind_some h1
  obtain ⟨b, h2, h3⟩ := bind_some h2
  have e1 := opquo h1
  have e2 := opadd h2
  have e3 := opmul h3
  have H := Lib.hid h4
  clear h h1 h2 h3 h4
  go_enter Tryd.func38, Tryd.ntmps38
  go_wp2_with (go_at_call 54; refine (sin_any _ _ H.out _ hT).mono ?_; rintro e w' ⟨rfl, rfl⟩)
  go_ret
  exact ⟨rfl, rfl⟩
end Go.Proofs.YtppfldobgemddaaDoor
