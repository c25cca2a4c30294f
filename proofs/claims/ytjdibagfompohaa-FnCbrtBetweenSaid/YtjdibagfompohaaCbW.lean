/- The walk of math.cbrt over its operations: at a positive or a negative number, normal or not. -/
import Derived.Test.YtjdibagfompohaaMath
import Derived.Test.YtjdibagfompohaaCb7
namespace Go.Proofs.Ytjdibagfompohaa
open Go.RowKit Flo Ieee

theorem chop_bits {t : Nat} (h : t < 18446744073709551616) : bits .and .u64 (t : Int) 18446744072635809792 = ((t - t % 2 ^ 30 : Nat) : Int) := by
  have h3 := bits_and_u64_nat t 18446744072635809792 h (by decide)
  rw [show ((18446744072635809792 : Nat) : Int) = 18446744072635809792 by rfl] at h3
  have h4 : t &&& 18446744072635809792 = t - t % 2 ^ 30 := by
    have e1 : t - t % 2 ^ 30 = 2 ^ 30 * (t / 2 ^ 30) := by omega
    rw [e1, show (18446744072635809792 : Nat) = 2 ^ 30 * (2 ^ 34 - 1) by decide]
    apply Nat.eq_of_testBit_eq
    intro i
    rw [Nat.testBit_and, Nat.testBit_two_pow_mul, Nat.testBit_two_pow_mul, Nat.testBit_two_pow_sub_one, Nat.testBit_div_two_pow]
    by_cases hi : 30 ≤ i
    · rw [show i - 30 + 30 = i by omega]
      by_cases hi2 : i - 30 < 34
      · simp [hi, hi2]
      · have : t.testBit i = false := Nat.testBit_lt_two_pow (Nat.lt_of_lt_of_le h (show 2 ^ 64 ≤ 2 ^ i from Nat.pow_le_pow_right (by omega) (show 64 ≤ i by omega)))
        simp [this]
    · simp [show ¬ i ≥ 30 by omega]
  rw [h3, h4]

set_option maxRecDepth 100000 in
set_option maxHeartbeats 4000000 in
theorem cbrt_walk_pos_nor (x t0 a1 r ry s sE ds den f g t1 t2 s2 r2 w2 d wr r3 tr res tc : Nat) (w : World) (hx : Num x)
    (h0 : FloatKind.f64.format.order x 0 = some .gt)
    (hn : (FloatKind.f64.format.order x 4503599627370496 == some .lt) = false) (ht0 : x / 3 + 3071306043645493248 = t0)
    (hx2 : x < 9223372036854775808)
    (e1 : floatBits .mul .f64 t0 t0 = some a1)
    (e2 : floatBits .quo .f64 a1 x = some r)
    (e3 : floatBits .mul .f64 r t0 = some ry)
    (e4 : floatBits .add .f64 4603064841997850097 ry = some s)
    (e5 : floatBits .add .f64 s 4609048195788499471 = some sE)
    (e6 : floatBits .quo .f64 13827900089180538932 s = some ds)
    (e7 : floatBits .add .f64 sE ds = some den)
    (e8 : floatBits .quo .f64 4609916747145206638 den = some f)
    (e9 : floatBits .add .f64 4600105333671292343 f = some g)
    (e10 : floatBits .mul .f64 t0 g = some t1)
    (e11 : floatBits .mul .f64 t2 t2 = some s2)
    (e12 : floatBits .quo .f64 x s2 = some r2)
    (e13 : floatBits .add .f64 t2 t2 = some w2)
    (e14 : floatBits .sub .f64 r2 t2 = some d)
    (e15 : floatBits .add .f64 w2 r2 = some wr)
    (e16 : floatBits .quo .f64 d wr = some r3)
    (e17 : floatBits .mul .f64 t2 r3 = some tr)
    (e18 : floatBits .add .f64 t2 tr = some res)
    (hc : bits .and .u64 (t1 : Int) 18446744072635809792 = (tc : Int)) (htc : tc < 9223372036854775808) (ht2 : tc + 1073741824 = t2) :
    Calls Try.prog 30 #[.float .f64 x] w (Ret (.float .f64 res) w) := by
  have o1 := fun t w => run_float_arith (P := Try.prog) w .mul t .f64 _ _ _ e1
  have o2 := fun t w => run_float_arith (P := Try.prog) w .quo t .f64 _ _ _ e2
  have o3 := fun t w => run_float_arith (P := Try.prog) w .mul t .f64 _ _ _ e3
  have o4 := fun t w => run_float_arith (P := Try.prog) w .add t .f64 _ _ _ e4
  have o5 := fun t w => run_float_arith (P := Try.prog) w .add t .f64 _ _ _ e5
  have o6 := fun t w => run_float_arith (P := Try.prog) w .quo t .f64 _ _ _ e6
  have o7 := fun t w => run_float_arith (P := Try.prog) w .add t .f64 _ _ _ e7
  have o8 := fun t w => run_float_arith (P := Try.prog) w .quo t .f64 _ _ _ e8
  have o9 := fun t w => run_float_arith (P := Try.prog) w .add t .f64 _ _ _ e9
  have o10 := fun t w => run_float_arith (P := Try.prog) w .mul t .f64 _ _ _ e10
  have o11 := fun t w => run_float_arith (P := Try.prog) w .mul t .f64 _ _ _ e11
  have o12 := fun t w => run_float_arith (P := Try.prog) w .quo t .f64 _ _ _ e12
  have o13 := fun t w => run_float_arith (P := Try.prog) w .add t .f64 _ _ _ e13
  have o14 := fun t w => run_float_arith (P := Try.prog) w .sub t .f64 _ _ _ e14
  have o15 := fun t w => run_float_arith (P := Try.prog) w .add t .f64 _ _ _ e15
  have o16 := fun t w => run_float_arith (P := Try.prog) w .quo t .f64 _ _ _ e16
  have o17 := fun t w => run_float_arith (P := Try.prog) w .mul t .f64 _ _ _ e17
  have o18 := fun t w => run_float_arith (P := Try.prog) w .add t .f64 _ _ _ e18
  clear e1 e2 e3 e4 e5 e6 e7 e8 e9 e10 e11 e12 e13 e14 e15 e16 e17 e18
  have hb := bits_run
  have hf := frombits_run
  have HN := Lib.hid (isNaN_not x · hx.1 (fin_not_nan hx))
  have HI := Lib.hid (mathIsInf0_num x · hx)
  clear hx
  go_enter Try.func30, Try.ntmps30
  go_wp2_with (first | (go_at_call 33; refine (HN.out _).mono ?_; rintro e w' ⟨rfl, m, rfl⟩) | (go_at_call 34; refine (HI.out _).mono ?_; rintro e w' ⟨rfl, m, rfl⟩))
  go_ret
  exact ⟨rfl, _, rfl⟩

set_option maxRecDepth 100000 in
set_option maxHeartbeats 4000000 in
theorem cbrt_walk_pos_sub (x t0 a1 r ry s sE ds den f g t1 t2 s2 r2 w2 d wr r3 tr res tc y : Nat) (w : World) (hx : Num x)
    (h0 : FloatKind.f64.format.order x 0 = some .gt)
    (hn : FloatKind.f64.format.order x 4503599627370496 = some .lt) (e0 : floatBits .mul .f64 4850376798678024192 x = some y) (hy : y < 9223372036854775808) (ht0 : y / 3 + 2990241250352824320 = t0)
    (hx2 : x < 9223372036854775808)
    (e1 : floatBits .mul .f64 t0 t0 = some a1)
    (e2 : floatBits .quo .f64 a1 x = some r)
    (e3 : floatBits .mul .f64 r t0 = some ry)
    (e4 : floatBits .add .f64 4603064841997850097 ry = some s)
    (e5 : floatBits .add .f64 s 4609048195788499471 = some sE)
    (e6 : floatBits .quo .f64 13827900089180538932 s = some ds)
    (e7 : floatBits .add .f64 sE ds = some den)
    (e8 : floatBits .quo .f64 4609916747145206638 den = some f)
    (e9 : floatBits .add .f64 4600105333671292343 f = some g)
    (e10 : floatBits .mul .f64 t0 g = some t1)
    (e11 : floatBits .mul .f64 t2 t2 = some s2)
    (e12 : floatBits .quo .f64 x s2 = some r2)
    (e13 : floatBits .add .f64 t2 t2 = some w2)
    (e14 : floatBits .sub .f64 r2 t2 = some d)
    (e15 : floatBits .add .f64 w2 r2 = some wr)
    (e16 : floatBits .quo .f64 d wr = some r3)
    (e17 : floatBits .mul .f64 t2 r3 = some tr)
    (e18 : floatBits .add .f64 t2 tr = some res)
    (hc : bits .and .u64 (t1 : Int) 18446744072635809792 = (tc : Int)) (htc : tc < 9223372036854775808) (ht2 : tc + 1073741824 = t2) :
    Calls Try.prog 30 #[.float .f64 x] w (Ret (.float .f64 res) w) := by
  have o0 := fun t w => run_float_arith (P := Try.prog) w .mul t .f64 _ _ _ e0
  have o1 := fun t w => run_float_arith (P := Try.prog) w .mul t .f64 _ _ _ e1
  have o2 := fun t w => run_float_arith (P := Try.prog) w .quo t .f64 _ _ _ e2
  have o3 := fun t w => run_float_arith (P := Try.prog) w .mul t .f64 _ _ _ e3
  have o4 := fun t w => run_float_arith (P := Try.prog) w .add t .f64 _ _ _ e4
  have o5 := fun t w => run_float_arith (P := Try.prog) w .add t .f64 _ _ _ e5
  have o6 := fun t w => run_float_arith (P := Try.prog) w .quo t .f64 _ _ _ e6
  have o7 := fun t w => run_float_arith (P := Try.prog) w .add t .f64 _ _ _ e7
  have o8 := fun t w => run_float_arith (P := Try.prog) w .quo t .f64 _ _ _ e8
  have o9 := fun t w => run_float_arith (P := Try.prog) w .add t .f64 _ _ _ e9
  have o10 := fun t w => run_float_arith (P := Try.prog) w .mul t .f64 _ _ _ e10
  have o11 := fun t w => run_float_arith (P := Try.prog) w .mul t .f64 _ _ _ e11
  have o12 := fun t w => run_float_arith (P := Try.prog) w .quo t .f64 _ _ _ e12
  have o13 := fun t w => run_float_arith (P := Try.prog) w .add t .f64 _ _ _ e13
  have o14 := fun t w => run_float_arith (P := Try.prog) w .sub t .f64 _ _ _ e14
  have o15 := fun t w => run_float_arith (P := Try.prog) w .add t .f64 _ _ _ e15
  have o16 := fun t w => run_float_arith (P := Try.prog) w .quo t .f64 _ _ _ e16
  have o17 := fun t w => run_float_arith (P := Try.prog) w .mul t .f64 _ _ _ e17
  have o18 := fun t w => run_float_arith (P := Try.prog) w .add t .f64 _ _ _ e18
  clear e0 e1 e2 e3 e4 e5 e6 e7 e8 e9 e10 e11 e12 e13 e14 e15 e16 e17 e18
  obtain ⟨t0', ht0'⟩ : ∃ t0' : Nat, x / 3 + 3071306043645493248 = t0' := ⟨_, rfl⟩
  have hb := bits_run
  have hf := frombits_run
  have HN := Lib.hid (isNaN_not x · hx.1 (fin_not_nan hx))
  have HI := Lib.hid (mathIsInf0_num x · hx)
  clear hx
  go_enter Try.func30, Try.ntmps30
  go_wp2_with (first | (go_at_call 33; refine (HN.out _).mono ?_; rintro e w' ⟨rfl, m, rfl⟩) | (go_at_call 34; refine (HI.out _).mono ?_; rintro e w' ⟨rfl, m, rfl⟩))
  go_ret
  exact ⟨rfl, _, rfl⟩

set_option maxRecDepth 100000 in
set_option maxHeartbeats 4000000 in
theorem cbrt_walk_neg_nor (x t0 a1 r ry s sE ds den f g t1 t2 s2 r2 w2 d wr r3 tr res tc z : Nat) (w : World) (hx : Num z)
    (h0 : FloatKind.f64.format.order z 0 = some .lt) (hz : negW z = x)
    (hn : (FloatKind.f64.format.order x 4503599627370496 == some .lt) = false) (ht0 : x / 3 + 3071306043645493248 = t0)
    (hx2 : x < 9223372036854775808)
    (e1 : floatBits .mul .f64 t0 t0 = some a1)
    (e2 : floatBits .quo .f64 a1 x = some r)
    (e3 : floatBits .mul .f64 r t0 = some ry)
    (e4 : floatBits .add .f64 4603064841997850097 ry = some s)
    (e5 : floatBits .add .f64 s 4609048195788499471 = some sE)
    (e6 : floatBits .quo .f64 13827900089180538932 s = some ds)
    (e7 : floatBits .add .f64 sE ds = some den)
    (e8 : floatBits .quo .f64 4609916747145206638 den = some f)
    (e9 : floatBits .add .f64 4600105333671292343 f = some g)
    (e10 : floatBits .mul .f64 t0 g = some t1)
    (e11 : floatBits .mul .f64 t2 t2 = some s2)
    (e12 : floatBits .quo .f64 x s2 = some r2)
    (e13 : floatBits .add .f64 t2 t2 = some w2)
    (e14 : floatBits .sub .f64 r2 t2 = some d)
    (e15 : floatBits .add .f64 w2 r2 = some wr)
    (e16 : floatBits .quo .f64 d wr = some r3)
    (e17 : floatBits .mul .f64 t2 r3 = some tr)
    (e18 : floatBits .add .f64 t2 tr = some res)
    (hc : bits .and .u64 (t1 : Int) 18446744072635809792 = (tc : Int)) (htc : tc < 9223372036854775808) (ht2 : tc + 1073741824 = t2) :
    Calls Try.prog 30 #[.float .f64 z] w (Ret (.float .f64 (negW res)) w) := by
  have o1 := fun t w => run_float_arith (P := Try.prog) w .mul t .f64 _ _ _ e1
  have o2 := fun t w => run_float_arith (P := Try.prog) w .quo t .f64 _ _ _ e2
  have o3 := fun t w => run_float_arith (P := Try.prog) w .mul t .f64 _ _ _ e3
  have o4 := fun t w => run_float_arith (P := Try.prog) w .add t .f64 _ _ _ e4
  have o5 := fun t w => run_float_arith (P := Try.prog) w .add t .f64 _ _ _ e5
  have o6 := fun t w => run_float_arith (P := Try.prog) w .quo t .f64 _ _ _ e6
  have o7 := fun t w => run_float_arith (P := Try.prog) w .add t .f64 _ _ _ e7
  have o8 := fun t w => run_float_arith (P := Try.prog) w .quo t .f64 _ _ _ e8
  have o9 := fun t w => run_float_arith (P := Try.prog) w .add t .f64 _ _ _ e9
  have o10 := fun t w => run_float_arith (P := Try.prog) w .mul t .f64 _ _ _ e10
  have o11 := fun t w => run_float_arith (P := Try.prog) w .mul t .f64 _ _ _ e11
  have o12 := fun t w => run_float_arith (P := Try.prog) w .quo t .f64 _ _ _ e12
  have o13 := fun t w => run_float_arith (P := Try.prog) w .add t .f64 _ _ _ e13
  have o14 := fun t w => run_float_arith (P := Try.prog) w .sub t .f64 _ _ _ e14
  have o15 := fun t w => run_float_arith (P := Try.prog) w .add t .f64 _ _ _ e15
  have o16 := fun t w => run_float_arith (P := Try.prog) w .quo t .f64 _ _ _ e16
  have o17 := fun t w => run_float_arith (P := Try.prog) w .mul t .f64 _ _ _ e17
  have o18 := fun t w => run_float_arith (P := Try.prog) w .add t .f64 _ _ _ e18
  clear e1 e2 e3 e4 e5 e6 e7 e8 e9 e10 e11 e12 e13 e14 e15 e16 e17 e18
  have hb := bits_run
  have hf := frombits_run
  have HN := Lib.hid (isNaN_not z · hx.1 (fin_not_nan hx))
  have HI := Lib.hid (mathIsInf0_num z · hx)
  clear hx
  go_enter Try.func30, Try.ntmps30
  go_wp2_with (first | (go_at_call 33; refine (HN.out _).mono ?_; rintro e w' ⟨rfl, m, rfl⟩) | (go_at_call 34; refine (HI.out _).mono ?_; rintro e w' ⟨rfl, m, rfl⟩))
  go_ret
  exact ⟨rfl, _, rfl⟩

set_option maxRecDepth 100000 in
set_option maxHeartbeats 4000000 in
theorem cbrt_walk_neg_sub (x t0 a1 r ry s sE ds den f g t1 t2 s2 r2 w2 d wr r3 tr res tc z y : Nat) (w : World) (hx : Num z)
    (h0 : FloatKind.f64.format.order z 0 = some .lt) (hz : negW z = x)
    (hn : FloatKind.f64.format.order x 4503599627370496 = some .lt) (e0 : floatBits .mul .f64 4850376798678024192 x = some y) (hy : y < 9223372036854775808) (ht0 : y / 3 + 2990241250352824320 = t0)
    (hx2 : x < 9223372036854775808)
    (e1 : floatBits .mul .f64 t0 t0 = some a1)
    (e2 : floatBits .quo .f64 a1 x = some r)
    (e3 : floatBits .mul .f64 r t0 = some ry)
    (e4 : floatBits .add .f64 4603064841997850097 ry = some s)
    (e5 : floatBits .add .f64 s 4609048195788499471 = some sE)
    (e6 : floatBits .quo .f64 13827900089180538932 s = some ds)
    (e7 : floatBits .add .f64 sE ds = some den)
    (e8 : floatBits .quo .f64 4609916747145206638 den = some f)
    (e9 : floatBits .add .f64 4600105333671292343 f = some g)
    (e10 : floatBits .mul .f64 t0 g = some t1)
    (e11 : floatBits .mul .f64 t2 t2 = some s2)
    (e12 : floatBits .quo .f64 x s2 = some r2)
    (e13 : floatBits .add .f64 t2 t2 = some w2)
    (e14 : floatBits .sub .f64 r2 t2 = some d)
    (e15 : floatBits .add .f64 w2 r2 = some wr)
    (e16 : floatBits .quo .f64 d wr = some r3)
    (e17 : floatBits .mul .f64 t2 r3 = some tr)
    (e18 : floatBits .add .f64 t2 tr = some res)
    (hc : bits .and .u64 (t1 : Int) 18446744072635809792 = (tc : Int)) (htc : tc < 9223372036854775808) (ht2 : tc + 1073741824 = t2) :
    Calls Try.prog 30 #[.float .f64 z] w (Ret (.float .f64 (negW res)) w) := by
  have o0 := fun t w => run_float_arith (P := Try.prog) w .mul t .f64 _ _ _ e0
  have o1 := fun t w => run_float_arith (P := Try.prog) w .mul t .f64 _ _ _ e1
  have o2 := fun t w => run_float_arith (P := Try.prog) w .quo t .f64 _ _ _ e2
  have o3 := fun t w => run_float_arith (P := Try.prog) w .mul t .f64 _ _ _ e3
  have o4 := fun t w => run_float_arith (P := Try.prog) w .add t .f64 _ _ _ e4
  have o5 := fun t w => run_float_arith (P := Try.prog) w .add t .f64 _ _ _ e5
  have o6 := fun t w => run_float_arith (P := Try.prog) w .quo t .f64 _ _ _ e6
  have o7 := fun t w => run_float_arith (P := Try.prog) w .add t .f64 _ _ _ e7
  have o8 := fun t w => run_float_arith (P := Try.prog) w .quo t .f64 _ _ _ e8
  have o9 := fun t w => run_float_arith (P := Try.prog) w .add t .f64 _ _ _ e9
  have o10 := fun t w => run_float_arith (P := Try.prog) w .mul t .f64 _ _ _ e10
  have o11 := fun t w => run_float_arith (P := Try.prog) w .mul t .f64 _ _ _ e11
  have o12 := fun t w => run_float_arith (P := Try.prog) w .quo t .f64 _ _ _ e12
  have o13 := fun t w => run_float_arith (P := Try.prog) w .add t .f64 _ _ _ e13
  have o14 := fun t w => run_float_arith (P := Try.prog) w .sub t .f64 _ _ _ e14
  have o15 := fun t w => run_float_arith (P := Try.prog) w .add t .f64 _ _ _ e15
  have o16 := fun t w => run_float_arith (P := Try.prog) w .quo t .f64 _ _ _ e16
  have o17 := fun t w => run_float_arith (P := Try.prog) w .mul t .f64 _ _ _ e17
  have o18 := fun t w => run_float_arith (P := Try.prog) w .add t .f64 _ _ _ e18
  clear e0 e1 e2 e3 e4 e5 e6 e7 e8 e9 e10 e11 e12 e13 e14 e15 e16 e17 e18
  obtain ⟨t0', ht0'⟩ : ∃ t0' : Nat, x / 3 + 3071306043645493248 = t0' := ⟨_, rfl⟩
  have hb := bits_run
  have hf := frombits_run
  have HN := Lib.hid (isNaN_not z · hx.1 (fin_not_nan hx))
  have HI := Lib.hid (mathIsInf0_num z · hx)
  clear hx
  go_enter Try.func30, Try.ntmps30
  go_wp2_with (first | (go_at_call 33; refine (HN.out _).mono ?_; rintro e w' ⟨rfl, m, rfl⟩) | (go_at_call 34; refine (HI.out _).mono ?_; rintro e w' ⟨rfl, m, rfl⟩))
  go_ret
  exact ⟨rfl, _, rfl⟩

end Go.Proofs.Ytjdibagfompohaa
