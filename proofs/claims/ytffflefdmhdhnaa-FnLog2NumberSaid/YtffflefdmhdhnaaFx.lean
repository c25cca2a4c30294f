/- What math.Frexp returns at every word. -/
import Derived.Test.YtffflefdmhdhnaaLgLaw
namespace Go.Proofs.Ytffflefdmhdhnaa
open Go.RowKit Flo Ieee

theorem shr52 (y : Nat) (h : y < 18446744073709551616) : y / 4503599627370496 < 4096 := by omega

theorem and_exp {n : Nat} (h : n < 18446744073709551616) : bits .and .u64 (n : Int) 2047 = ((n % 2048 : Nat) : Int) := by
  have h3 := bits_and_u64_nat n 2047 h (by decide)
  rw [show ((2047 : Nat) : Int) = 2047 by rfl] at h3
  rw [h3, show (2047 : Nat) = 2 ^ 11 - 1 by decide, Nat.and_two_pow_sub_one_eq_mod]

theorem and_sign {y : Nat} (h : y < 18446744073709551616) : y &&& 2 ^ 63 = 2 ^ 63 * (y / 2 ^ 63) := by
  apply Nat.eq_of_testBit_eq
  intro i
  rw [Nat.testBit_and, Nat.testBit_two_pow, Nat.testBit_two_pow_mul, Nat.testBit_div_two_pow]
  rcases Nat.lt_trichotomy i 63 with c | c | c
  · rw [show decide (63 = i) = false from decide_eq_false (by omega), show decide (i ≥ 63) = false from decide_eq_false (by omega), Bool.and_false, Bool.false_and]
  · subst c; simp
  · have : y.testBit i = false := Nat.testBit_lt_two_pow (Nat.lt_of_lt_of_le h (show 2 ^ 64 ≤ 2 ^ i from Nat.pow_le_pow_right (by omega) (show 64 ≤ i by omega)))
    rw [show i - 63 + 63 = i by omega, this, Bool.false_and, Bool.and_false]

theorem andNot_exp {y : Nat} (h : y < 18446744073709551616) : bits .andNot .u64 (y : Int) 9218868437227405312 = ((y / 9223372036854775808 * 9223372036854775808 + y % 4503599627370496 : Nat) : Int) := by
  have h1 := u64_andNot_nat y 9218868437227405312 h (by decide)
  rw [show ((9218868437227405312 : Nat) : Int) = 9218868437227405312 by rfl] at h1
  have h2 : y &&& (18446744073709551615 - 9218868437227405312) = y / 9223372036854775808 * 9223372036854775808 + y % 4503599627370496 := by
    have e1 : (18446744073709551615 - 9218868437227405312 : Nat) = 2 ^ 63 ||| (2 ^ 52 - 1) := by decide
    have hm : y % 2 ^ 52 < 2 ^ 63 := by omega
    rw [e1, Nat.and_or_distrib_left, and_sign h, Nat.and_two_pow_sub_one_eq_mod, ← Nat.two_pow_add_eq_or_of_lt hm]; omega
  rw [h1, h2]

theorem or_half {s m : Nat} (hs : s ≤ 1) (hm : m < 4503599627370496) : bits .or .u64 ((s * 9223372036854775808 + m : Nat) : Int) 4602678819172646912 = ((s * 9223372036854775808 + m + 4602678819172646912 : Nat) : Int) := by
  have h1 := u64_or_nat (s * 9223372036854775808 + m) 4602678819172646912 (by omega) (by decide)
  rw [show ((4602678819172646912 : Nat) : Int) = 4602678819172646912 by rfl] at h1
  have h2 : (s * 9223372036854775808 + m) ||| 4602678819172646912 = 2 ^ 63 * s + (2 ^ 52 * 1022 + m) := by
    have e1 : s * 9223372036854775808 + m = 2 ^ 63 * s + m := by omega
    have e2 : (4602678819172646912 : Nat) = 2 ^ 52 * 1022 := by decide
    have e3 : m < 2 ^ 63 := by omega
    have e4 : m < 2 ^ 52 := by omega
    have e5 : 2 ^ 52 * 1022 + m < 2 ^ 63 := by omega
    rw [e1, Nat.two_pow_add_eq_or_of_lt e3, Nat.or_assoc, Nat.or_comm m, e2, Nat.two_pow_add_eq_or_of_lt e5, Nat.two_pow_add_eq_or_of_lt e4]
  rw [h1, h2]; congr 1; omega

set_option maxHeartbeats 400000 in
theorem normalize_nor (x : Nat) (w : World) (h : x < 18446744073709551616) (ho : (FloatKind.f64.format.order (x % 9223372036854775808) 4503599627370496 == some .lt) = false) :
    Calls Try.prog 54 #[.float .f64 x] w (Ret (.tuple #[.float .f64 x, .int .i64 0]) w) := by
  have HA := Lib.hid (abs_any x · h)
  go_enter Try.func54, Try.ntmps54
  go_wp2_with (go_at_call 49; refine (HA.out _).mono ?_; rintro e w' ⟨rfl, m, rfl⟩)
  go_ret2
  exact ⟨rfl, _, rfl⟩
set_option maxHeartbeats 400000 in
theorem normalize_sub (x y : Nat) (w : World) (h : x < 18446744073709551616) (ho : FloatKind.f64.format.order (x % 9223372036854775808) 4503599627370496 = some .lt) (e : floatBits .mul .f64 x 4841369599423283200 = some y) :
    Calls Try.prog 54 #[.float .f64 x] w (Ret (.tuple #[.float .f64 y, .int .i64 (-52)]) w) := by
  have HA := Lib.hid (abs_any x · h)
  have hop := fun t w => run_float_arith (P := Try.prog) w .mul t .f64 _ _ _ e
  clear e
  go_enter Try.func54, Try.ntmps54
  go_wp2_with (go_at_call 49; refine (HA.out _).mono ?_; rintro e w' ⟨rfl, m, rfl⟩)
  go_ret2
  exact ⟨rfl, _, rfl⟩
set_option maxHeartbeats 1000000 in
theorem frexp_walk (x y E am fr : Nat) (e0 : Int) (w : World) (hx : Num x) (h0 : (FloatKind.f64.format.order x 0 == some .eq) = false) (hn : ∀ w, Calls Try.prog 54 #[.float .f64 x] w (Ret (.tuple #[.float .f64 y, .int .i64 e0]) w))
    (he1 : -52 ≤ e0) (he2 : e0 ≤ 0) (b1 : bits .and .u64 ((y : Int) / 4503599627370496) 2047 = (E : Int)) (hE : E < 2048) (b2 : bits .andNot .u64 (y : Int) 9218868437227405312 = (am : Int)) (b3 : bits .or .u64 (am : Int) 4602678819172646912 = (fr : Int)) :
    Calls Try.prog 53 #[.float .f64 x] w (Ret (.tuple #[.float .f64 fr, .int .i64 (e0 + ((E : Int) - 1023 + 1))]) w) := by
  have HN := Lib.hid (isNaN_not x · hx.1 (fin_not_nan hx))
  have HI := Lib.hid (mathIsInf0_num x · hx)
  have HM := Lib.hid hn
  have hb := bits_run
  have hf := frombits_run
  clear hx hn
  go_enter Try.func53, Try.ntmps53
  go_wp2_with (first | (go_at_call 46; refine (HN.out _).mono ?_; rintro e w' ⟨rfl, m, rfl⟩) | (go_at_call 48; refine (HI.out _).mono ?_; rintro e w' ⟨rfl, m, rfl⟩) | (go_at_call 54; refine (HM.out _).mono ?_; rintro e w' ⟨rfl, m, rfl⟩))
  go_ret2
  exact ⟨rfl, _, rfl⟩

set_option maxHeartbeats 400000 in
theorem frexp_zero (x : Nat) (w : World) (h0 : FloatKind.f64.format.order x 0 = some .eq) : Calls Try.prog 53 #[.float .f64 x] w (Ret (.tuple #[.float .f64 x, .int .i64 0]) w) := by
  go_enter Try.func53, Try.ntmps53
  go_wp2
  go_ret2
  exact ⟨rfl, 0, rfl⟩
set_option maxHeartbeats 400000 in
theorem frexp_inf (x : Nat) (w : World) (hx : InfW x) (h0 : (FloatKind.f64.format.order x 0 == some .eq) = false) : Calls Try.prog 53 #[.float .f64 x] w (Ret (.tuple #[.float .f64 x, .int .i64 0]) w) := by
  have HI := Lib.hid (mathIsInf0_inf x · hx)
  clear hx
  go_enter Try.func53, Try.ntmps53
  go_wp2_with (go_at_call 48; refine (HI.out _).mono ?_; rintro e w' ⟨rfl, m, rfl⟩)
  go_ret2
  exact ⟨rfl, _, rfl⟩
set_option maxHeartbeats 400000 in
theorem frexp_nan (x : Nat) (w : World) (hx : NaNW x) : Calls Try.prog 53 #[.float .f64 x] w (Ret (.tuple #[.float .f64 x, .int .i64 0]) w) := by
  have h0 := ord_nan_l (y := 0) hx
  have HI := Lib.hid (mathIsInf0_nan x · hx)
  have HN := Lib.hid (isNaN_nan x · hx)
  clear hx
  go_enter Try.func53, Try.ntmps53
  go_wp2_with (first | (go_at_call 46; refine (HN.out _).mono ?_; rintro e w' ⟨rfl, m, rfl⟩) | (go_at_call 48; refine (HI.out _).mono ?_; rintro e w' ⟨rfl, m, rfl⟩))
  go_ret2
  exact ⟨rfl, _, rfl⟩

theorem frexp_num (x y : Nat) (e0 : Int) (w : World) (hx : Num x) (h0 : (FloatKind.f64.format.order x 0 == some .eq) = false) (hn : ∀ w, Calls Try.prog 54 #[.float .f64 x] w (Ret (.tuple #[.float .f64 y, .int .i64 e0]) w))
    (he1 : -52 ≤ e0) (he2 : e0 ≤ 0) (hy : y < 18446744073709551616) :
    Calls Try.prog 53 #[.float .f64 x] w (Ret (.tuple #[.float .f64 (y / 9223372036854775808 * 9223372036854775808 + y % 4503599627370496 + 4602678819172646912), .int .i64 (e0 + (((y / 4503599627370496 % 2048 : Nat) : Int) - 1023 + 1))]) w) := by
  refine frexp_walk x y (y / 4503599627370496 % 2048) _ _ e0 w hx h0 hn he1 he2 ?_ (by omega) (andNot_exp hy) (or_half (by omega) (by omega))
  have := and_exp (n := y / 4503599627370496) (by omega)
  rw [← this]; congr 1

set_option maxHeartbeats 400000 in
theorem Frexp_of (x : Nat) (v : Value) (a b : Value) (w : World) (hv : v = .tuple #[a, b]) (h : ∀ w, Calls Try.prog 53 #[.float .f64 x] w (Ret v w)) : Calls Try.prog 51 #[.float .f64 x] w (Ret v w) := by
  subst hv
  have H := Lib.hid h; clear h
  go_enter Try.func51, Try.ntmps51
  go_wp2_with (go_at_call 53; refine (H.out _).mono ?_; rintro e w' ⟨rfl, m, rfl⟩)
  go_ret2
  exact ⟨rfl, _, rfl⟩

/-- Frexp of a positive number: the fraction's word has the exponent field 1022; the exponent by sizes. -/
theorem frexp_pos {x : Nat} (h0 : 0 < x) (hx : x < infR) : ∃ m : Nat, ∃ e : Int, m < 2 ^ 52 ∧ e.natAbs ≤ 1100 ∧ (1024 * 2 ^ 52 ≤ x → 2 ≤ e) ∧ (x ≤ 1022 * 2 ^ 52 → e ≤ -1 ∨ (e = 0 ∧ m = 0)) ∧ ∀ w, Calls Try.prog 51 #[.float .f64 x] w (Ret (.tuple #[.float .f64 (m + 4602678819172646912), .int .i64 e]) w) := by
  have hn := num_of_pos hx
  have ho := ord_pos h0 hx
  have hx2 := hx
  unfold infR at hx2
  have hmod : x % 9223372036854775808 = x := Nat.mod_eq_of_lt (by omega)
  obtain ⟨xn, xv⟩ := word_pos hx
  obtain ⟨cn, cv⟩ := word_pos (n := 4503599627370496) (by decide)
  rcases Nat.lt_or_ge x (2 ^ 52) with hs | hs
  · -- a subnormal number: times 2 ^ 52, exactly
    obtain ⟨kn, kv⟩ := word_pos (n := 4841369599423283200) (by decide)
    have c52 : rv 4841369599423283200 = pw 52 := by
      have h3 := rv_unit 1074 (2 ^ 52) (by omega) (.inr (by omega))
      rw [show 1074 * 2 ^ 52 + 2 ^ 52 = 4841369599423283200 by decide, ← pw_nat, ← pw_add] at h3
      rw [h3]; congr 1
    have rx : rv x = (x : Rat) * pw (-1074) := by
      have := rv_unit 0 x (by omega) (.inl rfl)
      simpa using this
    have hq : val x * val 4841369599423283200 = (x : Rat) * pw (-1022) := by
      rw [kv, xv, c52, rx, Rat.mul_assoc, ← pw_add]; congr 2
    have hx1 : (1 : Rat) ≤ (x : Rat) := by exact_mod_cast h0
    have hx3 : (x : Rat) ≤ 4503599627370496 := by
      have := Rat.natCast_le_natCast.2 (show x ≤ 4503599627370496 by omega)
      exact this
    have hbd : Bd (-1022) (-970) ((x : Rat) * pw (-1022)) := by
      have hp := pw_pos (-1022)
      refine ⟨?_, ?_⟩
      · have := Rat.mul_le_mul_of_nonneg_right hx1 (Rat.le_of_lt hp); grind
      · have := Rat.mul_le_mul_of_nonneg_right hx3 (Rat.le_of_lt hp)
        rw [← pw52, ← pw_add, show (52 : Int) + -1022 = -970 by omega] at this
        exact this
    obtain ⟨y, y1, y2, _⟩ := mul_spec xn kn
    rw [hq] at y2
    obtain ⟨yr, yb, _⟩ := y2.bd hbd (by omega) (by omega)
    obtain ⟨yw, yv'⟩ := pos_word yr.fin yb.pos
    rw [yv'] at yb
    have yh : y ≤ 53 * 2 ^ 52 := by
      have h3 := rv_unit 52 (2 ^ 52) (by omega) (.inr (by omega))
      rw [show 52 * 2 ^ 52 + 2 ^ 52 = 53 * 2 ^ 52 by omega, ← pw_nat, ← pw_add, show ((52 : Nat) : Int) + (((52 : Nat) : Int) - 1074) = -970 by omega] at h3
      rw [← rv_le_iff, h3]; exact yb.2
    have hsm : FloatKind.f64.format.order (x % 9223372036854775808) 4503599627370496 = some .lt := by
      rw [hmod]; exact ord_lt xn cn (by rw [xv, cv, rv_lt_iff]; omega)
    have key := fun w => Frexp_of x _ _ _ w rfl (fun w => frexp_num x y (-52) w hn (by rw [ho]; rfl) (fun w => normalize_sub x y w hn.1 hsm y1) (by omega) (by omega) (by omega))
    refine ⟨y % 4503599627370496, -52 + (((y / 4503599627370496 % 2048 : Nat) : Int) - 1023 + 1), by omega, by omega, fun c => by omega, fun _ => by left; omega, fun w => ?_⟩
    · have := key w
      rw [show y / 9223372036854775808 * 9223372036854775808 + y % 4503599627370496 + 4602678819172646912 = y % 4503599627370496 + 4602678819172646912 by omega] at this
      exact this
  · have hsm : (FloatKind.f64.format.order (x % 9223372036854775808) 4503599627370496 == some .lt) = false := by
      have h2 : val 4503599627370496 ≤ val x := by rw [xv, cv, rv_le_iff]; omega
      rw [hmod, ord_fin xn cn]; unfold cmp; rw [if_neg (by grind)]; split <;> rfl
    have key := fun w => Frexp_of x _ _ _ w rfl (fun w => frexp_num x x 0 w hn (by rw [ho]; rfl) (fun w => normalize_nor x w hn.1 hsm) (by omega) (by omega) hn.1)
    refine ⟨x % 4503599627370496, 0 + (((x / 4503599627370496 % 2048 : Nat) : Int) - 1023 + 1), by omega, by omega, fun c => by omega, fun _ => by omega, fun w => ?_⟩
    · have := key w
      rw [show x / 9223372036854775808 * 9223372036854775808 + x % 4503599627370496 + 4602678819172646912 = x % 4503599627370496 + 4602678819172646912 by omega] at this
      exact this
end Go.Proofs.Ytffflefdmhdhnaa
