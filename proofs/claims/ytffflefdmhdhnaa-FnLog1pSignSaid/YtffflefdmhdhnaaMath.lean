/- What math.Abs, math.IsNaN, math.IsInf and math.NaN return; the word with the other sign. -/
import Derived.Test.YtffflefdmhdhnaaSp
import Derived.Laws.BitsAllLaws
namespace Go.Proofs.Ytffflefdmhdhnaa
open Go.RowKit Flo Ieee

theorem andNot_sign (x : Nat) (h : x < 18446744073709551616) : bits .andNot .u64 (x : Int) 9223372036854775808 = ((x % 9223372036854775808 : Nat) : Int) := by
  have := u64_andNot_nat x 9223372036854775808 h (by decide)
  rw [show ((9223372036854775808 : Nat) : Int) = 9223372036854775808 by rfl] at this
  rw [this, show 18446744073709551615 - 9223372036854775808 = 2 ^ 63 - 1 by decide, Nat.and_two_pow_sub_one_eq_mod]

set_option maxHeartbeats 400000 in
theorem abs_any (x : Nat) (w : World) (h : x < 18446744073709551616) : Calls Try.prog 49 #[.float .f64 x] w (Ret (.float .f64 (x % 9223372036854775808)) w) := by
  have hb := bits_run
  have hf := frombits_run
  have hm := andNot_sign x h
  go_enter Try.func49, Try.ntmps49
  go_wp2
  go_ret
  exact ⟨rfl, 0, rfl⟩

set_option maxHeartbeats 400000 in
theorem isNaN_nan (x : Nat) (w : World) (h : NaNW x) : Calls Try.prog 46 #[.float .f64 x] w (Ret (.bool true) w) := by
  have ho := ord_nan_l (y := x) h
  go_enter Try.func46, Try.ntmps46
  go_wp2
  go_ret
  exact ⟨rfl, 0, rfl⟩
set_option maxHeartbeats 400000 in
theorem isNaN_not (x : Nat) (w : World) (h : x < 18446744073709551616) (hn : ¬ NaNW x) : Calls Try.prog 46 #[.float .f64 x] w (Ret (.bool false) w) := by
  have ho := ord_refl h hn
  go_enter Try.func46, Try.ntmps46
  go_wp2
  go_ret
  exact ⟨rfl, 0, rfl⟩

theorem num_max : Num 9218868437227405311 := ⟨by decide, by decide⟩
theorem ord_max {x : Nat} (h : Num x) : (FloatKind.f64.format.order x 9218868437227405311 == some .gt) = false := by
  have h1 : val x ≤ val 9218868437227405311 := by
    have h2 := rv_nonneg (x % 9223372036854775808)
    have h3 : rv (x % 9223372036854775808) ≤ rv 9218868437227405311 := by rw [rv_le_iff]; have := h.2; unfold infR at this; omega
    rw [val_pos_of_lt (x := 9218868437227405311) (by decide), val_eq]
    cases sgn x <;> simp <;> grind
  rw [ord_fin h num_max]; unfold cmp
  split
  · rfl
  · rw [if_pos (by grind)]; rfl
theorem num_abs {x : Nat} (h : Num x) : Num (x % 9223372036854775808) := by
  have := h.2
  exact ⟨by omega, by rw [Nat.mod_mod]; exact this⟩
theorem nan_abs {x : Nat} (h : NaNW x) : NaNW (x % 9223372036854775808) := by
  have := h.2
  exact ⟨by omega, by rw [Nat.mod_mod]; exact this⟩
theorem inf_abs {x : Nat} (h : InfW x) : x % 9223372036854775808 = 9218868437227405312 := by unfold InfW at h; omega

set_option maxHeartbeats 400000 in
theorem mathIsInf0 (x : Nat) (w : World) (b : Bool) (h : x < 18446744073709551616) (ho : (FloatKind.f64.format.order (x % 9223372036854775808) 9218868437227405311 == some .gt) = b) :
    Calls Try.prog 48 #[.float .f64 x, .int .i64 0] w (Ret (.bool b) w) := by
  go_enter Try.func48, Try.ntmps48
  go_wp2_with (go_at_call 49; refine (abs_any _ _ h).mono ?_; rintro e w' ⟨rfl, m, rfl⟩)
  go_ret
  exact ⟨rfl, _, rfl⟩
theorem mathIsInf0_num (x : Nat) (w : World) (h : Num x) : Calls Try.prog 48 #[.float .f64 x, .int .i64 0] w (Ret (.bool false) w) :=
  mathIsInf0 x w false h.1 (ord_max (num_abs h))
theorem mathIsInf0_inf (x : Nat) (w : World) (h : InfW x) : Calls Try.prog 48 #[.float .f64 x, .int .i64 0] w (Ret (.bool true) w) :=
  mathIsInf0 x w true (inf_lt h) (by rw [inf_abs h, ord_pinf_l num_max]; rfl)
theorem mathIsInf0_nan (x : Nat) (w : World) (h : NaNW x) : Calls Try.prog 48 #[.float .f64 x, .int .i64 0] w (Ret (.bool false) w) :=
  mathIsInf0 x w false h.1 (by rw [ord_nan_l (nan_abs h)]; rfl)

set_option maxHeartbeats 400000 in
theorem mathIsInf1 (x : Nat) (w : World) (b : Bool) (ho : (FloatKind.f64.format.order x 9218868437227405311 == some .gt) = b) :
    Calls Try.prog 48 #[.float .f64 x, .int .i64 1] w (Ret (.bool b) w) := by
  go_enter Try.func48, Try.ntmps48
  go_wp2
  go_ret
  exact ⟨rfl, 0, rfl⟩

theorem negW_lo {x : Nat} (h : x < 9223372036854775808) : negW x = x + 9223372036854775808 := by
  show x ^^^ 2 ^ 63 = x + 9223372036854775808
  rw [show (9223372036854775808 : Nat) = 2 ^ 63 by decide] at *
  apply Nat.eq_of_testBit_eq
  intro i
  rw [Nat.testBit_xor, Nat.testBit_two_pow, Nat.add_comm x]
  rcases Nat.lt_trichotomy i 63 with h1 | h1 | h1
  · rw [Nat.testBit_two_pow_add_gt h1, show decide (63 = i) = false from decide_eq_false (by omega), Bool.xor_false]
  · subst h1; rw [Nat.testBit_two_pow_add_eq]; simp
  · rw [Nat.testBit_lt_two_pow (Nat.lt_of_lt_of_le h (Nat.pow_le_pow_right (by omega) (by omega))), Nat.testBit_lt_two_pow (x := 2 ^ 63 + x) (Nat.lt_of_lt_of_le (show 2 ^ 63 + x < 2 ^ 64 by omega) (Nat.pow_le_pow_right (by omega) (by omega)))]
    rw [show decide (63 = i) = false from decide_eq_false (by omega)]; rfl
theorem negW_negW (x : Nat) : negW (negW x) = x := by
  show (x ^^^ 2 ^ 63) ^^^ 2 ^ 63 = x
  rw [Nat.xor_assoc, Nat.xor_self, Nat.xor_zero]
theorem negW_hi {x : Nat} (h : x < 18446744073709551616) (h1 : 9223372036854775808 ≤ x) : negW x = x - 9223372036854775808 := by
  have h2 := negW_lo (x := x - 9223372036854775808) (by omega)
  rw [show x - 9223372036854775808 + 9223372036854775808 = x by omega] at h2
  rw [← h2, negW_negW]; omega
theorem negW_rung {x : Nat} (h : x < 18446744073709551616) : negW x < 18446744073709551616 ∧ negW x % 9223372036854775808 = x % 9223372036854775808 ∧ sgn (negW x) = !sgn x := by
  rcases Nat.lt_or_ge x 9223372036854775808 with h1 | h1
  · rw [negW_lo h1]; refine ⟨by omega, by omega, ?_⟩
    unfold sgn
    rw [show (x + 9223372036854775808) / 9223372036854775808 % 2 = 1 by omega, show x / 9223372036854775808 % 2 = 0 by omega]; rfl
  · rw [negW_hi h h1]; refine ⟨by omega, by omega, ?_⟩
    unfold sgn
    rw [show (x - 9223372036854775808) / 9223372036854775808 % 2 = 0 by omega, show x / 9223372036854775808 % 2 = 1 by omega]; rfl
theorem negW_num {x : Nat} (h : Num x) : Num (negW x) ∧ val (negW x) = -val x := by
  obtain ⟨h1, h2, h3⟩ := negW_rung h.1
  refine ⟨⟨h1, by rw [h2]; exact h.2⟩, ?_⟩
  rw [val_eq, val_eq, h2, h3]; cases sgn x <;> simp
theorem negW_nan {x : Nat} (h : NaNW x) : NaNW (negW x) := by
  obtain ⟨h1, h2, h3⟩ := negW_rung h.1
  exact ⟨h1, by rw [h2]; exact h.2⟩
theorem negW_infs {x : Nat} (h : InfW x) : InfW (negW x) := by
  rcases h with rfl | rfl
  · right; decide +kernel
  · left; decide +kernel
end Go.Proofs.Ytffflefdmhdhnaa
