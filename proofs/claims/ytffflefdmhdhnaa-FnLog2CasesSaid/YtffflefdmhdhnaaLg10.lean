/- What math.Log10 returns at every word, and the walks of the laws on Log10. -/
import Derived.Test.YtffflefdmhdhnaaLgLaw
namespace Go.Proofs.Ytffflefdmhdhnaa
open Go.RowKit Flo Ieee

set_option maxHeartbeats 400000 in
theorem log10_of (x l r : Nat) (w : World) (h : ∀ w, Calls Try.prog 33 #[.float .f64 x] w (Ret (.float .f64 l) w)) (e : floatBits .mul .f64 l 4601495173785380110 = some r) : Calls Try.prog 45 #[.float .f64 x] w (Ret (.float .f64 r) w) := by
  have H := Lib.hid h; clear h
  have hop := fun t w => run_float_arith (P := Try.prog) w .mul t .f64 _ _ _ e
  clear e
  go_enter Try.func45, Try.ntmps45
  go_wp2_with (go_at_call 33; refine (H.out _).mono ?_; rintro e w' ⟨rfl, m, rfl⟩)
  go_ret
  exact ⟨rfl, _, rfl⟩
theorem mul_nan_none {l c : Nat} (h : NaNW l) : floatBits .mul .f64 l c = none := by
  obtain ⟨s, f, hr⟩ := read_nan h
  show double.mul l c = none
  unfold Format.mul; rw [hr]; rfl
set_option maxHeartbeats 400000 in
theorem log10_nan (x l : Nat) (w : World) (hn : NaNW l) (h : ∀ w, Calls Try.prog 33 #[.float .f64 x] w (Ret (.float .f64 l) w)) : Calls Try.prog 45 #[.float .f64 x] w (RetNaN w) := by
  have H := Lib.hid h; clear h
  have HN := Lib.hid (mul_nan_none (c := 4601495173785380110) hn); clear hn
  go_enter Try.func45, Try.ntmps45
  go_wp2_with fail
  refine (H.out _).mono ?_; rintro e w' ⟨rfl, m, rfl⟩
  obtain ⟨n, hn, hop⟩ := run_float_none .mul (by simp) 22 _ _ (w.drewN m) HN.out
  go_wp2
  go_ret
  exact ⟨n, _, hn, rfl, rfl⟩
set_option maxHeartbeats 400000 in
theorem implLog10_of (x r : Nat) (w : World) (h : ∀ w, Calls Try.prog 45 #[.float .f64 x] w (Ret (.float .f64 r) w)) : Calls Try.prog 24 #[.float .f64 x] w (Ret (.float .f64 r) w) := by
  have H := Lib.hid h; clear h
  go_enter Try.func24, Try.ntmps24
  go_wp2_with (first | (go_at_call 45; refine (H.out _).mono ?_; rintro e w' ⟨rfl, m, rfl⟩) | go_in)
  go_ret
  exact ⟨rfl, _, rfl⟩
set_option maxHeartbeats 400000 in
theorem implLog10_ofNaN (x : Nat) (w : World) (h : ∀ w, Calls Try.prog 45 #[.float .f64 x] w (RetNaN w)) : Calls Try.prog 24 #[.float .f64 x] w (RetNaN w) := by
  have H := Lib.hid h; clear h
  go_enter Try.func24, Try.ntmps24
  go_wp2_with (first | (go_at_call 45; refine (H.out _).mono ?_; rintro e w' ⟨n, m, hn, rfl, rfl⟩) | go_in)
  go_ret
  exact ⟨n, _, hn, rfl, rfl⟩

theorem c_inv10 : Num 4601495173785380110 ∧ 444 / 1024 ≤ val 4601495173785380110 ∧ val 4601495173785380110 ≤ 445 / 1024 := by
  obtain ⟨a, b⟩ := cst (w := 4601495173785380110) 1020 7823553867474190 (by decide) (by decide) (by decide) (by decide)
  rw [b, show ((1020 : Nat) : Int) - 1074 = -54 by omega, pwm54, show ((7823553867474190 : Nat) : Rat) = 7823553867474190 by rfl]; unfold uu; exact ⟨a, by grind, by grind⟩

theorem l10_zero {x : Nat} (_hx : x < 18446744073709551616) (w : World) (hz : x % 9223372036854775808 = 0) : Calls Try.prog 24 #[.float .f64 x] w (Ret (.float .f64 18442240474082181120) w) :=
  implLog10_of x _ w fun w => log10_of x _ _ w (log_zero · hz) (by decide +kernel)
theorem l10_top (w : World) : Calls Try.prog 24 #[.float .f64 9218868437227405312] w (Ret (.float .f64 9218868437227405312) w) :=
  implLog10_of _ _ w fun w => log10_of _ _ _ w log_top (by decide +kernel)
theorem l10_nan {x : Nat} (hx : x < 18446744073709551616) (h : NaNW x ∨ (9223372036854775808 ≤ x ∧ x % 9223372036854775808 ≠ 0)) (w : World) : Calls Try.prog 24 #[.float .f64 x] w (RetNaN w) := by
  obtain ⟨n, hn, hl⟩ := log_nan hx h
  exact implLog10_ofNaN _ w fun w => log10_nan x n w hn hl
theorem l10_pos {x : Nat} (h0 : 0 < x) (hx : x < infR) : ∃ r, Num r ∧ (1024 * 2 ^ 52 ≤ x → 0 < val r) ∧ (x ≤ 1022 * 2 ^ 52 → val r < 0) ∧ ∀ w, Calls Try.prog 24 #[.float .f64 x] w (Ret (.float .f64 r) w) := by
  obtain ⟨l, a1, a2, a3, a4, a5, a6, a7, a8, a9⟩ := log_pos h0 hx
  obtain ⟨cn, c0, c1⟩ := c_inv10
  have k := mul_bound a2 (show ab (val 4601495173785380110) ≤ 445 / 1024 by rw [ab_le]; grind)
  obtain ⟨r, e, rr⟩ := mul_r a1 cn (by grind)
  refine ⟨r, rr.fin, fun c => ?_, fun c => ?_, fun w => implLog10_of x _ w fun w => log10_of x l r w a9 e⟩
  · have h1 := a6 c
    have h2 := Rat.mul_le_mul_of_nonneg_right h1 (show 0 ≤ val 4601495173785380110 by grind)
    have := rr.lok 1 (1 / 1024) (by omega) (by decide +kernel) (by grind)
    grind
  · have h1 := a7 c
    have h2 := Rat.mul_le_mul_of_nonneg_right h1 (show 0 ≤ val 4601495173785380110 by grind)
    have := rr.hik (-1) (-(1 / 1024)) (by omega) (by decide +kernel) (by grind)
    grind

-- the thin reference of Log10 and Log2 is that of Log
set_option maxHeartbeats 400000 in
theorem specLog10_of (x r : Nat) (w : World) (h : ∀ w, Calls Try.prog 25 #[.float .f64 x] w (Ret (.float .f64 r) w)) : Calls Try.prog 26 #[.float .f64 x] w (Ret (.float .f64 r) w) := by
  have H := Lib.hid h; clear h
  go_enter Try.func26, Try.ntmps26
  go_wp2_with (first | (go_at_call 25; refine (H.out _).mono ?_; rintro e w' ⟨rfl, m, rfl⟩))
  go_ret
  exact ⟨rfl, _, rfl⟩
set_option maxHeartbeats 400000 in
theorem specLog10_ofNaN (x : Nat) (w : World) (h : ∀ w, Calls Try.prog 25 #[.float .f64 x] w (RetNaN w)) : Calls Try.prog 26 #[.float .f64 x] w (RetNaN w) := by
  have H := Lib.hid h; clear h
  go_enter Try.func26, Try.ntmps26
  go_wp2_with (first | (go_at_call 25; refine (H.out _).mono ?_; rintro e w' ⟨n, m, hn, rfl, rfl⟩))
  go_ret
  exact ⟨n, _, hn, rfl, rfl⟩
set_option maxHeartbeats 400000 in
theorem specLog2_of (x r : Nat) (w : World) (h : ∀ w, Calls Try.prog 25 #[.float .f64 x] w (Ret (.float .f64 r) w)) : Calls Try.prog 27 #[.float .f64 x] w (Ret (.float .f64 r) w) := by
  have H := Lib.hid h; clear h
  go_enter Try.func27, Try.ntmps27
  go_wp2_with (first | (go_at_call 25; refine (H.out _).mono ?_; rintro e w' ⟨rfl, m, rfl⟩))
  go_ret
  exact ⟨rfl, _, rfl⟩
set_option maxHeartbeats 400000 in
theorem specLog2_ofNaN (x : Nat) (w : World) (h : ∀ w, Calls Try.prog 25 #[.float .f64 x] w (RetNaN w)) : Calls Try.prog 27 #[.float .f64 x] w (RetNaN w) := by
  have H := Lib.hid h; clear h
  go_enter Try.func27, Try.ntmps27
  go_wp2_with (first | (go_at_call 25; refine (H.out _).mono ?_; rintro e w' ⟨n, m, hn, rfl, rfl⟩))
  go_ret
  exact ⟨n, _, hn, rfl, rfl⟩
end Go.Proofs.Ytffflefdmhdhnaa
