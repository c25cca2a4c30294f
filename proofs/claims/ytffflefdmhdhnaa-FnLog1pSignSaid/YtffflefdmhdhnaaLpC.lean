/- What math.Log1p returns where it is told, and the walk of laws.FnLog1pCases. -/
import Derived.Test.YtffflefdmhdhnaaSpB
import Derived.Test.YtffflefdmhdhnaaLp2
namespace Go.Proofs.Ytffflefdmhdhnaa
open Go.RowKit Flo Ieee

theorem m1_word : Num 13830554455654793216 ∧ val 13830554455654793216 = -1 := by
  refine ⟨⟨by decide, by decide⟩, ?_⟩
  rw [val_eq, show sgn 13830554455654793216 = true by decide, show 13830554455654793216 % 9223372036854775808 = 1023 * 2 ^ 52 by decide, rv_one]; simp

set_option maxHeartbeats 400000 in
theorem mathNaN_any (w : World) : Calls Try.prog 47 #[] w (Ret (.float .f64 9221120237041090561) w) := by
  have hf := frombits_run
  go_enter Try.func47, Try.ntmps47
  go_wp2
  go_ret
  exact ⟨rfl, 0, rfl⟩

set_option maxRecDepth 100000 in
set_option maxHeartbeats 1000000 in
theorem log1p_below (x : Nat) (w : World) (h : FloatKind.f64.format.order x 13830554455654793216 = some .lt) : Calls Try.prog 39 #[.float .f64 x] w (Ret (.float .f64 9221120237041090561) w) := by
  go_enter Try.func39, Try.ntmps39
  go_wp2_with (go_at_call 47; refine (mathNaN_any _).mono ?_; rintro e w' ⟨rfl, m, rfl⟩)
  go_ret
  exact ⟨rfl, _, rfl⟩
set_option maxRecDepth 100000 in
set_option maxHeartbeats 1000000 in
theorem log1p_nan (x : Nat) (w : World) (hx : NaNW x) : Calls Try.prog 39 #[.float .f64 x] w (Ret (.float .f64 9221120237041090561) w) := by
  have h := ord_nan_l (y := 13830554455654793216) hx
  have HN := Lib.hid (isNaN_nan x · hx)
  clear hx
  go_enter Try.func39, Try.ntmps39
  go_wp2_with (first | (go_at_call 47; refine (mathNaN_any _).mono ?_; rintro e w' ⟨rfl, m, rfl⟩) | (go_at_call 46; refine (HN.out _).mono ?_; rintro e w' ⟨rfl, m, rfl⟩))
  go_ret
  exact ⟨rfl, _, rfl⟩
set_option maxRecDepth 100000 in
set_option maxHeartbeats 1000000 in
theorem log1p_m1 (x : Nat) (w : World) (hx : Num x) (h : FloatKind.f64.format.order x 13830554455654793216 = some .eq) : Calls Try.prog 39 #[.float .f64 x] w (Ret (.float .f64 18442240474082181120) w) := by
  have HN := Lib.hid (isNaN_not x · hx.1 (fin_not_nan hx))
  clear hx
  go_enter Try.func39, Try.ntmps39
  go_wp2_with (first | (go_at_call 30; refine (mathInf_neg _ _ (by omega)).mono ?_; rintro e w' ⟨rfl, rfl⟩) | (go_at_call 46; refine (HN.out _).mono ?_; rintro e w' ⟨rfl, m, rfl⟩))
  go_ret
  exact ⟨rfl, _, rfl⟩
set_option maxRecDepth 100000 in
set_option maxHeartbeats 1000000 in
theorem log1p_top (w : World) : Calls Try.prog 39 #[.float .f64 9218868437227405312] w (Ret (.float .f64 9218868437227405312) w) := by
  have h := ord_pinf_l m1_word.1
  have HN := Lib.hid (fun w => isNaN_not 9218868437227405312 w (by decide) (inf_not_nan (.inl rfl)))
  have HI := Lib.hid (fun w => mathIsInf1 9218868437227405312 w true (by rw [ord_pinf_l num_max]; rfl))
  go_enter Try.func39, Try.ntmps39
  go_wp2_with (first | (go_at_call 30; refine (mathInf_pos _ _ (by omega)).mono ?_; rintro e w' ⟨rfl, rfl⟩) | (go_at_call 46; refine (HN.out _).mono ?_; rintro e w' ⟨rfl, m, rfl⟩) | (go_at_call 48; refine (HI.out _).mono ?_; rintro e w' ⟨rfl, m, rfl⟩))
  go_ret
  exact ⟨rfl, _, rfl⟩
set_option maxRecDepth 100000 in
set_option maxHeartbeats 1000000 in
theorem log1p_tiny (x a : Nat) (w : World) (hx : Num x) (ha : x % 9223372036854775808 = a) (h : FloatKind.f64.format.order x 13830554455654793216 = some .gt) (h1 : FloatKind.f64.format.order a 4601133428098527026 = some .lt) (h2 : FloatKind.f64.format.order a 4476578029606273024 = some .lt)
    (h3 : FloatKind.f64.format.order a 4363988038922010624 = some .lt) : Calls Try.prog 39 #[.float .f64 x] w (Ret (.float .f64 x) w) := by
  have HN := Lib.hid (isNaN_not x · hx.1 (fin_not_nan hx))
  have HI := Lib.hid (fun w => mathIsInf1 x w false (ord_max hx))
  have HA := Lib.hid (abs_any x · hx.1)
  rw [ha] at HA
  clear hx ha
  go_enter Try.func39, Try.ntmps39
  go_wp2_with (first | (go_at_call 46; refine (HN.out _).mono ?_; rintro e w' ⟨rfl, m, rfl⟩) | (go_at_call 48; refine (HI.out _).mono ?_; rintro e w' ⟨rfl, m, rfl⟩) | (go_at_call 49; refine (HA.out _).mono ?_; rintro e w' ⟨rfl, m, rfl⟩))
  go_ret
  exact ⟨rfl, _, rfl⟩
set_option maxHeartbeats 400000 in
theorem implLog1p_of (x r : Nat) (w : World) (h : ∀ w, Calls Try.prog 39 #[.float .f64 x] w (Ret (.float .f64 r) w)) : Calls Try.prog 19 #[.float .f64 x] w (Ret (.float .f64 r) w) := by
  have H := Lib.hid h; clear h
  go_enter Try.func19, Try.ntmps19
  go_wp2_with (first | (go_at_call 39; refine (H.out _).mono ?_; rintro e w' ⟨rfl, m, rfl⟩) | go_in)
  go_ret
  exact ⟨rfl, _, rfl⟩

/-- Log1p of a zero is this. -/
theorem log1p_zero {x : Nat} (hx : x < 18446744073709551616) (hz : x % 9223372036854775808 = 0) (w : World) : Calls Try.prog 39 #[.float .f64 x] w (Ret (.float .f64 x) w) := by
  have hn : Num x := ⟨hx, by rw [hz]; decide⟩
  have hv : val x = 0 := by rw [val_eq, hz, rv_zero]; simp
  exact log1p_tiny x 0 w hn hz (ord_gt hn m1_word.1 (by rw [m1_word.2, hv]; decide +kernel)) (by decide +kernel) (by decide +kernel) (by decide +kernel)

set_option maxHeartbeats 400000 in
theorem told1_at (x : Nat) (w : World) (hx : x < 18446744073709551616) (bz bg bi : Bool) (h1 : (FloatKind.f64.format.order x 0 == some .eq) = bz) (h2 : (FloatKind.f64.format.order x 13830554455654793216 == some .gt) = bg) (h3 : infB x = bi) :
    Calls Try.prog 28 #[.float .f64 x] w (Ret (.bool (bz || !bg || bi)) w) := by
  cases bz <;> cases bg <;> cases bi <;>
  · go_enter Try.func28, Try.ntmps28
    go_wp2_with (go_at_call 32; refine (isInf_any _ _ hx).mono ?_; rintro e w' ⟨rfl, m, rfl⟩)
    go_ret
    first | exact ⟨rfl, 0, rfl⟩ | exact ⟨rfl, _, rfl⟩
set_option maxHeartbeats 400000 in
theorem spec1_m1 (x : Nat) (w : World) (h : FloatKind.f64.format.order x 13830554455654793216 = some .eq) : Calls Try.prog 29 #[.float .f64 x] w (Ret (.float .f64 18442240474082181120) w) := by
  go_enter Try.func29, Try.ntmps29
  go_wp2_with (go_at_call 15; refine (specInf_neg _ _ (by omega)).mono ?_; rintro e w' ⟨rfl, rfl⟩)
  go_ret
  exact ⟨rfl, 0, rfl⟩
set_option maxHeartbeats 400000 in
theorem spec1_zero (x : Nat) (w : World) (h : (FloatKind.f64.format.order x 13830554455654793216 == some .eq) = false) (h0 : FloatKind.f64.format.order x 0 = some .eq) : Calls Try.prog 29 #[.float .f64 x] w (Ret (.float .f64 x) w) := by
  go_enter Try.func29, Try.ntmps29
  go_wp2
  go_ret
  exact ⟨rfl, 0, rfl⟩
set_option maxHeartbeats 400000 in
theorem spec1_top (w : World) : Calls Try.prog 29 #[.float .f64 9218868437227405312] w (Ret (.float .f64 9218868437227405312) w) := by
  have h := ord_pinf_l m1_word.1
  have h0 := ord_pinf_l fin_zero
  have HI := Lib.hid (fun w => isInf_inf 9218868437227405312 w (.inl rfl))
  go_enter Try.func29, Try.ntmps29
  go_wp2_with (go_at_call 32; refine (HI.out _).mono ?_; rintro e w' ⟨rfl, m, rfl⟩)
  go_ret
  exact ⟨rfl, _, rfl⟩
set_option maxHeartbeats 400000 in
theorem spec1_nan (x : Nat) (w : World) (h : (FloatKind.f64.format.order x 13830554455654793216 == some .eq) = false) (h0 : (FloatKind.f64.format.order x 0 == some .eq) = false) (h1 : (FloatKind.f64.format.order x 0 == some .gt) = false) : Calls Try.prog 29 #[.float .f64 x] w (RetNaN w) := by
  go_enter Try.func29, Try.ntmps29
  go_wp2_with (go_at_call 36; refine (specNaN_any _).mono ?_; rintro e w' ⟨n, m, hn, rfl, rfl⟩)
  go_ret
  exact ⟨n, _, hn, rfl, rfl⟩

set_option maxHeartbeats 400000 in
theorem c1_untold (x : Nat) (w : World) (ht : ∀ w, Calls Try.prog 28 #[.float .f64 x] w (Ret (.bool false) w)) : Calls Try.prog 14 #[.float .f64 x] w (Ret (.bool true) w) := by
  have H := Lib.hid ht; clear ht
  go_enter Try.func14, Try.ntmps14
  go_wp2_with (go_at_call 28; refine (H.out _).mono ?_; rintro e w' ⟨rfl, m, rfl⟩)
  go_ret
  exact ⟨rfl, _, rfl⟩
set_option maxHeartbeats 400000 in
theorem c1_same (x r : Nat) (w : World) (hr : r < 18446744073709551616) (ht : ∀ w, Calls Try.prog 28 #[.float .f64 x] w (Ret (.bool true) w)) (h1 : ∀ w, Calls Try.prog 19 #[.float .f64 x] w (Ret (.float .f64 r) w)) (h2 : ∀ w, Calls Try.prog 29 #[.float .f64 x] w (Ret (.float .f64 r) w)) :
    Calls Try.prog 14 #[.float .f64 x] w (Ret (.bool true) w) := by
  have H := Lib.hid ht; have H1 := Lib.hid h1; have H2 := Lib.hid h2; have H3 := Lib.hid hr
  clear ht h1 h2 hr
  go_enter Try.func14, Try.ntmps14
  go_wp2_with (first | (go_at_call 28; refine (H.out _).mono ?_; rintro e w' ⟨rfl, m, rfl⟩) | (go_at_call 19; refine (H1.out _).mono ?_; rintro e w' ⟨rfl, m1, rfl⟩) | (go_at_call 29; refine (H2.out _).mono ?_; rintro e w' ⟨rfl, m2, rfl⟩) | (go_at_call 22; refine (same_self _ _ H3.out).mono ?_; rintro e w' ⟨rfl, m3, rfl⟩))
  go_ret
  exact ⟨rfl, _, rfl⟩
set_option maxHeartbeats 400000 in
theorem c1_nan (x : Nat) (w : World) (ht : ∀ w, Calls Try.prog 28 #[.float .f64 x] w (Ret (.bool true) w)) (h1 : ∀ w, Calls Try.prog 19 #[.float .f64 x] w (Ret (.float .f64 9221120237041090561) w)) (h2 : ∀ w, Calls Try.prog 29 #[.float .f64 x] w (RetNaN w)) :
    Calls Try.prog 14 #[.float .f64 x] w (Ret (.bool true) w) := by
  have H := Lib.hid ht; have H1 := Lib.hid h1; have H2 := Lib.hid h2
  clear ht h1 h2
  go_enter Try.func14, Try.ntmps14
  go_wp2_with (first | (go_at_call 28; refine (H.out _).mono ?_; rintro e w' ⟨rfl, m, rfl⟩) | (go_at_call 19; refine (H1.out _).mono ?_; rintro e w' ⟨rfl, m1, rfl⟩) | (go_at_call 29; refine (H2.out _).mono ?_; rintro e w' ⟨n', m2, hn', rfl, rfl⟩) | (go_at_call 22; refine (same_nan _ _ _ nan_const hn').mono ?_; rintro e w' ⟨rfl, m3, rfl⟩))
  go_ret
  exact ⟨rfl, _, rfl⟩

theorem ord_not_gt {x y : Nat} (hx : Num x) (hy : Num y) (h : val x ≤ val y) : (FloatKind.f64.format.order x y == some .gt) = false := by
  rw [ord_fin hx hy]; unfold cmp; split
  · rfl
  · rw [if_pos (by grind)]; rfl
theorem ord_ne' {x y : Nat} (hx : Num x) (hy : Num y) (h : val x ≠ val y) : (FloatKind.f64.format.order x y == some .eq) = false := by
  rw [ord_fin hx hy]; unfold cmp; rw [if_neg h]; split <;> rfl

theorem walk_FnLog1pCases (x : Nat) (hx : x < 18446744073709551616) (w : World) :
    Calls Try.prog 14 #[.float .f64 x] w fun e w' => e = .returned (.bool true) ∧ Grown w w' := by
  refine Calls.mono ?_ fun _ _ => Ret.grown
  rcases cls hx with hn | hi | hn
  · have nf := infB_false (fun c => inf_not_fin c hn)
    obtain ⟨mn, mv⟩ := m1_word
    by_cases hz : x % 9223372036854775808 = 0
    · have hv : val x = 0 := by rw [val_eq, hz, rv_zero]; simp
      have o0 := ord_eq hn fin_zero (by rw [hv, val_zero])
      have og := ord_gt hn mn (by rw [mv, hv]; decide +kernel)
      exact c1_same x x w hx (fun w => told1_at x w hx true true false (by rw [o0]; rfl) (by rw [og]; rfl) nf) (fun w => implLog1p_of _ _ w (log1p_zero hx hz)) (fun w => spec1_zero x w (by rw [og]; rfl) o0)
    · have hne : val x ≠ val 0 := by rw [val_zero]; exact val_ne.2 hz
      have o0 := ord_ne' hn fin_zero hne
      rcases Rat.le_total (a := val x) (b := -1) with c | c
      · rcases Decidable.em (val x = -1) with e | e
        · have oe := ord_eq hn mn (by rw [mv]; exact e)
          exact c1_same x _ w (by decide) (fun w => told1_at x w hx false false false o0 (by rw [oe]; rfl) nf) (fun w => implLog1p_of _ _ w (log1p_m1 x · hn oe)) (fun w => spec1_m1 x w oe)
        · have ol := ord_lt hn mn (by rw [mv]; grind)
          exact c1_nan x w (fun w => told1_at x w hx false false false o0 (by rw [ol]; rfl) nf) (fun w => implLog1p_of _ _ w (log1p_below x · ol)) (fun w => spec1_nan x w (by rw [ol]; rfl) o0 (ord_not_gt hn fin_zero (by rw [val_zero]; grind)))
      · rcases Decidable.em (val x = -1) with e | e
        · have oe := ord_eq hn mn (by rw [mv]; exact e)
          exact c1_same x _ w (by decide) (fun w => told1_at x w hx false false false o0 (by rw [oe]; rfl) nf) (fun w => implLog1p_of _ _ w (log1p_m1 x · hn oe)) (fun w => spec1_m1 x w oe)
        · have og := ord_gt hn mn (by rw [mv]; grind)
          exact c1_untold x w (fun w => told1_at x w hx false true false o0 (by rw [og]; rfl) nf)
  · rcases hi with rfl | rfl
    · exact c1_same _ _ w (by decide) (fun w => told1_at _ w hx false true true (by rw [ord_pinf_l fin_zero]; rfl) (by rw [ord_pinf_l m1_word.1]; rfl) (by decide)) (fun w => implLog1p_of _ _ w log1p_top) spec1_top
    · have ol := ord_ninf_l m1_word.1
      exact c1_nan _ w (fun w => told1_at _ w hx false false true (by rw [ord_ninf_l fin_zero]; rfl) (by rw [ol]; rfl) (by decide)) (fun w => implLog1p_of _ _ w (log1p_below _ · ol)) (fun w => spec1_nan _ w (by rw [ol]; rfl) (by rw [ord_ninf_l fin_zero]; rfl) (by rw [ord_ninf_l fin_zero]; rfl))
  · have nf := infB_false (fun c => inf_not_nan c hn)
    exact c1_nan x w (fun w => told1_at x w hx false false false (by rw [ord_nan_l hn]; rfl) (by rw [ord_nan_l hn]; rfl) nf) (fun w => implLog1p_of _ _ w (log1p_nan x · hn)) (fun w => spec1_nan x w (by rw [ord_nan_l hn]; rfl) (by rw [ord_nan_l hn]; rfl) (by rw [ord_nan_l hn]; rfl))
end Go.Proofs.Ytffflefdmhdhnaa
