/- What impl.Log returns at every word, and the walks of the laws on Log. -/
import Derived.Test.YtffflefdmhdhnaaSpB
import Derived.Test.YtffflefdmhdhnaaLo4
namespace Go.Proofs.Ytffflefdmhdhnaa
open Go.RowKit Flo Ieee

theorem archLog_call (x r : Nat) (w : World) (h : (Extern.MathLog.archLog #[.float .f64 x]).run Try.prog w = .ok (.float .f64 r) w) : (callFunc 40 #[.float .f64 x]).run Try.prog w = .ok (.value (.float .f64 r)) w := by
  rw [run_callFunc_extern (e := Extern.MathLog.archLog) Try.func40 (by kernel_rfl) (by kernel_rfl) (by kernel_rfl) (by kernel_rfl), h]
  rfl
set_option maxHeartbeats 400000 in
theorem mathLog_of (x r : Nat) (w : World) (h : ∀ w, (Extern.MathLog.archLog #[.float .f64 x]).run Try.prog w = .ok (.float .f64 r) w) : Calls Try.prog 33 #[.float .f64 x] w (Ret (.float .f64 r) w) := by
  have hc := fun w => archLog_call x r w (h w)
  clear h
  go_enter Try.func33, Try.ntmps33
  go_wp2
  go_ret
  exact ⟨rfl, 0, rfl⟩
set_option maxHeartbeats 400000 in
theorem implLog_of (x r : Nat) (w : World) (h : ∀ w, Calls Try.prog 33 #[.float .f64 x] w (Ret (.float .f64 r) w)) : Calls Try.prog 21 #[.float .f64 x] w (Ret (.float .f64 r) w) := by
  have H := Lib.hid h; clear h
  go_enter Try.func21, Try.ntmps21
  go_wp2_with (go_at_call 33; refine (H.out _).mono ?_; rintro e w' ⟨rfl, m, rfl⟩)
  go_ret
  exact ⟨rfl, _, rfl⟩

theorem log_zero {x : Nat} (w : World) (h : x % 9223372036854775808 = 0) : Calls Try.prog 33 #[.float .f64 x] w (Ret (.float .f64 18442240474082181120) w) :=
  mathLog_of x _ w fun w => archLog_zero _ w h
theorem log_top (w : World) : Calls Try.prog 33 #[.float .f64 9218868437227405312] w (Ret (.float .f64 9218868437227405312) w) :=
  mathLog_of _ _ w fun w => archLog_top _ w (by decide) (by decide) (by decide)
/-- Where the logarithm is a not-a-number: which one. -/
theorem log_nan {x : Nat} (hx : x < 18446744073709551616) (h : NaNW x ∨ (9223372036854775808 ≤ x ∧ x % 9223372036854775808 ≠ 0)) : ∃ n, NaNW n ∧ ∀ w, Calls Try.prog 33 #[.float .f64 x] w (Ret (.float .f64 n) w) := by
  have hz : x % 2 ^ 63 ≠ 0 := by
    rcases h with h | h
    · have := h.2; omega
    · exact h.2
  by_cases h1 : 2 ^ 63 ≤ x
  · exact ⟨_, nan_const, fun w => mathLog_of x _ w fun w => archLog_neg _ w hz h1⟩
  · have hn : NaNW x := by
      rcases h with h | h
      · exact h
      · omega
    have := hn.2
    exact ⟨x, hn, fun w => mathLog_of x _ w fun w => archLog_top _ w hz h1 (by omega)⟩
theorem log_pos {x : Nat} (h0 : 0 < x) (hx : x < infR) : ∃ res, Num res ∧ ab (val res) ≤ 1001 ∧ (1 < val x → 0 < val res) ∧ (val x = 1 → val res = 0) ∧ (val x < 1 → val res < 0) ∧
    (1024 * 2 ^ 52 ≤ x → 154 / 1024 ≤ val res) ∧ (x ≤ 1022 * 2 ^ 52 → val res ≤ -(243 / 1024)) ∧ (1022 * 2 ^ 52 ≤ x → -(1265 / 1024) ≤ val res) ∧ ∀ w, Calls Try.prog 33 #[.float .f64 x] w (Ret (.float .f64 res) w) := by
  obtain ⟨res, hr, a1, a2, a3, a4, a5, a6, a7, a8⟩ := log_run h0 hx
  exact ⟨res, a1, a2, a3, a4, a5, a6, a7, a8, fun w => mathLog_of x res w fun w => archLog_num _ w h0 hx hr⟩

set_option maxHeartbeats 400000 in
theorem lcases_untold (x : Nat) (w : World) (ht : ∀ w, Calls Try.prog 20 #[.float .f64 x] w (Ret (.bool false) w)) : Calls Try.prog 7 #[.float .f64 x] w (Ret (.bool true) w) := by
  have H := Lib.hid ht; clear ht
  go_enter Try.func7, Try.ntmps7
  go_wp2_with (go_at_call 20; refine (H.out _).mono ?_; rintro e w' ⟨rfl, m, rfl⟩)
  go_ret
  exact ⟨rfl, _, rfl⟩
set_option maxHeartbeats 400000 in
theorem lcases_same (x r : Nat) (w : World) (hr : r < 18446744073709551616) (ht : ∀ w, Calls Try.prog 20 #[.float .f64 x] w (Ret (.bool true) w)) (h1 : ∀ w, Calls Try.prog 21 #[.float .f64 x] w (Ret (.float .f64 r) w)) (h2 : ∀ w, Calls Try.prog 25 #[.float .f64 x] w (Ret (.float .f64 r) w)) :
    Calls Try.prog 7 #[.float .f64 x] w (Ret (.bool true) w) := by
  have H := Lib.hid ht; have H1 := Lib.hid h1; have H2 := Lib.hid h2; have H3 := Lib.hid hr
  clear ht h1 h2 hr
  go_enter Try.func7, Try.ntmps7
  go_wp2_with (first | (go_at_call 20; refine (H.out _).mono ?_; rintro e w' ⟨rfl, m, rfl⟩) | (go_at_call 21; refine (H1.out _).mono ?_; rintro e w' ⟨rfl, m1, rfl⟩) | (go_at_call 25; refine (H2.out _).mono ?_; rintro e w' ⟨rfl, m2, rfl⟩) | (go_at_call 22; refine (same_self _ _ H3.out).mono ?_; rintro e w' ⟨rfl, m3, rfl⟩))
  go_ret
  exact ⟨rfl, _, rfl⟩
set_option maxHeartbeats 400000 in
theorem lcases_nan (x : Nat) (w : World) (ht : ∀ w, Calls Try.prog 20 #[.float .f64 x] w (Ret (.bool true) w)) (h1 : ∀ w, Calls Try.prog 21 #[.float .f64 x] w (RetNaN w)) (h2 : ∀ w, Calls Try.prog 25 #[.float .f64 x] w (RetNaN w)) :
    Calls Try.prog 7 #[.float .f64 x] w (Ret (.bool true) w) := by
  have H := Lib.hid ht; have H1 := Lib.hid h1; have H2 := Lib.hid h2
  clear ht h1 h2
  go_enter Try.func7, Try.ntmps7
  go_wp2_with (first | (go_at_call 20; refine (H.out _).mono ?_; rintro e w' ⟨rfl, m, rfl⟩) | (go_at_call 21; refine (H1.out _).mono ?_; rintro e w' ⟨n, m1, hn, rfl, rfl⟩) | (go_at_call 25; refine (H2.out _).mono ?_; rintro e w' ⟨n', m2, hn', rfl, rfl⟩) | (go_at_call 22; refine (same_nan _ _ _ hn hn').mono ?_; rintro e w' ⟨rfl, m3, rfl⟩))
  go_ret
  exact ⟨rfl, _, rfl⟩

theorem told_zero {x : Nat} (h : FloatKind.f64.format.order x 0 = some .eq) (w : World) : Calls Try.prog 20 #[.float .f64 x] w (Ret (.bool true) w) := logTold_not x w (by rw [h]; rfl)
theorem told_top (w : World) : Calls Try.prog 20 #[.float .f64 9218868437227405312] w (Ret (.bool true) w) := logTold_gt _ w true (ord_pinf_l fin_zero) (by decide) (by decide)
theorem told_pos {x : Nat} (hx : x < 18446744073709551616) (h : 0 < x) (h1 : x < infR) (w : World) : Calls Try.prog 20 #[.float .f64 x] w (Ret (.bool false) w) :=
  logTold_gt x w false (ord_pos h h1) hx (infB_false (fun c => inf_not_fin c (num_of_pos h1)))

theorem walk_FnLogCases (x : Nat) (hx : x < 18446744073709551616) (w : World) :
    Calls Try.prog 7 #[.float .f64 x] w fun e w' => e = .returned (.bool true) ∧ Grown w w' := by
  refine Calls.mono ?_ fun _ _ => Ret.grown
  rcases logKind hx with ⟨h, hz⟩ | h | ⟨h1, h2, h3⟩ | ⟨h, h1⟩
  · exact lcases_same x _ w (by decide) (told_zero h) (fun w => implLog_of _ _ w (log_zero · hz)) (fun w => specLog_zero x w h)
  · subst h
    exact lcases_same _ _ w (by decide) told_top (fun w => implLog_of _ _ w log_top) specLog_top
  · obtain ⟨n, hn, hl⟩ := log_nan hx h3
    exact lcases_nan x w (fun w => logTold_not x w h2) (fun w => (implLog_of x n w hl).mono fun _ _ => Ret.nan hn) (fun w => specLog_nan x w h1 h2)
  · exact lcases_untold x w (told_pos hx h h1)

set_option maxHeartbeats 400000 in
theorem lnumber_le (x : Nat) (w : World) (o : Ordering) (h : FloatKind.f64.format.order x 0 = some o) (ho : o = .lt ∨ o = .eq) : Calls Try.prog 8 #[.float .f64 x] w (Ret (.bool true) w) := by
  rcases ho with rfl | rfl <;>
  · go_enter Try.func8, Try.ntmps8
    go_wp2
    go_ret
    exact ⟨rfl, 0, rfl⟩
set_option maxHeartbeats 400000 in
theorem lnumber_not (x : Nat) (w : World) (hx : x < 18446744073709551616) (h : (FloatKind.f64.format.order x 0 == some .lt || FloatKind.f64.format.order x 0 == some .eq) = false) (hf : finB x = false) : Calls Try.prog 8 #[.float .f64 x] w (Ret (.bool true) w) := by
  have h1 : (FloatKind.f64.format.order x 0 == some .lt) = false := by revert h; cases (FloatKind.f64.format.order x 0 == some .lt) <;> simp
  have h2 : (FloatKind.f64.format.order x 0 == some .eq) = false := by revert h; rw [h1]; simp
  clear h
  go_enter Try.func8, Try.ntmps8
  go_wp2_with (go_at_call 18; refine (isFinite_any _ _ hx).mono ?_; rintro e w' ⟨rfl, m, rfl⟩)
  go_ret
  exact ⟨rfl, _, rfl⟩
set_option maxHeartbeats 400000 in
theorem lnumber_at (x r : Nat) (w : World) (h : FloatKind.f64.format.order x 0 = some .gt) (hx : Num x) (hr : Num r) (h1 : ∀ w, Calls Try.prog 21 #[.float .f64 x] w (Ret (.float .f64 r) w))
    (ho : FloatKind.f64.format.order x 4607182418800017408 = some .eq ∨ ((FloatKind.f64.format.order x 4607182418800017408 == some .eq) = false ∧ (FloatKind.f64.format.order r 0 == some .eq) = false)) :
    Calls Try.prog 8 #[.float .f64 x] w (Ret (.bool true) w) := by
  have H1 := Lib.hid h1; have H2 := Lib.hid (isFinite_fin x · hx); have H3 := Lib.hid (isFinite_fin r · hr)
  clear h1 hx hr
  rcases ho with ho | ⟨ho, ho2⟩
  · go_enter Try.func8, Try.ntmps8
    go_wp2_with fail
    refine (H2.out _).mono ?_; rintro e w' ⟨rfl, m1, rfl⟩
    go_wp2_with fail
    refine (H1.out _).mono ?_; rintro e w' ⟨rfl, m2, rfl⟩
    go_wp2_with fail
    refine (H3.out _).mono ?_; rintro e w' ⟨rfl, m3, rfl⟩
    go_wp2
    go_ret
    exact ⟨rfl, _, rfl⟩
  · have ho3 : (FloatKind.f64.format.order r 0 != some .eq) = true := by rw [bne, ho2]; rfl
    go_enter Try.func8, Try.ntmps8
    go_wp2_with fail
    refine (H2.out _).mono ?_; rintro e w' ⟨rfl, m1, rfl⟩
    go_wp2_with fail
    refine (H1.out _).mono ?_; rintro e w' ⟨rfl, m2, rfl⟩
    go_wp2_with fail
    refine (H3.out _).mono ?_; rintro e w' ⟨rfl, m3, rfl⟩
    go_wp2
    go_ret
    exact ⟨rfl, _, rfl⟩

theorem ord_ne {x y : Nat} (hx : Num x) (hy : Num y) (h : val x ≠ val y) : (FloatKind.f64.format.order x y == some .eq) = false := by
  rw [ord_fin hx hy]; unfold cmp; rw [if_neg h]; split <;> rfl

theorem walk_FnLogNumber (x : Nat) (hx : x < 18446744073709551616) (w : World) :
    Calls Try.prog 8 #[.float .f64 x] w fun e w' => e = .returned (.bool true) ∧ Grown w w' := by
  refine Calls.mono ?_ fun _ _ => Ret.grown
  rcases logKind hx with ⟨h, hz⟩ | h | ⟨h1, h2, h3⟩ | ⟨h, h1⟩
  · exact lnumber_le x w _ h (.inr rfl)
  · subst h
    exact lnumber_not _ w hx (by rw [ord_pinf_l fin_zero]; rfl) (by decide)
  · rcases num_dec (x := x) with hn | hn
    · have hlt : val x < 0 := by
        rcases h3 with h3 | h3
        · exact absurd hn (nan_not_fin h3)
        · have hs : sgn x = true := by unfold sgn; simp; omega
          rw [val_eq, hs]; have := rv_pos h3.2; simp; grind
      exact lnumber_le x w _ (ord_lt hn fin_zero (by rw [val_zero]; exact hlt)) (.inl rfl)
    · by_cases hb : FloatKind.f64.format.order x 0 = some .lt
      · exact lnumber_le x w _ hb (.inl rfl)
      · exact lnumber_not x w hx (by rw [h1]; simp [hb]) (finB_false hx hn)
  · obtain ⟨res, a1, a2, a3, a4, a5, a6, a7, a8, a9⟩ := log_pos h h1
    have hn := num_of_pos h1
    refine lnumber_at x res w (ord_pos h h1) hn a1 (fun w => implLog_of _ _ w a9) ?_
    rcases Decidable.em (val x = 1) with e | e
    · left; exact ord_eq hn fin_one (by rw [val_one]; exact e)
    · right; refine ⟨ord_ne hn fin_one (by rw [val_one]; exact e), ord_ne a1 fin_zero ?_⟩
      rw [val_zero]
      rcases Rat.le_total (a := val x) (b := 1) with c | c
      · have := a5 (by grind); grind
      · have := a3 (by grind); grind

set_option maxHeartbeats 400000 in
theorem lsign_not (x : Nat) (w : World) (h : (FloatKind.f64.format.order x 0 == some .gt) = false) : Calls Try.prog 9 #[.float .f64 x] w (Ret (.bool true) w) := by
  go_enter Try.func9, Try.ntmps9
  go_wp2
  go_ret
  exact ⟨rfl, 0, rfl⟩
set_option maxHeartbeats 1000000 in
theorem lsign_at (x r : Nat) (w : World) (h : FloatKind.f64.format.order x 0 = some .gt) (h1 : ∀ w, Calls Try.prog 21 #[.float .f64 x] w (Ret (.float .f64 r) w)) (o : Ordering)
    (o1 : FloatKind.f64.format.order r 0 = some o) (o2 : FloatKind.f64.format.order x 4607182418800017408 = some o) : Calls Try.prog 9 #[.float .f64 x] w (Ret (.bool true) w) := by
  have H1 := Lib.hid h1
  clear h1
  cases o <;>
  · go_enter Try.func9, Try.ntmps9
    go_wp2_with (go_at_call 21; refine (H1.out _).mono ?_; rintro e w' ⟨rfl, m2, rfl⟩)
    go_ret
    exact ⟨rfl, _, rfl⟩
theorem walk_FnLogSign (x : Nat) (hx : x < 18446744073709551616) (w : World) :
    Calls Try.prog 9 #[.float .f64 x] w fun e w' => e = .returned (.bool true) ∧ Grown w w' := by
  refine Calls.mono ?_ fun _ _ => Ret.grown
  rcases logKind hx with ⟨h, hz⟩ | h | ⟨h1, h2, h3⟩ | ⟨h, h1⟩
  · exact lsign_not x w (by rw [h]; rfl)
  · subst h
    exact lsign_at _ _ w (ord_pinf_l fin_zero) (fun w => implLog_of _ _ w log_top) .gt (ord_pinf_l fin_zero) (ord_pinf_l fin_one)
  · exact lsign_not x w h2
  · obtain ⟨res, a1, a2, a3, a4, a5, a6, a7, a8, a9⟩ := log_pos h h1
    have hn := num_of_pos h1
    have hl := fun w => implLog_of _ _ w a9
    rcases Decidable.em (val x = 1) with e | e
    · exact lsign_at x res w (ord_pos h h1) hl .eq (ord_eq a1 fin_zero (by rw [val_zero]; exact a4 e)) (ord_eq hn fin_one (by rw [val_one]; exact e))
    · rcases Rat.le_total (a := val x) (b := 1) with c | c
      · have hv : val x < 1 := by grind
        exact lsign_at x res w (ord_pos h h1) hl .lt (ord_lt a1 fin_zero (by rw [val_zero]; exact a5 hv)) (ord_lt hn fin_one (by rw [val_one]; exact hv))
      · have hv : 1 < val x := by grind
        exact lsign_at x res w (ord_pos h h1) hl .gt (ord_gt a1 fin_zero (by rw [val_zero]; exact a3 hv)) (ord_gt hn fin_one (by rw [val_one]; exact hv))
end Go.Proofs.Ytffflefdmhdhnaa
