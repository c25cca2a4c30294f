/- The walks of the laws on Log2: its cases, and that it is finite with the right sign. -/
import Derived.Test.YtffflefdmhdhnaaLg2
namespace Go.Proofs.Ytffflefdmhdhnaa
open Go.RowKit Flo Ieee

set_option maxHeartbeats 400000 in
theorem l2cases_untold (x : Nat) (w : World) (ht : ∀ w, Calls Try.prog 20 #[.float .f64 x] w (Ret (.bool false) w)) : Calls Try.prog 12 #[.float .f64 x] w (Ret (.bool true) w) := by
  have H := Lib.hid ht; clear ht
  go_enter Try.func12, Try.ntmps12
  go_wp2_with (go_at_call 20; refine (H.out _).mono ?_; rintro e w' ⟨rfl, m, rfl⟩)
  go_ret
  exact ⟨rfl, _, rfl⟩
set_option maxHeartbeats 400000 in
theorem l2cases_same (x r : Nat) (w : World) (hr : r < 18446744073709551616) (ht : ∀ w, Calls Try.prog 20 #[.float .f64 x] w (Ret (.bool true) w)) (h1 : ∀ w, Calls Try.prog 23 #[.float .f64 x] w (Ret (.float .f64 r) w)) (h2 : ∀ w, Calls Try.prog 27 #[.float .f64 x] w (Ret (.float .f64 r) w)) :
    Calls Try.prog 12 #[.float .f64 x] w (Ret (.bool true) w) := by
  have H := Lib.hid ht; have H1 := Lib.hid h1; have H2 := Lib.hid h2; have H3 := Lib.hid hr
  clear ht h1 h2 hr
  go_enter Try.func12, Try.ntmps12
  go_wp2_with (first | (go_at_call 20; refine (H.out _).mono ?_; rintro e w' ⟨rfl, m, rfl⟩) | (go_at_call 23; refine (H1.out _).mono ?_; rintro e w' ⟨rfl, m1, rfl⟩) | (go_at_call 27; refine (H2.out _).mono ?_; rintro e w' ⟨rfl, m2, rfl⟩) | (go_at_call 22; refine (same_self _ _ H3.out).mono ?_; rintro e w' ⟨rfl, m3, rfl⟩))
  go_ret
  exact ⟨rfl, _, rfl⟩
set_option maxHeartbeats 400000 in
theorem l2cases_nan (x : Nat) (w : World) (ht : ∀ w, Calls Try.prog 20 #[.float .f64 x] w (Ret (.bool true) w)) (h1 : ∀ w, Calls Try.prog 23 #[.float .f64 x] w (RetNaN w)) (h2 : ∀ w, Calls Try.prog 27 #[.float .f64 x] w (RetNaN w)) :
    Calls Try.prog 12 #[.float .f64 x] w (Ret (.bool true) w) := by
  have H := Lib.hid ht; have H1 := Lib.hid h1; have H2 := Lib.hid h2
  clear ht h1 h2
  go_enter Try.func12, Try.ntmps12
  go_wp2_with (first | (go_at_call 20; refine (H.out _).mono ?_; rintro e w' ⟨rfl, m, rfl⟩) | (go_at_call 23; refine (H1.out _).mono ?_; rintro e w' ⟨n, m1, hn, rfl, rfl⟩) | (go_at_call 27; refine (H2.out _).mono ?_; rintro e w' ⟨n', m2, hn', rfl, rfl⟩) | (go_at_call 22; refine (same_nan _ _ _ hn hn').mono ?_; rintro e w' ⟨rfl, m3, rfl⟩))
  go_ret
  exact ⟨rfl, _, rfl⟩
theorem walk_FnLog2Cases (x : Nat) (hx : x < 18446744073709551616) (w : World) :
    Calls Try.prog 12 #[.float .f64 x] w fun e w' => e = .returned (.bool true) ∧ Grown w w' := by
  refine Calls.mono ?_ fun _ _ => Ret.grown
  rcases logKind hx with ⟨h, hz⟩ | h | ⟨h1, h2, h3⟩ | ⟨h, h1⟩
  · exact l2cases_same x _ w (by decide) (told_zero h) (l2_zero hx · hz) (fun w => specLog2_of x _ w fun w => specLog_zero x w h)
  · subst h
    exact l2cases_same _ _ w (by decide) told_top l2_top (fun w => specLog2_of _ _ w specLog_top)
  · exact l2cases_nan x w (fun w => logTold_not x w h2) (l2_nan hx h3) (fun w => specLog2_ofNaN x w fun w => specLog_nan x w h1 h2)
  · exact l2cases_untold x w (told_pos hx h h1)

set_option maxHeartbeats 400000 in
theorem l2number_le (x : Nat) (w : World) (o : Ordering) (h : FloatKind.f64.format.order x 0 = some o) (ho : o = .lt ∨ o = .eq) : Calls Try.prog 13 #[.float .f64 x] w (Ret (.bool true) w) := by
  rcases ho with rfl | rfl <;>
  · go_enter Try.func13, Try.ntmps13
    go_wp2
    go_ret
    exact ⟨rfl, 0, rfl⟩
set_option maxHeartbeats 400000 in
theorem l2number_not (x : Nat) (w : World) (hx : x < 18446744073709551616) (h1 : (FloatKind.f64.format.order x 0 == some .lt) = false) (h2 : (FloatKind.f64.format.order x 0 == some .eq) = false) (hf : finB x = false) : Calls Try.prog 13 #[.float .f64 x] w (Ret (.bool true) w) := by
  go_enter Try.func13, Try.ntmps13
  go_wp2_with (go_at_call 18; refine (isFinite_any _ _ hx).mono ?_; rintro e w' ⟨rfl, m, rfl⟩)
  go_ret
  exact ⟨rfl, _, rfl⟩
set_option maxHeartbeats 1000000 in
theorem l2number_at (x r : Nat) (w : World) (h : FloatKind.f64.format.order x 0 = some .gt) (hx : Num x) (hr : Num r) (h1 : ∀ w, Calls Try.prog 23 #[.float .f64 x] w (Ret (.float .f64 r) w))
    (o2 : FloatKind.f64.format.order x 4611686018427387904 = some .lt ∨ ((FloatKind.f64.format.order x 4611686018427387904 == some .lt) = false ∧ FloatKind.f64.format.order r 0 = some .gt))
    (oh : FloatKind.f64.format.order x 4602678819172646912 = some .gt ∨ ((FloatKind.f64.format.order x 4602678819172646912 == some .gt) = false ∧ FloatKind.f64.format.order r 0 = some .lt)) :
    Calls Try.prog 13 #[.float .f64 x] w (Ret (.bool true) w) := by
  have H1 := Lib.hid h1; have H2 := Lib.hid (isFinite_fin x · hx); have H3 := Lib.hid (isFinite_fin r · hr)
  clear h1 hx hr
  rcases o2 with o2 | ⟨o2, o3⟩ <;> rcases oh with oh | ⟨oh, o4⟩
  all_goals try (rw [o3] at o4; cases o4; done)
  all_goals
    go_enter Try.func13, Try.ntmps13
    go_wp2_with fail
    refine (H2.out _).mono ?_; rintro e w' ⟨rfl, m1, rfl⟩
    go_wp2_with fail
    refine (H1.out _).mono ?_; rintro e w' ⟨rfl, m2, rfl⟩
    go_wp2_with fail
    refine (H3.out _).mono ?_; rintro e w' ⟨rfl, m3, rfl⟩
    go_wp2
    go_ret
    exact ⟨rfl, _, rfl⟩
theorem l2word_two {x : Nat} (h1 : x < infR) : FloatKind.f64.format.order x 4611686018427387904 = some .lt ∨ ((FloatKind.f64.format.order x 4611686018427387904 == some .lt) = false ∧ 1024 * 2 ^ 52 ≤ x) := by
  obtain ⟨xn, xv⟩ := word_pos h1
  obtain ⟨cn, cv⟩ := word_pos (n := 4611686018427387904) (by decide)
  rcases Nat.lt_or_ge x (1024 * 2 ^ 52) with c | c
  · left; exact ord_lt xn cn (by rw [xv, cv, rv_lt_iff]; omega)
  · right; refine ⟨?_, c⟩
    have h2 : val 4611686018427387904 ≤ val x := by rw [xv, cv, rv_le_iff]; omega
    rw [ord_fin xn cn]; unfold cmp; rw [if_neg (by grind)]; split <;> rfl
theorem l2word_half {x : Nat} (h1 : x < infR) : FloatKind.f64.format.order x 4602678819172646912 = some .gt ∨ ((FloatKind.f64.format.order x 4602678819172646912 == some .gt) = false ∧ x ≤ 1022 * 2 ^ 52) := by
  obtain ⟨xn, xv⟩ := word_pos h1
  obtain ⟨cn, cv⟩ := word_pos (n := 4602678819172646912) (by decide)
  rcases Nat.lt_or_ge (1022 * 2 ^ 52) x with c | c
  · left; exact ord_gt xn cn (by rw [xv, cv, rv_lt_iff]; omega)
  · right; refine ⟨?_, c⟩
    have h2 : val x ≤ val 4602678819172646912 := by rw [xv, cv, rv_le_iff]; omega
    rw [ord_fin xn cn]; unfold cmp; split
    · rfl
    · rw [if_pos (by grind)]; rfl
theorem walk_FnLog2Number (x : Nat) (hx : x < 18446744073709551616) (w : World) :
    Calls Try.prog 13 #[.float .f64 x] w fun e w' => e = .returned (.bool true) ∧ Grown w w' := by
  refine Calls.mono ?_ fun _ _ => Ret.grown
  rcases logKind hx with ⟨h, hz⟩ | h | ⟨h1, h2, h3⟩ | ⟨h, h1⟩
  · exact l2number_le x w _ h (.inr rfl)
  · subst h
    exact l2number_not _ w hx (by rw [ord_pinf_l fin_zero]; rfl) (by rw [ord_pinf_l fin_zero]; rfl) (by decide)
  · by_cases hb : FloatKind.f64.format.order x 0 = some .lt
    · exact l2number_le x w _ hb (.inl rfl)
    · refine l2number_not x w hx (by simp [hb]) h1 (finB_false hx (fun hn => hb ?_))
      rcases h3 with h3 | h3
      · exact absurd hn (nan_not_fin h3)
      · have hs : sgn x = true := by unfold sgn; simp; omega
        refine ord_lt hn fin_zero ?_
        rw [val_zero, val_eq, hs]; have := rv_pos h3.2; simp; grind
  · obtain ⟨r, rn, r1, r2, rc⟩ := l2_pos h h1
    refine l2number_at x r w (ord_pos h h1) (num_of_pos h1) rn rc ?_ ?_
    · rcases l2word_two h1 with c | ⟨c, d⟩
      · exact .inl c
      · exact .inr ⟨c, ord_gt rn fin_zero (by rw [val_zero]; exact r1 d)⟩
    · rcases l2word_half h1 with c | ⟨c, d⟩
      · exact .inl c
      · exact .inr ⟨c, ord_lt rn fin_zero (by rw [val_zero]; exact r2 d)⟩
end Go.Proofs.Ytffflefdmhdhnaa
