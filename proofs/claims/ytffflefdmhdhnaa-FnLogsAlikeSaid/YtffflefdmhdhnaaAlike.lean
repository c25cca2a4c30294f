/- The walk of laws.FnLogsAlike: Log, Log2 and Log10 are the same, and not zero, where one is told. -/
import Derived.Test.YtffflefdmhdhnaaLg2
namespace Go.Proofs.Ytffflefdmhdhnaa
open Go.RowKit Flo Ieee

set_option maxHeartbeats 400000 in
theorem alike_untold (x : Nat) (w : World) (ht : ∀ w, Calls Try.prog 20 #[.float .f64 x] w (Ret (.bool false) w)) : Calls Try.prog 6 #[.float .f64 x] w (Ret (.bool true) w) := by
  have H := Lib.hid ht; clear ht
  go_enter Try.func6, Try.ntmps6
  go_wp2_with (go_at_call 20; refine (H.out _).mono ?_; rintro e w' ⟨rfl, m, rfl⟩)
  go_ret
  exact ⟨rfl, _, rfl⟩
set_option maxHeartbeats 1000000 in
theorem alike_same (x r : Nat) (w : World) (hr : r < 18446744073709551616) (h0 : (FloatKind.f64.format.order r 0 != some .eq) = true) (ht : ∀ w, Calls Try.prog 20 #[.float .f64 x] w (Ret (.bool true) w)) (h1 : ∀ w, Calls Try.prog 21 #[.float .f64 x] w (Ret (.float .f64 r) w))
    (h2 : ∀ w, Calls Try.prog 23 #[.float .f64 x] w (Ret (.float .f64 r) w)) (h3 : ∀ w, Calls Try.prog 24 #[.float .f64 x] w (Ret (.float .f64 r) w)) :
    Calls Try.prog 6 #[.float .f64 x] w (Ret (.bool true) w) := by
  have H := Lib.hid ht; have H1 := Lib.hid h1; have H2 := Lib.hid h2; have H3 := Lib.hid h3; have H4 := Lib.hid hr
  clear ht h1 h2 h3 hr
  go_enter Try.func6, Try.ntmps6
  go_wp2_with (first | (go_at_call 20; refine (H.out _).mono ?_; rintro e w' ⟨rfl, m, rfl⟩) | (go_at_call 21; refine (H1.out _).mono ?_; rintro e w' ⟨rfl, m1, rfl⟩) | (go_at_call 23; refine (H2.out _).mono ?_; rintro e w' ⟨rfl, m2, rfl⟩) | (go_at_call 24; refine (H3.out _).mono ?_; rintro e w' ⟨rfl, m3, rfl⟩) | (go_at_call 22; refine (same_self _ _ H4.out).mono ?_; rintro e w' ⟨rfl, m4, rfl⟩))
  go_ret
  exact ⟨rfl, _, rfl⟩
set_option maxHeartbeats 1000000 in
theorem alike_nan (x r : Nat) (w : World) (hr : NaNW r) (ht : ∀ w, Calls Try.prog 20 #[.float .f64 x] w (Ret (.bool true) w)) (h1 : ∀ w, Calls Try.prog 21 #[.float .f64 x] w (Ret (.float .f64 r) w))
    (h2 : ∀ w, Calls Try.prog 23 #[.float .f64 x] w (RetNaN w)) (h3 : ∀ w, Calls Try.prog 24 #[.float .f64 x] w (RetNaN w)) :
    Calls Try.prog 6 #[.float .f64 x] w (Ret (.bool true) w) := by
  have h0 := ord_nan_l (y := 0) hr
  have H := Lib.hid ht; have H1 := Lib.hid h1; have H2 := Lib.hid h2; have H3 := Lib.hid h3; have H4 := Lib.hid hr
  clear ht h1 h2 h3 hr
  go_enter Try.func6, Try.ntmps6
  go_wp2_with fail
  refine (H.out _).mono ?_; rintro e w' ⟨rfl, m, rfl⟩
  go_wp2_with fail
  refine (H1.out _).mono ?_; rintro e w' ⟨rfl, m1, rfl⟩
  go_wp2_with fail
  refine (H2.out _).mono ?_; rintro e w' ⟨n2, m2, hn2, rfl, rfl⟩
  go_wp2_with fail
  refine (same_nan _ _ _ hn2 H4.out).mono ?_; rintro e w' ⟨rfl, m3, rfl⟩
  go_wp2_with fail
  refine (H3.out _).mono ?_; rintro e w' ⟨n3, m4, hn3, rfl, rfl⟩
  go_wp2_with fail
  refine (same_nan _ _ _ hn3 H4.out).mono ?_; rintro e w' ⟨rfl, m5, rfl⟩
  go_wp2
  go_ret
  exact ⟨rfl, _, rfl⟩
theorem walk_FnLogsAlike (x : Nat) (hx : x < 18446744073709551616) (w : World) :
    Calls Try.prog 6 #[.float .f64 x] w fun e w' => e = .returned (.bool true) ∧ Grown w w' := by
  refine Calls.mono ?_ fun _ _ => Ret.grown
  rcases logKind hx with ⟨h, hz⟩ | h | ⟨h1, h2, h3⟩ | ⟨h, h1⟩
  · exact alike_same x _ w (by decide) (by rw [ord_ninf_l fin_zero]; rfl) (told_zero h) (fun w => implLog_of _ _ w (log_zero · hz)) (l2_zero hx · hz) (l10_zero hx · hz)
  · subst h
    exact alike_same _ _ w (by decide) (by rw [ord_pinf_l fin_zero]; rfl) told_top (fun w => implLog_of _ _ w log_top) l2_top l10_top
  · obtain ⟨n, hn, hl⟩ := log_nan hx h3
    exact alike_nan x n w hn (fun w => logTold_not x w h2) (fun w => implLog_of _ _ w hl) (l2_nan hx h3) (l10_nan hx h3)
  · exact alike_untold x w (told_pos hx h h1)
end Go.Proofs.Ytffflefdmhdhnaa
