/- What the reference's IsInf, IsFinite, NaN, LogTold, Log and Log1p return at every word. -/
import Derived.Test.YtffflefdmhdhnaaMath
namespace Go.Proofs.Ytffflefdmhdhnaa
open Go.RowKit Flo Ieee

/-- whether a word is an infinity -/
def infB (x : Nat) : Bool := x == 9218868437227405312 || x == 18442240474082181120
theorem infB_true {x : Nat} (h : InfW x) : infB x = true := by rcases h with rfl | rfl <;> decide
theorem infB_false {x : Nat} (h : ¬ InfW x) : infB x = false := by unfold InfW at h; unfold infB; simp; omega
theorem isInf_any (x : Nat) (w : World) (h : x < 18446744073709551616) : Calls Try.prog 32 #[.float .f64 x] w (Ret (.bool (infB x)) w) := by
  rcases cls h with h1 | h1 | h1
  · rw [infB_false (fun c => inf_not_fin c h1)]; exact isInf_fin x w h1
  · rw [infB_true h1]; exact isInf_inf x w h1
  · rw [infB_false (fun c => inf_not_nan c h1)]; exact isInf_nan x w h1

/-- What IsFinite returns, as a Bool. -/
def finB (x : Nat) : Bool := decide (x % 9223372036854775808 < 9218868437227405312)
theorem finB_true {x : Nat} (h : Num x) : finB x = true := by have := h.2; unfold infR at this; unfold finB; simpa using this
theorem finB_false {x : Nat} (h : x < 18446744073709551616) (hn : ¬ Num x) : finB x = false := by
  unfold finB; rw [decide_eq_false_iff_not]; exact fun c => hn ⟨h, c⟩
theorem num_dec {x : Nat} : Num x ∨ ¬ Num x := Classical.em _
theorem isFinite_any (x : Nat) (w : World) (h : x < 18446744073709551616) : Calls Try.prog 18 #[.float .f64 x] w (Ret (.bool (finB x)) w) := by
  rcases num_dec (x := x) with h1 | h1
  · rw [finB_true h1]; exact isFinite_fin x w h1
  · rw [finB_false h h1]; exact isFinite_not x w h h1

theorem sub_inf_inf : floatBits .sub .f64 9218868437227405312 9218868437227405312 = none := by decide +kernel
/-- It returns a not-a-number. -/
def RetNaN (w : World) (e : Ending) (w' : World) : Prop := ∃ n m, NaNW n ∧ e = .returned (.float .f64 n) ∧ w' = w.drewN m
set_option maxHeartbeats 400000 in
theorem specNaN_any (w : World) : Calls Try.prog 36 #[] w (RetNaN w) := by
  obtain ⟨n, hn, hop⟩ := run_float_none .sub (by simp) 22 _ _ w sub_inf_inf
  go_enter Try.func36, Try.ntmps36
  go_wp2_with (first | (go_at_call 15; refine (specInf_pos _ _ (by omega)).mono ?_; rintro e w' ⟨rfl, rfl⟩))
  go_ret
  exact ⟨n, 1, hn, rfl, rfl⟩
theorem nan_const : NaNW 9221120237041090561 := ⟨by decide, by decide⟩
theorem Ret.nan {n : Nat} (hn : NaNW n) {w : World} {e : Ending} {w' : World} (h : Ret (.float .f64 n) w e w') : RetNaN w e w' := by
  obtain ⟨rfl, m, rfl⟩ := h; exact ⟨n, m, hn, rfl, rfl⟩

theorem ord_pos {x : Nat} (h : 0 < x) (h1 : x < infR) : FloatKind.f64.format.order x 0 = some .gt := by
  have hn : Num x := by unfold infR at h1; exact ⟨by omega, by unfold infR; omega⟩
  have hv : val x = rv x := val_pos_of_lt (by unfold infR at h1; omega)
  exact ord_gt hn fin_zero (by rw [val_zero, hv]; exact rv_pos (by omega))

/-- The kinds of words at which the logarithms are told (a zero, the positive infinity, all else that is not greater than zero), and the others. -/
theorem logKind {x : Nat} (h : x < 18446744073709551616) : (FloatKind.f64.format.order x 0 = some .eq ∧ x % 9223372036854775808 = 0) ∨ x = 9218868437227405312 ∨
    ((FloatKind.f64.format.order x 0 == some .eq) = false ∧ (FloatKind.f64.format.order x 0 == some .gt) = false ∧ (NaNW x ∨ (9223372036854775808 ≤ x ∧ x % 9223372036854775808 ≠ 0))) ∨ (0 < x ∧ x < infR) := by
  rcases cls h with h1 | h1 | h1
  · by_cases hz : x % 9223372036854775808 = 0
    · exact .inl ⟨ord_eq h1 fin_zero (by rw [val_zero, val_eq, hz, rv_zero]; simp), hz⟩
    · have h2 := h1.2
      rcases Nat.lt_or_ge x 9223372036854775808 with hp | hp
      · exact .inr (.inr (.inr ⟨by omega, by rw [Nat.mod_eq_of_lt hp] at h2; exact h2⟩))
      · have hs : sgn x = true := by unfold sgn; simp; omega
        have hv : val x < 0 := by rw [val_eq, hs]; have := rv_pos hz; simp; grind
        have ho := ord_lt h1 fin_zero (by rw [val_zero]; exact hv)
        exact .inr (.inr (.inl ⟨by rw [ho]; rfl, by rw [ho]; rfl, .inr ⟨hp, hz⟩⟩))
  · rcases h1 with rfl | rfl
    · exact .inr (.inl rfl)
    · exact .inr (.inr (.inl ⟨by rw [ord_ninf_l fin_zero]; rfl, by rw [ord_ninf_l fin_zero]; rfl, .inr ⟨by decide, by decide⟩⟩))
  · exact .inr (.inr (.inl ⟨by rw [ord_nan_l h1]; rfl, by rw [ord_nan_l h1]; rfl, .inl h1⟩))

set_option maxHeartbeats 400000 in
theorem logTold_not (x : Nat) (w : World) (h : (FloatKind.f64.format.order x 0 == some .gt) = false) : Calls Try.prog 20 #[.float .f64 x] w (Ret (.bool true) w) := by
  go_enter Try.func20, Try.ntmps20
  go_wp2
  go_ret
  exact ⟨rfl, 0, rfl⟩
set_option maxHeartbeats 400000 in
theorem logTold_gt (x : Nat) (w : World) (b : Bool) (h : FloatKind.f64.format.order x 0 = some .gt) (hx : x < 18446744073709551616) (hb : infB x = b) : Calls Try.prog 20 #[.float .f64 x] w (Ret (.bool b) w) := by
  go_enter Try.func20, Try.ntmps20
  go_wp2_with (go_at_call 32; refine (isInf_any _ _ hx).mono ?_; rintro e w' ⟨rfl, m, rfl⟩)
  go_ret
  exact ⟨rfl, _, rfl⟩
theorem num_of_pos {x : Nat} (h1 : x < infR) : Num x := by unfold infR at h1; exact ⟨by omega, by unfold infR; omega⟩
/-- LogTold is false at positive numbers alone. -/
theorem logTold_any {x : Nat} (hx : x < 18446744073709551616) : (∃ _ : 0 < x, x < infR ∧ ∀ w, Calls Try.prog 20 #[.float .f64 x] w (Ret (.bool false) w)) ∨ (∀ w, Calls Try.prog 20 #[.float .f64 x] w (Ret (.bool true) w)) := by
  rcases logKind hx with ⟨h, hz⟩ | h | ⟨h1, h2, h3⟩ | ⟨h, h1⟩
  · right; intro w; exact logTold_not x w (by rw [h]; rfl)
  · right; intro w; subst h; exact logTold_gt _ w true (ord_pinf_l fin_zero) hx (by decide)
  · right; intro w; exact logTold_not x w h2
  · left; refine ⟨h, h1, fun w => logTold_gt x w false (ord_pos h h1) hx (infB_false (fun c => inf_not_fin c (num_of_pos h1)))⟩

set_option maxHeartbeats 400000 in
theorem specLog_zero (x : Nat) (w : World) (h : FloatKind.f64.format.order x 0 = some .eq) : Calls Try.prog 25 #[.float .f64 x] w (Ret (.float .f64 18442240474082181120) w) := by
  go_enter Try.func25, Try.ntmps25
  go_wp2_with (go_at_call 15; refine (specInf_neg _ _ (by omega)).mono ?_; rintro e w' ⟨rfl, rfl⟩)
  go_ret
  exact ⟨rfl, 0, rfl⟩
set_option maxHeartbeats 400000 in
theorem specLog_top (w : World) : Calls Try.prog 25 #[.float .f64 9218868437227405312] w (Ret (.float .f64 9218868437227405312) w) := by
  have h := ord_pinf_l fin_zero
  have HI := Lib.hid (fun w => isInf_inf 9218868437227405312 w (.inl rfl))
  go_enter Try.func25, Try.ntmps25
  go_wp2_with (go_at_call 32; refine (HI.out _).mono ?_; rintro e w' ⟨rfl, m, rfl⟩)
  go_ret
  exact ⟨rfl, _, rfl⟩
set_option maxHeartbeats 400000 in
theorem specLog_nan (x : Nat) (w : World) (h1 : (FloatKind.f64.format.order x 0 == some .eq) = false) (h2 : (FloatKind.f64.format.order x 0 == some .gt) = false) : Calls Try.prog 25 #[.float .f64 x] w (RetNaN w) := by
  go_enter Try.func25, Try.ntmps25
  go_wp2_with (go_at_call 36; refine (specNaN_any _).mono ?_; rintro e w' ⟨n, m, hn, rfl, rfl⟩)
  go_ret
  exact ⟨n, _, hn, rfl, rfl⟩
end Go.Proofs.Ytffflefdmhdhnaa
