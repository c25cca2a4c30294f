/- What the reference's small functions return. -/
import Derived.Test.YtffflefdmhdhnaaInf
import Derived.Test.YtffflefdmhdhnaaCls
namespace Go.Proofs.Ytffflefdmhdhnaa
open Go.RowKit Flo Ieee

set_option maxHeartbeats 400000 in
theorem isFinite_fin (x : Nat) (w : World) (h : Num x) : Calls Try.prog 18 #[.float .f64 x] w (Ret (.bool true) w) := by
  have hop := fun t w => run_float_arith (P := Try.prog) w .sub t .f64 x x 0 (sub_self_fin h)
  go_enter Try.func18, Try.ntmps18
  go_wp2_with (simp only [hop])
  go_ret
  exact ⟨rfl, 0, rfl⟩

set_option maxHeartbeats 400000 in
theorem isFinite_not (x : Nat) (w : World) (h : x < 18446744073709551616) (hf : ¬ Num x) : Calls Try.prog 18 #[.float .f64 x] w (Ret (.bool false) w) := by
  obtain ⟨n, hn, hop⟩ := run_float_none .sub (by simp) 22 x x w (sub_self_none h hf)
  have ho := ord_nan_l (y := 0) hn
  go_enter Try.func18, Try.ntmps18
  go_wp2_with (simp only [hop])
  go_ret
  exact ⟨rfl, 1, rfl⟩

set_option maxHeartbeats 400000 in
theorem isInf_inf (x : Nat) (w : World) (h : InfW x) : Calls Try.prog 32 #[.float .f64 x] w (Ret (.bool true) w) := by
  have ho := ord_refl (inf_lt h) (inf_not_nan h)
  go_enter Try.func32, Try.ntmps32
  go_wp2_with (go_at_call 18; refine (isFinite_not _ _ (inf_lt h) (inf_not_fin h)).mono ?_; rintro e w' ⟨rfl, m, rfl⟩)
  go_ret
  exact ⟨rfl, _, rfl⟩

set_option maxHeartbeats 400000 in
theorem isInf_fin (x : Nat) (w : World) (h : Num x) : Calls Try.prog 32 #[.float .f64 x] w (Ret (.bool false) w) := by
  have ho := ord_eq h h rfl
  go_enter Try.func32, Try.ntmps32
  go_wp2_with (go_at_call 18; refine (isFinite_fin _ _ h).mono ?_; rintro e w' ⟨rfl, m, rfl⟩)
  go_ret
  exact ⟨rfl, _, rfl⟩

set_option maxHeartbeats 400000 in
theorem isInf_nan (x : Nat) (w : World) (h : NaNW x) : Calls Try.prog 32 #[.float .f64 x] w (Ret (.bool false) w) := by
  have ho := ord_nan_l (y := x) h
  go_enter Try.func32, Try.ntmps32
  go_wp2
  go_ret
  exact ⟨rfl, 0, rfl⟩

set_option maxHeartbeats 400000 in
theorem same_nan (x y : Nat) (w : World) (hx : NaNW x) (hy : NaNW y) : Calls Try.prog 22 #[.float .f64 x, .float .f64 y] w (Ret (.bool true) w) := by
  have h1 := ord_nan_l (y := x) hx
  have h2 := ord_nan_l (y := y) hy
  go_enter Try.func22, Try.ntmps22
  go_wp2
  go_ret
  exact ⟨rfl, 0, rfl⟩

theorem div_one_zero : floatBits .quo .f64 4607182418800017408 0 = some 9218868437227405312 := by decide +kernel
theorem div_one_negzero : floatBits .quo .f64 4607182418800017408 9223372036854775808 = some 18442240474082181120 := by decide +kernel

set_option maxHeartbeats 400000 in
theorem same_zero (w : World) : Calls Try.prog 22 #[.float .f64 0, .float .f64 0] w (Ret (.bool true) w) := by
  have hop := fun t w => run_float_arith (P := Try.prog) w .quo t .f64 _ _ _ div_one_zero
  go_enter Try.func22, Try.ntmps22
  go_wp2_with (simp only [hop])
  go_ret
  exact ⟨rfl, 0, rfl⟩

set_option maxHeartbeats 400000 in
theorem same_negzero (w : World) : Calls Try.prog 22 #[.float .f64 9223372036854775808, .float .f64 9223372036854775808] w (Ret (.bool true) w) := by
  have hop := fun t w => run_float_arith (P := Try.prog) w .quo t .f64 _ _ _ div_one_negzero
  go_enter Try.func22, Try.ntmps22
  go_wp2_with (simp only [hop])
  go_ret
  exact ⟨rfl, 0, rfl⟩

set_option maxHeartbeats 400000 in
theorem same_number (x : Nat) (w : World) (h1 : FloatKind.f64.format.order x x = some .eq) (h2 : (FloatKind.f64.format.order x 0 != some .eq) = true) : Calls Try.prog 22 #[.float .f64 x, .float .f64 x] w (Ret (.bool true) w) := by
  go_enter Try.func22, Try.ntmps22
  go_wp2
  go_ret
  exact ⟨rfl, 0, rfl⟩

theorem zero_words {x : Nat} (h : Num x) (h0 : val x = 0) : x = 0 ∨ x = 9223372036854775808 := by
  have h1 : x % 9223372036854775808 = 0 := by
    rcases Nat.eq_zero_or_pos (x % 9223372036854775808) with h1 | h1
    · exact h1
    · exact absurd h0 (val_ne.2 (by omega))
  have := h.1
  omega

/-- The same word is the same. -/
theorem same_self (x : Nat) (w : World) (h : x < 18446744073709551616) : Calls Try.prog 22 #[.float .f64 x, .float .f64 x] w (Ret (.bool true) w) := by
  rcases cls h with h1 | h1 | h1
  · rcases Decidable.em (val x = 0) with h0 | h0
    · rcases zero_words h1 h0 with rfl | rfl
      · exact same_zero w
      · exact same_negzero w
    · refine same_number x w (ord_eq h1 h1 rfl) ?_
      rw [ord_fin h1 fin_zero, val_zero]; unfold cmp; rw [if_neg h0]; split <;> rfl
  · refine same_number x w (ord_refl h (inf_not_nan h1)) ?_
    rcases h1 with rfl | rfl
    · rw [ord_pinf_l fin_zero]; rfl
    · rw [ord_ninf_l fin_zero]; rfl
  · exact same_nan x x w h1 h1
end Go.Proofs.Ytffflefdmhdhnaa
