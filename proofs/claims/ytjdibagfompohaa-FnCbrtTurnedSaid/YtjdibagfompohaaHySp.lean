/- What the reference's Size, NaN, HypotTold and Hypot return. -/
import Derived.Test.YtjdibagfompohaaHyp
namespace Go.Proofs.Ytjdibagfompohaa
open Go.RowKit Flo Ieee

/-- whether a word is an infinity -/
def infB (x : Nat) : Bool := x == 9218868437227405312 || x == 18442240474082181120
theorem infB_true {x : Nat} (h : InfW x) : infB x = true := by rcases h with rfl | rfl <;> decide
theorem infB_false {x : Nat} (h : ¬ InfW x) : infB x = false := by unfold InfW at h; unfold infB; simp; omega

theorem isInf_any (x : Nat) (w : World) (h : x < 18446744073709551616) : Calls Try.prog 24 #[.float .f64 x] w (Ret (.bool (infB x)) w) := by
  rcases cls h with h1 | h1 | h1
  · rw [infB_false (fun c => inf_not_fin c h1)]; exact isInf_fin x w h1
  · rw [infB_true h1]; exact isInf_inf x w h1
  · rw [infB_false (fun c => inf_not_nan c h1)]; exact isInf_nan x w h1

theorem sub_inf_inf : floatBits .sub .f64 9218868437227405312 9218868437227405312 = none := by decide +kernel

/-- It returns a not-a-number. -/
def RetNaN (w : World) (e : Ending) (w' : World) : Prop := ∃ n m, NaNW n ∧ e = .returned (.float .f64 n) ∧ w' = w.drewN m

set_option maxHeartbeats 400000 in
theorem specNaN_any (w : World) : Calls Try.prog 27 #[] w (RetNaN w) := by
  obtain ⟨n, hn, hop⟩ := run_float_none .sub (by simp) 22 _ _ w sub_inf_inf
  go_enter Try.func27, Try.ntmps27
  go_wp2_with (first | (go_at_call 25; refine (specInf_pos _ _ (by omega)).mono ?_; rintro e w' ⟨rfl, rfl⟩))
  go_ret
  exact ⟨n, 1, hn, rfl, rfl⟩

theorem add_zero_num {x : Nat} (h : Num x) (h0 : 0 ≤ val x) : floatBits .add .f64 x 0 = some (x % 9223372036854775808) := by
  show double.add x 0 = _
  obtain ⟨r, r1, r2, r3⟩ := add_spec h fin_zero
  rw [val_zero, Rat.add_zero] at r2 r3
  rcases Decidable.em (val x = 0) with hz | hz
  · rw [r1, r3 hz]
    have : x % 9223372036854775808 = 0 := by
      rcases zero_words h hz with rfl | rfl <;> rfl
    rw [this, show sgn 0 = false by rfl]; simp
  · have hp : 0 < val x := by grind
    have hs : sgn x = false := val_sign.1 hp
    have hlt : x < 9223372036854775808 := by have := h.1; unfold sgn at hs; simp at hs; omega
    have hx := h.2
    rw [Nat.mod_eq_of_lt hlt] at hx
    have hm : val x = rv x := val_pos_of_lt hlt
    obtain ⟨n', hn, hnear, _⟩ := r2.rung
    have h1 := hnear x
    have h2 : ab (val x) = rv x := by rw [hm]; have := rv_nonneg x; unfold ab; grind
    rw [h2] at h1
    have h3 : rv n' = rv x := by unfold ab at h1; grind
    have h4 : n' = x := by
      have h5 : n' ≤ x := rv_le_iff.1 (by rw [h3]; exact Rat.le_refl)
      have h6 : x ≤ n' := rv_le_iff.1 (by rw [h3]; exact Rat.le_refl)
      omega
    have hs2 := r2.pos hp
    have hlt2 : r < 9223372036854775808 := by have := r2.small; unfold sgn at hs2; simp at hs2; omega
    rw [Nat.mod_eq_of_lt hlt2] at hn
    rw [r1, hn, h4, Nat.mod_eq_of_lt hlt]; congr 1; omega

set_option maxHeartbeats 400000 in
theorem size_neg (x y : Nat) (w : World) (h : FloatKind.f64.format.order x 0 = some .lt) (hy : negW x = y) : Calls Try.prog 16 #[.float .f64 x] w (Ret (.float .f64 y) w) := by
  go_enter Try.func16, Try.ntmps16
  go_wp2
  go_ret
  exact ⟨rfl, 0, rfl⟩
set_option maxHeartbeats 400000 in
theorem size_pos (x y : Nat) (w : World) (h : (FloatKind.f64.format.order x 0 == some .lt) = false) (hy : floatBits .add .f64 x 0 = some y) : Calls Try.prog 16 #[.float .f64 x] w (Ret (.float .f64 y) w) := by
  have hop := fun t w => run_float_arith (P := Try.prog) w .add t .f64 _ _ _ hy
  go_enter Try.func16, Try.ntmps16
  go_wp2_with (simp only [hop])
  go_ret
  exact ⟨rfl, 0, rfl⟩
set_option maxHeartbeats 400000 in
theorem size_nan (x : Nat) (w : World) (h : NaNW x) : Calls Try.prog 16 #[.float .f64 x] w (RetNaN w) := by
  obtain ⟨n, hn, hop⟩ := run_float_none .add (by simp) 22 x 0 w (by
    obtain ⟨s, f, hr⟩ := read_nan h
    show double.add x 0 = none
    unfold Format.add; rw [hr]; rfl)
  have ho := ord_nan_l (y := 0) h
  go_enter Try.func16, Try.ntmps16
  go_wp2_with (simp only [hop])
  go_ret
  exact ⟨n, 1, hn, rfl, rfl⟩

theorem size_any (x : Nat) (w : World) (h : x < 18446744073709551616) (hn : ¬ NaNW x) : Calls Try.prog 16 #[.float .f64 x] w (Ret (.float .f64 (x % 9223372036854775808)) w) := by
  rcases cls h with h1 | h1 | h1
  · rcases Rat.le_total (a := 0) (b := val x) with h0 | h0
    · refine size_pos x _ w ?_ (add_zero_num h1 h0)
      rw [ord_fin h1 fin_zero, val_zero]; unfold cmp; rw [if_neg (by grind)]; split <;> rfl
    · rcases Decidable.em (val x = 0) with hz | hz
      · refine size_pos x _ w ?_ (add_zero_num h1 (by grind))
        rw [ord_fin h1 fin_zero, val_zero]; unfold cmp; rw [if_neg (by grind)]; split <;> rfl
      · have hlt : val x < 0 := by grind
        refine size_neg x _ w (ord_lt h1 fin_zero (by rw [val_zero]; exact hlt)) ?_
        have hs := val_sign.2 hlt
        have hge : 9223372036854775808 ≤ x := by unfold sgn at hs; simp at hs; omega
        rw [negW_hi h hge]; omega
  · rcases h1 with rfl | rfl
    · exact size_pos _ _ w (by rw [ord_pinf_l fin_zero]; rfl) (by decide +kernel)
    · exact size_neg _ _ w (ord_ninf_l fin_zero) (by decide +kernel)
  · exact absurd h1 hn
end Go.Proofs.Ytjdibagfompohaa
