/- What impl.Cbrt returns: at zeros, infinities and not-a-numbers the argument; at other numbers a number between it and 1, odd in its sign. -/
import Derived.Test.YtjdibagfompohaaCbW
import Derived.Test.YtjdibagfompohaaHySp
namespace Go.Proofs.Ytjdibagfompohaa
open Go.RowKit Flo Ieee

set_option maxRecDepth 100000 in
set_option maxHeartbeats 400000 in
theorem cbrt_zero_walk (x : Nat) (w : World) (h0 : FloatKind.f64.format.order x 0 = some .eq) : Calls Try.prog 30 #[.float .f64 x] w (Ret (.float .f64 x) w) := by
  go_enter Try.func30, Try.ntmps30
  go_wp2
  go_ret
  exact ⟨rfl, 0, rfl⟩
set_option maxRecDepth 100000 in
set_option maxHeartbeats 400000 in
theorem cbrt_nan_walk (x : Nat) (w : World) (hx : NaNW x) : Calls Try.prog 30 #[.float .f64 x] w (Ret (.float .f64 x) w) := by
  have h0 := ord_nan_l (y := 0) hx
  have HN := Lib.hid (isNaN_nan x · hx)
  clear hx
  go_enter Try.func30, Try.ntmps30
  go_wp2_with (go_at_call 33; refine (HN.out _).mono ?_; rintro e w' ⟨rfl, m, rfl⟩)
  go_ret
  exact ⟨rfl, _, rfl⟩
set_option maxRecDepth 100000 in
set_option maxHeartbeats 400000 in
theorem cbrt_inf_walk (x : Nat) (w : World) (hx : InfW x) (h0 : (FloatKind.f64.format.order x 0 == some .eq) = false) : Calls Try.prog 30 #[.float .f64 x] w (Ret (.float .f64 x) w) := by
  have HN := Lib.hid (isNaN_not x · (inf_lt hx) (inf_not_nan hx))
  have HI := Lib.hid (mathIsInf0_inf x · hx)
  clear hx
  go_enter Try.func30, Try.ntmps30
  go_wp2_with (first | (go_at_call 33; refine (HN.out _).mono ?_; rintro e w' ⟨rfl, m, rfl⟩) | (go_at_call 34; refine (HI.out _).mono ?_; rintro e w' ⟨rfl, m, rfl⟩))
  go_ret
  exact ⟨rfl, _, rfl⟩

theorem cbrt_special (x : Nat) (w : World) (h : x < 18446744073709551616) (hs : x % 9223372036854775808 = 0 ∨ ¬ Num x) : Calls Try.prog 30 #[.float .f64 x] w (Ret (.float .f64 x) w) := by
  rcases cls h with h1 | h1 | h1
  · have hz := hs.resolve_right (fun c => c h1)
    refine cbrt_zero_walk x w (ord_eq h1 fin_zero ?_)
    rw [val_zero, val_eq, hz, rv_zero]; simp
  · refine cbrt_inf_walk x w h1 ?_
    rcases h1 with rfl | rfl
    · rw [ord_pinf_l fin_zero]; rfl
    · rw [ord_ninf_l fin_zero]; rfl
  · exact cbrt_nan_walk x w h1

theorem small_ord {x : Nat} (h : x < infR) : (x < 2 ^ 52 → FloatKind.f64.format.order x 4503599627370496 = some .lt) ∧ (2 ^ 52 ≤ x → (FloatKind.f64.format.order x 4503599627370496 == some .lt) = false) := by
  obtain ⟨xn, xv⟩ := word_pos h
  obtain ⟨cn, cv⟩ := word_pos (n := 4503599627370496) (by decide)
  constructor
  · intro h1; exact ord_lt xn cn (by rw [xv, cv, rv_lt_iff]; omega)
  · intro h1
    have h2 : val 4503599627370496 ≤ val x := by rw [xv, cv, rv_le_iff]; omega
    rw [ord_fin xn cn]; unfold cmp; rw [if_neg (by grind)]; split <;> rfl

/-- The cube root of a positive number, and of the same with the other sign. -/
theorem cbrt_num {x : Nat} (h0 : 0 < x) (h : x < infR) : ∃ res, Num res ∧ (val x < 1 → val x ≤ val res ∧ val res ≤ 1) ∧ (1 ≤ val x → 1 ≤ val res ∧ val res ≤ val x) ∧
    (∀ w, Calls Try.prog 30 #[.float .f64 x] w (Ret (.float .f64 res) w)) ∧ (∀ w, Calls Try.prog 30 #[.float .f64 (negW x)] w (Ret (.float .f64 (negW res)) w)) := by
  obtain ⟨xn, xv⟩ := word_pos h
  have hxp : 0 < val x := by rw [xv]; exact rv_pos (by omega)
  have hx2 : x < 9223372036854775808 := by unfold infR at h; omega
  obtain ⟨nn, nv⟩ := negW_num xn
  have og : FloatKind.f64.format.order x 0 = some .gt := ord_gt xn fin_zero (by rw [val_zero]; exact hxp)
  have ol : FloatKind.f64.format.order (negW x) 0 = some .lt := ord_lt nn fin_zero (by rw [val_zero, nv]; grind)
  rcases Nat.lt_or_ge x (2 ^ 52) with hs | hs
  · obtain ⟨y, y1, y2, y3, y4, y5, y6⟩ := guess_sub h0 hs
    obtain ⟨a1, r, ry, s, sE, ds, den, f, g, t1, e1, e2, e3, e4, e5, e6, e7, e8, e9, e10, t1w, t1b, t1c⟩ := cbrt_mid h h0 y3 y4 y5 y6
    obtain ⟨s2, r2, w2, d, wr, r3, tr, res, e11, e12, e13, e14, e15, e16, e17, e18, rn, rb⟩ := cbrt_last h h0 t1b t1c
    have t1s : t1 < 18446744073709551616 := by unfold infR at t1w; omega
    have tcs : t1 - t1 % 2 ^ 30 < 9223372036854775808 := by unfold infR at t1w; omega
    refine ⟨res, rn, rb.1, rb.2, fun w => ?_, fun w => ?_⟩
    · exact cbrt_walk_pos_sub x _ a1 r ry s sE ds den f g t1 _ s2 r2 w2 d wr r3 tr res _ y w xn og ((small_ord h).1 hs) y1 y2 rfl hx2 e1 e2 e3 e4 e5 e6 e7 e8 e9 e10 e11 e12 e13 e14 e15 e16 e17 e18 (chop_bits t1s) tcs rfl
    · exact cbrt_walk_neg_sub x _ a1 r ry s sE ds den f g t1 _ s2 r2 w2 d wr r3 tr res _ (negW x) y w nn ol (negW_negW x) ((small_ord h).1 hs) y1 y2 rfl hx2 e1 e2 e3 e4 e5 e6 e7 e8 e9 e10 e11 e12 e13 e14 e15 e16 e17 e18 (chop_bits t1s) tcs rfl
  · obtain ⟨y3, y4, y5, y6⟩ := guess_normal hs h
    obtain ⟨a1, r, ry, s, sE, ds, den, f, g, t1, e1, e2, e3, e4, e5, e6, e7, e8, e9, e10, t1w, t1b, t1c⟩ := cbrt_mid h h0 y3 y4 y5 y6
    obtain ⟨s2, r2, w2, d, wr, r3, tr, res, e11, e12, e13, e14, e15, e16, e17, e18, rn, rb⟩ := cbrt_last h h0 t1b t1c
    have t1s : t1 < 18446744073709551616 := by unfold infR at t1w; omega
    have tcs : t1 - t1 % 2 ^ 30 < 9223372036854775808 := by unfold infR at t1w; omega
    refine ⟨res, rn, rb.1, rb.2, fun w => ?_, fun w => ?_⟩
    · exact cbrt_walk_pos_nor x _ a1 r ry s sE ds den f g t1 _ s2 r2 w2 d wr r3 tr res _ w xn og ((small_ord h).2 hs) rfl hx2 e1 e2 e3 e4 e5 e6 e7 e8 e9 e10 e11 e12 e13 e14 e15 e16 e17 e18 (chop_bits t1s) tcs rfl
    · exact cbrt_walk_neg_nor x _ a1 r ry s sE ds den f g t1 _ s2 r2 w2 d wr r3 tr res _ (negW x) w nn ol (negW_negW x) ((small_ord h).2 hs) rfl hx2 e1 e2 e3 e4 e5 e6 e7 e8 e9 e10 e11 e12 e13 e14 e15 e16 e17 e18 (chop_bits t1s) tcs rfl

set_option maxHeartbeats 400000 in
theorem impl_cbrt (x r : Nat) (w : World) (h : ∀ w, Calls Try.prog 30 #[.float .f64 x] w (Ret (.float .f64 r) w)) : Calls Try.prog 17 #[.float .f64 x] w (Ret (.float .f64 r) w) := by
  have H := Lib.hid h; clear h
  go_enter Try.func17, Try.ntmps17
  go_wp2_with (first | (go_at_call 30; refine (H.out _).mono ?_; rintro e w' ⟨rfl, m, rfl⟩) | go_in)
  go_ret
  exact ⟨rfl, _, rfl⟩

/-- impl.Cbrt at every word: a function of the word, odd in its sign. -/
theorem cbrt_any {x : Nat} (h : x < 18446744073709551616) : ∃ r, r < 18446744073709551616 ∧ (∀ w, Calls Try.prog 17 #[.float .f64 x] w (Ret (.float .f64 r) w)) ∧ (∀ w, Calls Try.prog 17 #[.float .f64 (negW x)] w (Ret (.float .f64 (negW r)) w)) ∧
    ((x % 9223372036854775808 = 0 ∨ ¬ Num x) → r = x) ∧ (Num x → x % 9223372036854775808 ≠ 0 → Num r ∧ val (r % 9223372036854775808) ≠ 0 ∧ sgn r = sgn x ∧
      (val (x % 9223372036854775808) < 1 → val (x % 9223372036854775808) ≤ val (r % 9223372036854775808) ∧ val (r % 9223372036854775808) ≤ 1) ∧ (1 ≤ val (x % 9223372036854775808) → 1 ≤ val (r % 9223372036854775808) ∧ val (r % 9223372036854775808) ≤ val (x % 9223372036854775808))) := by
  obtain ⟨n1, n2, n3⟩ := negW_rung h
  by_cases hs : x % 9223372036854775808 = 0 ∨ ¬ Num x
  · have hs' : negW x % 9223372036854775808 = 0 ∨ ¬ Num (negW x) := by
      rcases hs with hs | hs
      · left; rw [n2]; exact hs
      · right; intro c
        have := (negW_num c).1
        rw [negW_negW] at this; exact hs this
    refine ⟨x, h, fun w => impl_cbrt x x w (fun w => cbrt_special x w h hs), fun w => impl_cbrt _ _ w (fun w => cbrt_special _ w n1 hs'), fun _ => rfl, fun h1 h2 => ?_⟩
    exact absurd hs (by rintro (c | c); exact h2 c; exact c h1)
  · have hxn : Num x := Decidable.byContradiction (p := Num x) (dec := inferInstanceAs (Decidable (_ ∧ _))) (fun c => hs (.inr c))
    have hx0 : x % 9223372036854775808 ≠ 0 := fun c => hs (.inl c)
    have hxr := hxn.2
    obtain ⟨res, rn, rb1, rb2, w1, w2⟩ := cbrt_num (x := x % 9223372036854775808) (by omega) hxr
    obtain ⟨an, av⟩ := word_pos hxr
    have hap : 0 < val (x % 9223372036854775808) := by rw [av]; exact rv_pos hx0
    have hrp : 0 < val res := by
      rcases Rat.le_total (a := 1) (b := val (x % 9223372036854775808)) with c | c
      · have := rb2 c; grind
      · rcases Decidable.em (val (x % 9223372036854775808) = 1) with e | e
        · have := rb2 (by grind); grind
        · have := rb1 (by grind); grind
    obtain ⟨rw', rv'⟩ := pos_word rn hrp
    have rw2 : res < 9223372036854775808 := by unfold infR at rw'; omega
    have rmod : res % 9223372036854775808 = res := Nat.mod_eq_of_lt rw2
    rcases Nat.lt_or_ge x 9223372036854775808 with hp | hp
    · rw [Nat.mod_eq_of_lt hp] at *
      refine ⟨res, by omega, fun w => impl_cbrt _ _ w w1, fun w => impl_cbrt _ _ w w2, fun c => absurd c hs, fun _ _ => ⟨rn, by rw [rmod]; grind, ?_, by rw [rmod]; exact rb1, by rw [rmod]; exact rb2⟩⟩
      unfold sgn; rw [show res / 9223372036854775808 % 2 = 0 by omega, show x / 9223372036854775808 % 2 = 0 by omega]
    · have hx' : x = negW (x % 9223372036854775808) := by
        rw [negW_lo (by omega)]; omega
      have hnx : negW x = x % 9223372036854775808 := by rw [negW_hi h hp]; omega
      obtain ⟨m1, m2, m3⟩ := negW_rung rn.1
      refine ⟨negW res, m1, fun w => ?_, fun w => ?_, fun c => absurd c hs, fun _ _ => ⟨(negW_num rn).1, by rw [m2, rmod]; grind, ?_, by rw [m2, rmod]; exact rb1, by rw [m2, rmod]; exact rb2⟩⟩
      · have := impl_cbrt (negW (x % 9223372036854775808)) _ w w2
        rw [← hx'] at this; exact this
      · rw [hnx, negW_negW]; exact impl_cbrt _ _ w w1
      · rw [m3]; unfold sgn; rw [show res / 9223372036854775808 % 2 = 0 by omega, show x / 9223372036854775808 % 2 = 1 by omega]; rfl
end Go.Proofs.Ytjdibagfompohaa
