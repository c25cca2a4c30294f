/- The walks of the last laws on Hypot: Signs, Number, Least, Zero. -/
import Derived.Test.YtjdibagfompohaaHyLaw2
namespace Go.Proofs.Ytjdibagfompohaa
open Go.RowKit Flo Ieee

set_option maxHeartbeats 1000000 in
theorem signs_at (p q r : Nat) (w : World) (h1 : ∀ w, Calls Try.prog 22 #[.float .f64 p, .float .f64 q] w (Ret (.float .f64 r) w)) (h2 : ∀ w, Calls Try.prog 22 #[.float .f64 (negW p), .float .f64 q] w (Ret (.float .f64 r) w))
    (h3 : ∀ w, Calls Try.prog 22 #[.float .f64 p, .float .f64 (negW q)] w (Ret (.float .f64 r) w)) (h4 : ∀ w, Calls Try.prog 22 #[.float .f64 (negW p), .float .f64 (negW q)] w (Ret (.float .f64 r) w)) (hr : r < 18446744073709551616)
    (ho : FloatKind.f64.format.order r r = none ∨ (FloatKind.f64.format.order r r = some .eq ∧ (FloatKind.f64.format.order q q = none ∨ (FloatKind.f64.format.order q q = some .eq ∧ (FloatKind.f64.format.order r q = some .gt ∨ FloatKind.f64.format.order r q = some .eq))))) :
    Calls Try.prog 12 #[.float .f64 p, .float .f64 q] w (Ret (.bool true) w) := by
  have H1 := Lib.hid h1; have H2 := Lib.hid h2; have H3 := Lib.hid h3; have H4 := Lib.hid h4; have H5 := Lib.hid hr
  clear h1 h2 h3 h4 hr
  rcases ho with ho | ⟨ho, ho2 | ⟨ho2, ho3 | ho3⟩⟩ <;>
  · go_enter Try.func12, Try.ntmps12
    go_wp2_with fail
    refine (H1.out _).mono ?_; rintro e w' ⟨rfl, m1, rfl⟩
    go_wp2_with fail
    refine (H2.out _).mono ?_; rintro e w' ⟨rfl, m2, rfl⟩
    go_wp2_with fail
    refine (same_self _ _ H5.out).mono ?_; rintro e w' ⟨rfl, m3, rfl⟩
    go_wp2_with fail
    refine (H3.out _).mono ?_; rintro e w' ⟨rfl, m4, rfl⟩
    go_wp2_with fail
    refine (same_self _ _ H5.out).mono ?_; rintro e w' ⟨rfl, m5, rfl⟩
    go_wp2_with fail
    refine (H4.out _).mono ?_; rintro e w' ⟨rfl, m6, rfl⟩
    go_wp2_with fail
    refine (same_self _ _ H5.out).mono ?_; rintro e w' ⟨rfl, m7, rfl⟩
    go_wp2
    go_ret
    exact ⟨rfl, _, rfl⟩
theorem walk_FnHypotSigns (p : Nat) (hp : p < 18446744073709551616) (q : Nat) (hq : q < 18446744073709551616) (w : World) :
    Calls Try.prog 12 #[.float .f64 p, .float .f64 q] w fun e w' => e = .returned (.bool true) ∧ Grown w w' := by
  refine Calls.mono ?_ fun _ _ => Ret.grown
  obtain ⟨r, h, hr⟩ := hyp_some hp hq
  have np : negW p % 2 ^ 63 = p % 2 ^ 63 := (negW_rung hp).2.1
  have nq : negW q % 2 ^ 63 = q % 2 ^ 63 := (negW_rung hq).2.1
  exact signs_at p q r w (fun w => hypot_any p q r w h) (fun w => hypot_any _ _ r w (by rw [hyp_rung np rfl]; exact h)) (fun w => hypot_any _ _ r w (by rw [hyp_rung rfl nq]; exact h)) (fun w => hypot_any _ _ r w (by rw [hyp_rung np nq]; exact h)) hr
    (hyp_ge hq hp (by rw [hyp_comm hq hp]; exact h))

set_option maxHeartbeats 400000 in
theorem number_nan (p q : Nat) (w : World) (np nq : Bool) (op : (FloatKind.f64.format.order p p != some .eq) = np) (oq : (FloatKind.f64.format.order q q != some .eq) = nq) (hn : (np || nq) = true) :
    Calls Try.prog 11 #[.float .f64 p, .float .f64 q] w (Ret (.bool true) w) := by
  cases np <;> cases nq <;> cases hn <;>
  · go_enter Try.func11, Try.ntmps11
    go_wp2
    go_ret
    exact ⟨rfl, 0, rfl⟩
set_option maxHeartbeats 1000000 in
theorem number_pos (p q r : Nat) (w : World) (h1 : ∀ w, Calls Try.prog 22 #[.float .f64 p, .float .f64 q] w (Ret (.float .f64 r) w)) (op : FloatKind.f64.format.order p p = some .eq) (oq : FloatKind.f64.format.order q q = some .eq)
    (ho : FloatKind.f64.format.order r 0 = some .gt) (zp zq : Bool) (hzp : (FloatKind.f64.format.order p 0 == some .eq) = zp) (hzq : (FloatKind.f64.format.order q 0 == some .eq) = zq) (hz : (zp && zq) = false) :
    Calls Try.prog 11 #[.float .f64 p, .float .f64 q] w (Ret (.bool true) w) := by
  have H1 := Lib.hid h1
  clear h1
  cases zp <;> cases zq <;> cases hz <;>
  · go_enter Try.func11, Try.ntmps11
    go_wp2_with (go_at_call 22; refine (H1.out _).mono ?_; rintro e w' ⟨rfl, m1, rfl⟩)
    go_ret
    exact ⟨rfl, _, rfl⟩
set_option maxHeartbeats 1000000 in
theorem number_zero (p q : Nat) (w : World) (h1 : ∀ w, Calls Try.prog 22 #[.float .f64 p, .float .f64 q] w (Ret (.float .f64 0) w)) (op : FloatKind.f64.format.order p p = some .eq) (oq : FloatKind.f64.format.order q q = some .eq)
    (hzp : FloatKind.f64.format.order p 0 = some .eq) (hzq : FloatKind.f64.format.order q 0 = some .eq) :
    Calls Try.prog 11 #[.float .f64 p, .float .f64 q] w (Ret (.bool true) w) := by
  have H1 := Lib.hid h1
  clear h1
  have hop := fun t w => run_float_arith (P := Try.prog) w .quo t .f64 _ _ _ div_one_zero
  go_enter Try.func11, Try.ntmps11
  go_wp2_with (first | (go_at_call 22; refine (H1.out _).mono ?_; rintro e w' ⟨rfl, m1, rfl⟩))
  go_ret
  exact ⟨rfl, _, rfl⟩

theorem zero_ord {x : Nat} (h : x < 18446744073709551616) (hn : ¬ NaNW x) : (FloatKind.f64.format.order x 0 == some .eq) = decide (x % 9223372036854775808 = 0) := by
  rcases cls h with h1 | h1 | h1
  · by_cases hz : x % 9223372036854775808 = 0
    · have : val x = 0 := by rw [val_eq, hz, rv_zero]; simp
      rw [ord_eq h1 fin_zero (by rw [this, val_zero])]; simp [hz]
    · have hv := val_ne.2 hz
      rw [ord_fin h1 fin_zero, val_zero]; unfold cmp; rw [if_neg hv]
      split <;> simp [hz]
  · rcases h1 with rfl | rfl <;> decide +kernel
  · exact absurd h1 hn
theorem pos_ord {r : Nat} (h : r ≤ infR) (h0 : r ≠ 0) : FloatKind.f64.format.order r 0 = some .gt := by
  rcases Nat.lt_or_ge r infR with h1 | h1
  · obtain ⟨r1, r2, r3⟩ := num_rung h1
    exact ord_gt r1 fin_zero (by rw [val_zero, r2]; exact rv_pos h0)
  · obtain rfl : r = 9218868437227405312 := by unfold infR at h h1; omega
    exact ord_pinf_l fin_zero

/-- Hypot at words that are no not-a-numbers. -/
theorem hyp_not_nan {p q : Nat} (hp : p < 18446744073709551616) (hq : q < 18446744073709551616) (np : ¬ NaNW p) (nq : ¬ NaNW q) : ∃ r, hypW p q = some r ∧ r ≤ infR ∧ p % 9223372036854775808 ≤ r ∧ q % 9223372036854775808 ≤ r ∧ (r = 0 ↔ p % 9223372036854775808 = 0 ∧ q % 9223372036854775808 = 0) := by
  by_cases hi : InfW p ∨ InfW q
  · refine ⟨_, hyp_inf hi, Nat.le_refl _, ?_, ?_, ?_⟩
    · unfold NaNW at np; omega
    · unfold NaNW at nq; omega
    · unfold InfW at hi; omega
  · exact hyp_num ((cls hp).resolve_right (fun c => c.elim (fun c => hi (.inl c)) np)) ((cls hq).resolve_right (fun c => c.elim (fun c => hi (.inr c)) nq))

theorem nan_dec (x : Nat) : NaNW x ∨ ¬ NaNW x := by unfold NaNW; omega
theorem num_small {r : Nat} (h : r ≤ infR) : r < 18446744073709551616 := by unfold infR at h; omega

theorem walk_FnHypotNumber (p : Nat) (hp : p < 18446744073709551616) (q : Nat) (hq : q < 18446744073709551616) (w : World) :
    Calls Try.prog 11 #[.float .f64 p, .float .f64 q] w fun e w' => e = .returned (.bool true) ∧ Grown w w' := by
  refine Calls.mono ?_ fun _ _ => Ret.grown
  rcases nan_dec p with n1 | n1
  · rcases nan_dec q with n2 | n2
    · exact number_nan p q w true true (by rw [ord_nan_l n1]; rfl) (by rw [ord_nan_l n2]; rfl) rfl
    · exact number_nan p q w true false (by rw [ord_nan_l n1]; rfl) (by rw [ord_refl hq n2]; rfl) rfl
  · rcases nan_dec q with n2 | n2
    · exact number_nan p q w false true (by rw [ord_refl hp n1]; rfl) (by rw [ord_nan_l n2]; rfl) rfl
    · obtain ⟨r, r1, r2, r3, r4, r5⟩ := hyp_not_nan hp hq n1 n2
      have zp := zero_ord hp n1
      have zq := zero_ord hq n2
      by_cases hr : r = 0
      · obtain ⟨e1, e2⟩ := r5.1 hr
        subst hr
        exact number_zero p q w (fun w => hypot_any p q _ w r1) (ord_refl hp n1) (ord_refl hq n2) (by rw [e1] at zp; simpa using zp) (by rw [e2] at zq; simpa using zq)
      · exact number_pos p q r w (fun w => hypot_any p q _ w r1) (ord_refl hp n1) (ord_refl hq n2) (pos_ord r2 hr) _ _ zp zq (by
          have := fun c => hr (r5.2 c)
          by_cases e1 : p % 9223372036854775808 = 0
          · by_cases e2 : q % 9223372036854775808 = 0
            · exact absurd ⟨e1, e2⟩ this
            · simp [e2]
          · simp [e1])

set_option maxHeartbeats 400000 in
theorem least_nan (p q : Nat) (w : World) (np nq : Bool) (op : (FloatKind.f64.format.order p p != some .eq) = np) (oq : (FloatKind.f64.format.order q q != some .eq) = nq) (hn : (np || nq) = true) :
    Calls Try.prog 10 #[.float .f64 p, .float .f64 q] w (Ret (.bool true) w) := by
  cases np <;> cases nq <;> cases hn <;>
  · go_enter Try.func10, Try.ntmps10
    go_wp2
    go_ret
    exact ⟨rfl, 0, rfl⟩
set_option maxHeartbeats 1000000 in
theorem least_at (p q r p' q' : Nat) (w : World) (h1 : ∀ w, Calls Try.prog 22 #[.float .f64 p, .float .f64 q] w (Ret (.float .f64 r) w)) (op : FloatKind.f64.format.order p p = some .eq) (oq : FloatKind.f64.format.order q q = some .eq)
    (h2 : ∀ w, Calls Try.prog 16 #[.float .f64 p] w (Ret (.float .f64 p') w)) (h3 : ∀ w, Calls Try.prog 16 #[.float .f64 q] w (Ret (.float .f64 q') w))
    (o1 : FloatKind.f64.format.order r p' = some .gt ∨ FloatKind.f64.format.order r p' = some .eq) (o2 : FloatKind.f64.format.order r q' = some .gt ∨ FloatKind.f64.format.order r q' = some .eq) :
    Calls Try.prog 10 #[.float .f64 p, .float .f64 q] w (Ret (.bool true) w) := by
  have H1 := Lib.hid h1; have H2 := Lib.hid h2; have H3 := Lib.hid h3
  clear h1 h2 h3
  rcases o1 with o1 | o1 <;> rcases o2 with o2 | o2 <;>
  · go_enter Try.func10, Try.ntmps10
    go_wp2_with fail
    refine (H1.out _).mono ?_; rintro e w' ⟨rfl, m1, rfl⟩
    go_wp2_with fail
    refine (H2.out _).mono ?_; rintro e w' ⟨rfl, m2, rfl⟩
    go_wp2_with fail
    refine (H3.out _).mono ?_; rintro e w' ⟨rfl, m3, rfl⟩
    go_wp2
    go_ret
    exact ⟨rfl, _, rfl⟩
theorem walk_FnHypotLeast (p : Nat) (hp : p < 18446744073709551616) (q : Nat) (hq : q < 18446744073709551616) (w : World) :
    Calls Try.prog 10 #[.float .f64 p, .float .f64 q] w fun e w' => e = .returned (.bool true) ∧ Grown w w' := by
  refine Calls.mono ?_ fun _ _ => Ret.grown
  rcases nan_dec p with n1 | n1
  · rcases nan_dec q with n2 | n2
    · exact least_nan p q w true true (by rw [ord_nan_l n1]; rfl) (by rw [ord_nan_l n2]; rfl) rfl
    · exact least_nan p q w true false (by rw [ord_nan_l n1]; rfl) (by rw [ord_refl hq n2]; rfl) rfl
  · rcases nan_dec q with n2 | n2
    · exact least_nan p q w false true (by rw [ord_refl hp n1]; rfl) (by rw [ord_nan_l n2]; rfl) rfl
    · obtain ⟨r, r1, r2, r3, r4, r5⟩ := hyp_not_nan hp hq n1 n2
      exact least_at p q r _ _ w (fun w => hypot_any p q _ w r1) (ord_refl hp n1) (ord_refl hq n2) (fun w => size_any p w hp n1) (fun w => size_any q w hq n2)
        (ord_ge r2 (by omega) (by omega)) (ord_ge r2 (by omega) (by omega))

set_option maxHeartbeats 1000000 in
theorem zero_at (p r : Nat) (w : World) (h1 : ∀ w, Calls Try.prog 22 #[.float .f64 p, .float .f64 0] w (Ret (.float .f64 r) w)) (h2 : ∀ w, Calls Try.prog 22 #[.float .f64 0, .float .f64 p] w (Ret (.float .f64 r) w))
    (h3 : ∀ w, Calls Try.prog 16 #[.float .f64 p] w (Ret (.float .f64 r) w)) (hr : r < 18446744073709551616) :
    Calls Try.prog 14 #[.float .f64 p] w (Ret (.bool true) w) := by
  have H1 := Lib.hid h1; have H2 := Lib.hid h2; have H3 := Lib.hid h3; have H4 := Lib.hid hr
  clear h1 h2 h3 hr
  go_enter Try.func14, Try.ntmps14
  go_wp2_with fail
  refine (H1.out _).mono ?_; rintro e w' ⟨rfl, m1, rfl⟩
  go_wp2_with fail
  refine (H3.out _).mono ?_; rintro e w' ⟨rfl, m2, rfl⟩
  go_wp2_with fail
  refine (same_self _ _ H4.out).mono ?_; rintro e w' ⟨rfl, m3, rfl⟩
  go_wp2_with fail
  refine (H2.out _).mono ?_; rintro e w' ⟨rfl, m4, rfl⟩
  go_wp2_with fail
  refine (H3.out _).mono ?_; rintro e w' ⟨rfl, m5, rfl⟩
  go_wp2_with fail
  refine (same_self _ _ H4.out).mono ?_; rintro e w' ⟨rfl, m6, rfl⟩
  go_wp2
  go_ret
  exact ⟨rfl, _, rfl⟩
set_option maxHeartbeats 1000000 in
theorem zero_nan (p r : Nat) (w : World) (h1 : ∀ w, Calls Try.prog 22 #[.float .f64 p, .float .f64 0] w (Ret (.float .f64 r) w)) (h2 : ∀ w, Calls Try.prog 22 #[.float .f64 0, .float .f64 p] w (Ret (.float .f64 r) w))
    (h3 : ∀ w, Calls Try.prog 16 #[.float .f64 p] w (RetNaN w)) (hr : NaNW r) :
    Calls Try.prog 14 #[.float .f64 p] w (Ret (.bool true) w) := by
  have H1 := Lib.hid h1; have H2 := Lib.hid h2; have H3 := Lib.hid h3; have H4 := Lib.hid hr
  clear h1 h2 h3 hr
  go_enter Try.func14, Try.ntmps14
  go_wp2_with fail
  refine (H1.out _).mono ?_; rintro e w' ⟨rfl, m1, rfl⟩
  go_wp2_with fail
  refine (H3.out _).mono ?_; rintro e w' ⟨n, m2, hn, rfl, rfl⟩
  go_wp2_with fail
  refine (same_nan _ _ _ H4.out hn).mono ?_; rintro e w' ⟨rfl, m3, rfl⟩
  go_wp2_with fail
  refine (H2.out _).mono ?_; rintro e w' ⟨rfl, m4, rfl⟩
  go_wp2_with fail
  refine (H3.out _).mono ?_; rintro e w' ⟨n', m5, hn', rfl, rfl⟩
  go_wp2_with fail
  refine (same_nan _ _ _ H4.out hn').mono ?_; rintro e w' ⟨rfl, m6, rfl⟩
  go_wp2
  go_ret
  exact ⟨rfl, _, rfl⟩
theorem walk_FnHypotZero (p : Nat) (hp : p < 18446744073709551616) (w : World) :
    Calls Try.prog 14 #[.float .f64 p] w fun e w' => e = .returned (.bool true) ∧ Grown w w' := by
  refine Calls.mono ?_ fun _ _ => Ret.grown
  have hz : (0 : Nat) < 18446744073709551616 := by decide
  rcases cls hp with h | h | h
  · have h1 : hypW p 0 = some (p % 9223372036854775808) := hyp_zero h rfl
    exact zero_at p _ w (fun w => hypot_any _ _ _ w h1) (fun w => hypot_any _ _ _ w (by rw [hyp_comm hz hp]; exact h1)) (fun w => size_any p w hp (fin_not_nan h)) (by omega)
  · have h1 : hypW p 0 = some (p % 9223372036854775808) := by rw [hyp_inf (.inl h), inf_abs h]
    exact zero_at p _ w (fun w => hypot_any _ _ _ w h1) (fun w => hypot_any _ _ _ w (by rw [hyp_comm hz hp]; exact h1)) (fun w => size_any p w hp (inf_not_nan h)) (by omega)
  · have h1 := hyp_nan (fun c => inf_not_nan c h) (fun c => inf_not_fin c fin_zero) hp hz (.inl h)
    exact zero_nan p _ w (fun w => hypot_any _ _ _ w h1) (fun w => hypot_any _ _ _ w (by rw [hyp_comm hz hp]; exact h1)) (fun w => size_nan p w h) nan_const
end Go.Proofs.Ytjdibagfompohaa
