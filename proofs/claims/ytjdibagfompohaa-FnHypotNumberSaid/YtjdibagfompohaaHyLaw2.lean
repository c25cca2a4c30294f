/- The walks of more laws on Hypot: Infinite, Either, Turned, Signs. -/
import Derived.Test.YtjdibagfompohaaHyLaw
namespace Go.Proofs.Ytjdibagfompohaa
open Go.RowKit Flo Ieee

theorem ord_ge {r y : Nat} (hr : r ≤ infR) (hy : y < 18446744073709551616) (hle : y % 9223372036854775808 ≤ r) : FloatKind.f64.format.order r y = some .gt ∨ FloatKind.f64.format.order r y = some .eq := by
  rcases Nat.lt_or_ge r infR with h | h
  · obtain ⟨r1, r2, r3⟩ := num_rung h
    have hn : Num y := ⟨hy, by omega⟩
    have h1 : val y ≤ val r := by
      have h2 := rv_nonneg (y % 9223372036854775808)
      have h3 : rv (y % 9223372036854775808) ≤ rv r := rv_le_iff.2 hle
      rw [r2, val_eq]; cases sgn y <;> simp <;> grind
    rcases Decidable.em (val r = val y) with he | he
    · right; exact ord_eq r1 hn he
    · left; exact ord_gt r1 hn (by grind)
  · obtain rfl : r = 9218868437227405312 := by unfold infR at h hr; omega
    rcases cls hy with h1 | h1 | h1
    · left; exact ord_pinf_l h1
    · rcases h1 with rfl | rfl
      · right; decide +kernel
      · left; decide +kernel
    · have := h1.2; omega

set_option maxHeartbeats 400000 in
theorem infinite_none (p q : Nat) (w : World) (hp : p < 18446744073709551616) (hq : q < 18446744073709551616) (ip : infB p = false) (iq : infB q = false) :
    Calls Try.prog 9 #[.float .f64 p, .float .f64 q] w (Ret (.bool true) w) := by
  go_enter Try.func9, Try.ntmps9
  go_wp2_with (go_at_call 24; refine (isInf_any _ _ (by assumption)).mono ?_; rintro e w' ⟨rfl, m, rfl⟩)
  go_ret
  exact ⟨rfl, _, rfl⟩
set_option maxHeartbeats 400000 in
theorem infinite_some (p q : Nat) (w : World) (hp : p < 18446744073709551616) (hq : q < 18446744073709551616) (bp bq : Bool) (ip : infB p = bp) (iq : infB q = bq) (hb : (bp || bq) = true) (hy : hypW p q = some 9218868437227405312) :
    Calls Try.prog 9 #[.float .f64 p, .float .f64 q] w (Ret (.bool true) w) := by
  have H1 := Lib.hid (fun w => hypot_any p q _ w hy)
  clear hy
  cases bp <;> cases bq <;> cases hb <;>
  · go_enter Try.func9, Try.ntmps9
    go_wp2_with (first | (go_at_call 24; refine (isInf_any _ _ (by assumption)).mono ?_; rintro e w' ⟨rfl, m, rfl⟩) | (go_at_call 22; refine (H1.out _).mono ?_; rintro e w' ⟨rfl, m1, rfl⟩) | (go_at_call 25; refine (specInf_pos _ _ (by omega)).mono ?_; rintro e w' ⟨rfl, rfl⟩) | (go_at_call 19; refine (same_self _ _ (by decide)).mono ?_; rintro e w' ⟨rfl, m3, rfl⟩))
    go_ret
    exact ⟨rfl, _, rfl⟩
theorem walk_FnHypotInfinite (p : Nat) (hp : p < 18446744073709551616) (q : Nat) (hq : q < 18446744073709551616) (w : World) :
    Calls Try.prog 9 #[.float .f64 p, .float .f64 q] w fun e w' => e = .returned (.bool true) ∧ Grown w w' := by
  refine Calls.mono ?_ fun _ _ => Ret.grown
  rcases kind hp with ⟨h1, ip, op⟩ | ⟨h1, ip, op⟩ | ⟨h1, ip, op⟩ <;> rcases kind hq with ⟨h2, iq, oq⟩ | ⟨h2, iq, oq⟩ | ⟨h2, iq, oq⟩ <;>
    first | exact infinite_none p q w hp hq ip iq | exact infinite_some p q w hp hq _ _ ip iq rfl (hyp_inf (.inl h1)) | exact infinite_some p q w hp hq _ _ ip iq rfl (hyp_inf (.inr h2))

set_option maxHeartbeats 400000 in
theorem either_none (p q : Nat) (w : World) (hp : p < 18446744073709551616) (hq : q < 18446744073709551616) (ip : infB p = false) (iq : infB q = false) :
    Calls Try.prog 8 #[.float .f64 p, .float .f64 q] w (Ret (.bool true) w) := by
  go_enter Try.func8, Try.ntmps8
  go_wp2_with (go_at_call 24; refine (isInf_any _ _ (by assumption)).mono ?_; rintro e w' ⟨rfl, m, rfl⟩)
  go_ret
  exact ⟨rfl, _, rfl⟩
set_option maxHeartbeats 400000 in
theorem either_numbers (p q : Nat) (w : World) (hp : p < 18446744073709551616) (hq : q < 18446744073709551616) (bp bq : Bool) (ip : infB p = bp) (iq : infB q = bq) (hb : (bp || bq) = true)
    (op : FloatKind.f64.format.order p p = some .eq) (oq : FloatKind.f64.format.order q q = some .eq) :
    Calls Try.prog 8 #[.float .f64 p, .float .f64 q] w (Ret (.bool true) w) := by
  cases bp <;> cases bq <;> cases hb <;>
  · go_enter Try.func8, Try.ntmps8
    go_wp2_with (go_at_call 24; refine (isInf_any _ _ (by assumption)).mono ?_; rintro e w' ⟨rfl, m, rfl⟩)
    go_ret
    exact ⟨rfl, _, rfl⟩
set_option maxHeartbeats 400000 in
theorem either_some (p q : Nat) (w : World) (hp : p < 18446744073709551616) (hq : q < 18446744073709551616) (bp bq : Bool) (ip : infB p = bp) (iq : infB q = bq) (hb : (bp || bq) = true)
    (np nq : Bool) (op : (FloatKind.f64.format.order p p == some .eq) = np) (oq : (FloatKind.f64.format.order q q == some .eq) = nq) (hn : (np && nq) = false) (hy : hypW p q = some 9218868437227405312) :
    Calls Try.prog 8 #[.float .f64 p, .float .f64 q] w (Ret (.bool true) w) := by
  have H1 := Lib.hid (fun w => hypot_any p q _ w hy)
  clear hy
  cases bp <;> cases bq <;> cases hb <;> cases np <;> cases nq <;> cases hn <;>
  · go_enter Try.func8, Try.ntmps8
    go_wp2_with (first | (go_at_call 24; refine (isInf_any _ _ (by assumption)).mono ?_; rintro e w' ⟨rfl, m, rfl⟩) | (go_at_call 22; refine (H1.out _).mono ?_; rintro e w' ⟨rfl, m1, rfl⟩) | (go_at_call 25; refine (specInf_pos _ _ (by omega)).mono ?_; rintro e w' ⟨rfl, rfl⟩) | (go_at_call 19; refine (same_self _ _ (by decide)).mono ?_; rintro e w' ⟨rfl, m3, rfl⟩))
    go_ret
    exact ⟨rfl, _, rfl⟩
theorem walk_FnHypotEither (p : Nat) (hp : p < 18446744073709551616) (q : Nat) (hq : q < 18446744073709551616) (w : World) :
    Calls Try.prog 8 #[.float .f64 p, .float .f64 q] w fun e w' => e = .returned (.bool true) ∧ Grown w w' := by
  refine Calls.mono ?_ fun _ _ => Ret.grown
  rcases kind hp with ⟨h1, ip, op⟩ | ⟨h1, ip, op⟩ | ⟨h1, ip, op⟩ <;> rcases kind hq with ⟨h2, iq, oq⟩ | ⟨h2, iq, oq⟩ | ⟨h2, iq, oq⟩ <;>
    first | exact either_none p q w hp hq ip iq | exact either_numbers p q w hp hq _ _ ip iq rfl op oq | exact either_some p q w hp hq _ _ ip iq rfl true false (by rw [op]; rfl) (by rw [oq]; rfl) rfl (hyp_inf (.inl h1)) | exact either_some p q w hp hq _ _ ip iq rfl false true (by rw [op]; rfl) (by rw [oq]; rfl) rfl (hyp_inf (.inr h2))

/-- What Hypot's answer is to each of both: a not-a-number, or one of them is a not-a-number, or it is not less. -/
theorem hyp_ge {p q r : Nat} (hp : p < 18446744073709551616) (hq : q < 18446744073709551616) (h : hypW p q = some r) :
    FloatKind.f64.format.order r r = none ∨ (FloatKind.f64.format.order r r = some .eq ∧ (FloatKind.f64.format.order p p = none ∨ (FloatKind.f64.format.order p p = some .eq ∧ (FloatKind.f64.format.order r p = some .gt ∨ FloatKind.f64.format.order r p = some .eq)))) := by
  by_cases hi : InfW p ∨ InfW q
  · rw [hyp_inf hi] at h; cases h
    right; refine ⟨by decide +kernel, ?_⟩
    rcases kind hp with ⟨h1, ip, op⟩ | ⟨h1, ip, op⟩ | ⟨h1, ip, op⟩
    · exact .inr ⟨op, ord_ge (Nat.le_refl _) hp (by have := h1.2; unfold infR at this; omega)⟩
    · exact .inr ⟨op, ord_ge (Nat.le_refl _) hp (by rw [inf_abs h1]; exact Nat.le_refl _)⟩
    · exact .inl op
  · have hi1 : ¬ InfW p := fun c => hi (.inl c)
    have hi2 : ¬ InfW q := fun c => hi (.inr c)
    by_cases hn : NaNW p ∨ NaNW q
    · rw [hyp_nan hi1 hi2 hp hq hn] at h; cases h
      left; decide +kernel
    · have n1 : Num p := (cls hp).resolve_right (fun c => c.elim hi1 (fun c => hn (.inl c)))
      have n2 : Num q := (cls hq).resolve_right (fun c => c.elim hi2 (fun c => hn (.inr c)))
      obtain ⟨r', r1, r2, r3, r4, r5⟩ := hyp_num n1 n2
      rw [h] at r1; cases r1
      right
      refine ⟨ord_refl (by unfold infR at r2; omega) (by unfold NaNW; unfold infR at r2; omega), .inr ⟨ord_eq n1 n1 rfl, ord_ge r2 hp r3⟩⟩

set_option maxHeartbeats 1000000 in
theorem turned_at (p q r : Nat) (w : World) (h1 : ∀ w, Calls Try.prog 22 #[.float .f64 p, .float .f64 q] w (Ret (.float .f64 r) w)) (h2 : ∀ w, Calls Try.prog 22 #[.float .f64 q, .float .f64 p] w (Ret (.float .f64 r) w)) (hr : r < 18446744073709551616)
    (ho : FloatKind.f64.format.order r r = none ∨ (FloatKind.f64.format.order r r = some .eq ∧ (FloatKind.f64.format.order p p = none ∨ (FloatKind.f64.format.order p p = some .eq ∧ (FloatKind.f64.format.order r p = some .gt ∨ FloatKind.f64.format.order r p = some .eq))))) :
    Calls Try.prog 13 #[.float .f64 p, .float .f64 q] w (Ret (.bool true) w) := by
  have H1 := Lib.hid h1; have H2 := Lib.hid h2; have H3 := Lib.hid hr
  clear h1 h2 hr
  rcases ho with ho | ⟨ho, ho2 | ⟨ho2, ho3 | ho3⟩⟩ <;>
  · go_enter Try.func13, Try.ntmps13
    go_wp2_with fail
    refine (H1.out _).mono ?_; rintro e w' ⟨rfl, m1, rfl⟩
    go_wp2_with fail
    refine (H2.out _).mono ?_; rintro e w' ⟨rfl, m2, rfl⟩
    go_wp2_with fail
    refine (same_self _ _ H3.out).mono ?_; rintro e w' ⟨rfl, m3, rfl⟩
    go_wp2
    go_ret
    exact ⟨rfl, _, rfl⟩
theorem walk_FnHypotTurned (p : Nat) (hp : p < 18446744073709551616) (q : Nat) (hq : q < 18446744073709551616) (w : World) :
    Calls Try.prog 13 #[.float .f64 p, .float .f64 q] w fun e w' => e = .returned (.bool true) ∧ Grown w w' := by
  refine Calls.mono ?_ fun _ _ => Ret.grown
  obtain ⟨r, h, hr⟩ := hyp_some hp hq
  exact turned_at p q r w (fun w => hypot_any p q r w h) (fun w => hypot_any q p r w (by rw [hyp_comm hq hp]; exact h)) hr (hyp_ge hp hq h)
end Go.Proofs.Ytjdibagfompohaa
