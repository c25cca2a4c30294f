/- Hypot at all words: an infinity where one is, else a not-a-number where one is, else at least each of both without its sign; order and signs do not matter. -/
import Derived.Test.YtjdibagfompohaaHy
namespace Go.Proofs.Ytjdibagfompohaa
open Go.RowKit Flo Ieee

theorem hyp_rung {p q p' q' : Nat} (h1 : p % 2 ^ 63 = p' % 2 ^ 63) (h2 : q % 2 ^ 63 = q' % 2 ^ 63) : hypW p q = hypW p' q' := by
  unfold hypW; rw [h1, h2]

theorem hyp_inf {p q : Nat} (h : InfW p ∨ InfW q) : hypW p q = some 9218868437227405312 := by
  unfold hypW; rw [if_pos]
  rcases h with h | h
  · left; exact inf_abs h
  · right; exact inf_abs h
theorem hyp_nan {p q : Nat} (h1 : ¬ InfW p) (h2 : ¬ InfW q) (hp : p < 18446744073709551616) (hq : q < 18446744073709551616) (h : NaNW p ∨ NaNW q) : hypW p q = some 9221120237041090561 := by
  unfold hypW; unfold InfW at h1 h2; unfold NaNW at h
  rw [if_neg (by omega), if_pos (by omega)]

theorem num_rung {n : Nat} (h : n < infR) : Num n ∧ val n = rv n ∧ sgn n = false := by
  unfold infR at h
  exact ⟨⟨by omega, by unfold infR; omega⟩, val_pos_of_lt (by omega), by unfold sgn; simp; omega⟩

theorem ord_rung {a b : Nat} (ha : a < infR) (hb : b < infR) : double.order a b = some .lt ↔ a < b := by
  obtain ⟨h1, h2, _⟩ := num_rung ha
  obtain ⟨h3, h4, _⟩ := num_rung hb
  rw [order_spec h1 h3, h2, h4]; unfold cmp
  by_cases h : a < b
  · rw [if_pos (rv_lt_iff.2 h)]; simp [h]
  · rw [if_neg (fun c => h (rv_lt_iff.1 c))]
    simp only [h, iff_false]
    split <;> simp

theorem hyp_comm {p q : Nat} (hp : p < 18446744073709551616) (hq : q < 18446744073709551616) : hypW p q = hypW q p := by
  rcases cls hp with h1 | h1 | h1
  · rcases cls hq with h2 | h2 | h2
    · have ha := h1.2; have hb := h2.2
      unfold hypW
      rw [show (2 ^ 63 : Nat) = 9223372036854775808 by decide]
      generalize p % 9223372036854775808 = a at *
      generalize q % 9223372036854775808 = b at *
      have ha' := ha; have hb' := hb
      unfold infR at ha' hb'
      rw [if_neg (show ¬ (a = 9218868437227405312 ∨ b = 9218868437227405312) by omega), if_neg (show ¬ (9218868437227405312 < a ∨ 9218868437227405312 < b) by omega),
        if_neg (show ¬ (b = 9218868437227405312 ∨ a = 9218868437227405312) by omega), if_neg (show ¬ (9218868437227405312 < b ∨ 9218868437227405312 < a) by omega)]
      by_cases h0 : a = 0 ∧ b = 0
      · rw [if_pos h0, if_pos (show b = 0 ∧ a = 0 by omega)]
      rw [if_neg h0, if_neg (show ¬ (b = 0 ∧ a = 0) by omega)]
      simp only [ord_rung ha hb, ord_rung hb ha]
      rcases Nat.lt_trichotomy a b with h | h | h
      · simp only [h, if_true, show ¬ b < a by omega, if_false]
      · subst h; rfl
      · simp only [h, if_true, show ¬ a < b by omega, if_false]
    · rw [hyp_inf (.inr h2), hyp_inf (.inl h2)]
    · rw [hyp_nan (fun c => inf_not_fin c h1) (fun c => inf_not_nan c h2) hp hq (.inr h2), hyp_nan (fun c => inf_not_nan c h2) (fun c => inf_not_fin c h1) hq hp (.inl h2)]
  · rw [hyp_inf (.inl h1), hyp_inf (.inr h1)]
  · by_cases h2 : InfW q
    · rw [hyp_inf (.inr h2), hyp_inf (.inl h2)]
    · rw [hyp_nan (fun c => inf_not_nan c h1) h2 hp hq (.inl h1), hyp_nan h2 (fun c => inf_not_nan c h1) hq hp (.inr h1)]

theorem pw_small {n : Nat} (h : n ≤ 1023) {q : Rat} (hq : ab q ≤ ((2 ^ n : Nat) : Rat)) : ab q ≤ pw 1023 := by
  rw [← pw_nat] at hq
  have := pw_mono (show (n : Int) ≤ 1023 by omega)
  grind

theorem rep_one : Rep 1 := ⟨_, fin_one, val_one⟩
theorem rep_two : Rep 2 := by
  have := rep_nat 1 1 (by omega) (by omega) (by omega)
  rw [pw_one] at this; simpa using this

/-- The computation proper: 's' the lesser, 'b' the greater, not zero. -/
theorem hyp_core {s b : Nat} (hb : b < infR) (hsb : s ≤ b) (hb0 : 0 < b) : ∃ r, ((double.div s b).bind fun r => (double.mul r r).bind fun m => (double.add m 4607182418800017408).bind fun a => (double.sqrt a).bind fun s => double.mul s b) = some r ∧ r ≤ infR ∧ b ≤ r := by
  obtain ⟨b1, b2, b3⟩ := num_rung hb
  obtain ⟨s1, s2, s3⟩ := num_rung (n := s) (by omega)
  have hbp : 0 < rv b := rv_pos (by omega)
  have hsp := rv_nonneg s
  have hsle : rv s ≤ rv b := rv_le_iff.2 hsb
  -- the quotient
  obtain ⟨d, d1, d2, d3⟩ := div_spec s1 b1 (by rw [b2]; grind)
  rw [s2, b2] at d2
  have hd0 : 0 ≤ rv s / rv b := div_nonneg' hsp hbp
  have hd1 : rv s / rv b ≤ 1 := by
    refine Rat.le_of_mul_le_mul_right ?_ hbp
    rw [Rat.div_mul_cancel (by grind)]; grind
  have dr := d2.rnd (pw_small (n := 0) (by omega) (by show ab (rv s / rv b) ≤ 1; unfold ab; grind))
  have dv0 := dr.nonneg hd0
  have dv1 := dr.hi rep_one hd1
  -- its square
  obtain ⟨m, m1, m2, m3⟩ := mul_spec dr.fin dr.fin
  have hm0 : 0 ≤ val d * val d := Rat.mul_nonneg dv0 dv0
  have hm1 : val d * val d ≤ 1 := by
    have := Rat.mul_le_mul_of_nonneg_left dv1 dv0; grind
  have mr := m2.rnd (pw_small (n := 0) (by omega) (by show ab (val d * val d) ≤ 1; unfold ab; grind))
  have mv0 := mr.nonneg hm0
  have mv1 := mr.hi rep_one hm1
  -- and one
  obtain ⟨a, a1, a2, _⟩ := add_spec mr.fin fin_one
  rw [val_one] at a2
  have ar := a2.rnd (pw_small (n := 1) (by omega) (by show ab (val m + 1) ≤ 2; unfold ab; grind))
  have av0 := ar.lo rep_one (by grind)
  have av1 := ar.hi rep_two (by grind)
  -- its root
  obtain ⟨t, t1, t2, t3, t4⟩ := sqrt_spec ar.fin av0 av1
  -- times the greater
  obtain ⟨r, r1, r2, r3⟩ := mul_spec t2 b1
  refine ⟨r, ?_, ?_⟩
  · rw [d1, Option.bind_some, m1, Option.bind_some, a1, Option.bind_some, t1, Option.bind_some, r1]
  · have hts : sgn t = false := val_sign.1 (by grind)
    rw [hts, b3] at r3
    have hlt : r < 9223372036854775808 := by
      have := r2.small
      unfold sgn at r3; simp at r3; omega
    have hr := r2.rung
    rw [Nat.mod_eq_of_lt hlt] at hr
    refine ⟨hr.le, ?_⟩
    obtain ⟨n', hn, hnear, _⟩ := hr
    have h1 := hnear b
    have h2 : rv b ≤ val t * val b := by
      rw [b2]
      have := Rat.mul_le_mul_of_nonneg_right t3 (Rat.le_of_lt hbp); grind
    have h3 : rv b ≤ rv n' := by unfold ab at h1; grind
    rw [rv_le_iff] at h3
    omega

theorem hyp_num {p q : Nat} (hp : Num p) (hq : Num q) : ∃ r, hypW p q = some r ∧ r ≤ infR ∧ p % 9223372036854775808 ≤ r ∧ q % 9223372036854775808 ≤ r ∧ (r = 0 ↔ p % 9223372036854775808 = 0 ∧ q % 9223372036854775808 = 0) := by
  have ha := hp.2; have hb := hq.2
  unfold hypW
  rw [show (2 ^ 63 : Nat) = 9223372036854775808 by decide]
  generalize p % 9223372036854775808 = a at *
  generalize q % 9223372036854775808 = b at *
  have ha' := ha; have hb' := hb
  unfold infR at ha' hb'
  rw [if_neg (by omega), if_neg (by omega)]
  by_cases h0 : a = 0 ∧ b = 0
  · rw [if_pos h0]; exact ⟨0, rfl, by unfold infR; omega, by omega, by omega, by omega⟩
  · rw [if_neg h0]
    simp only [ord_rung ha hb]
    by_cases h : a < b
    · simp only [h, if_true]
      obtain ⟨r, r1, r2, r3⟩ := hyp_core hb (Nat.le_of_lt h) (by omega)
      exact ⟨r, r1, r2, by omega, r3, by omega⟩
    · simp only [h, if_false]
      obtain ⟨r, r1, r2, r3⟩ := hyp_core (s := b) ha (by omega) (by omega)
      exact ⟨r, r1, r2, r3, by omega, by omega⟩

theorem word_of_val {r b : Nat} (hr : Num r) (hs : sgn r = false) (hv : val r = rv b) : r = b := by
  have h1 : r < 9223372036854775808 := by
    have := hr.1
    unfold sgn at hs; simp at hs; omega
  rw [val_pos_of_lt h1] at hv
  have h2 : r ≤ b := rv_le_iff.1 (by rw [hv]; exact Rat.le_refl)
  have h3 : b ≤ r := rv_le_iff.1 (by rw [hv]; exact Rat.le_refl)
  omega

theorem div_zero_num {b : Nat} (hb : b < infR) (hb0 : 0 < b) : double.div 0 b = some 0 := by
  obtain ⟨b1, b2, b3⟩ := num_rung hb
  have hbp : 0 < rv b := rv_pos (by omega)
  obtain ⟨d, d1, d2, d3⟩ := div_spec fin_zero b1 (by rw [b2]; grind)
  rw [val_zero, Rat.div_def, Rat.zero_mul] at d2
  have dr := d2.rnd (by rw [show ab 0 = 0 by decide]; exact Rat.le_of_lt (pw_pos _))
  have := dr.zero rfl
  rw [d1, word_of_val dr.fin (b := 0) (by rw [d3, b3]; rfl) (by rw [this, rv_zero])]
theorem mul_one_num {b : Nat} (hb : b < infR) : double.mul 4607182418800017408 b = some b := by
  obtain ⟨b1, b2, b3⟩ := num_rung hb
  obtain ⟨d, d1, d2, d3⟩ := mul_spec fin_one b1
  rw [val_one, b2, Rat.one_mul] at d2
  have hq : ab (rv b) ≤ rv 9218868437227405311 := by
    have h1 := rv_nonneg b
    have h2 : rv b ≤ rv 9218868437227405311 := by rw [rv_le_iff]; unfold infR at hb; omega
    unfold ab; grind
  -- exact: b itself is nearest
  obtain ⟨n', hn, hnear, _⟩ := d2.rung
  have h1 := hnear b
  have h2 : ab (rv b) = rv b := by have := rv_nonneg b; unfold ab; grind
  rw [h2] at h1
  have h3 : rv n' = rv b := by unfold ab at h1; grind
  have h4 : n' = b := by
    have h5 : n' ≤ b := rv_le_iff.1 (by rw [h3]; exact Rat.le_refl)
    have h6 : b ≤ n' := rv_le_iff.1 (by rw [h3]; exact Rat.le_refl)
    omega
  have hs : sgn d = false := by rw [d3, b3]; rfl
  have hlt : d < 9223372036854775808 := by
    have := d2.small
    unfold sgn at hs; simp at hs; omega
  rw [Nat.mod_eq_of_lt hlt] at hn
  rw [d1, hn, h4]; congr 1; omega

theorem hyp_zero {p q : Nat} (hp : Num p) (hq : q % 9223372036854775808 = 0) : hypW p q = some (p % 9223372036854775808) := by
  have ha := hp.2
  unfold hypW
  rw [show (2 ^ 63 : Nat) = 9223372036854775808 by decide, hq]
  generalize p % 9223372036854775808 = a at *
  have ha' := ha
  unfold infR at ha'
  rw [if_neg (by omega), if_neg (by omega)]
  by_cases h0 : a = 0
  · rw [if_pos (by omega), h0]
  · rw [if_neg (by omega)]
    simp only [ord_rung ha (show 0 < infR by decide), show ¬ a < 0 by omega, if_false]
    rw [div_zero_num ha (by omega), Option.bind_some, show double.mul 0 0 = some 0 by decide +kernel, Option.bind_some, show double.add 0 4607182418800017408 = some 4607182418800017408 by decide +kernel, Option.bind_some,
      show double.sqrt 4607182418800017408 = some 4607182418800017408 by decide +kernel, Option.bind_some, mul_one_num ha]

/-- Hypot has an answer at all words. -/
theorem hyp_some {p q : Nat} (hp : p < 18446744073709551616) (hq : q < 18446744073709551616) : ∃ r, hypW p q = some r ∧ r < 18446744073709551616 := by
  by_cases h1 : InfW p ∨ InfW q
  · exact ⟨_, hyp_inf h1, by decide⟩
  · rcases cls hp with h2 | h2 | h2
    · rcases cls hq with h3 | h3 | h3
      · obtain ⟨r, r1, r2, _⟩ := hyp_num h2 h3
        exact ⟨r, r1, by unfold infR at r2; omega⟩
      · exact absurd (.inr h3) h1
      · exact ⟨_, hyp_nan (fun c => h1 (.inl c)) (fun c => h1 (.inr c)) hp hq (.inr h3), by decide⟩
    · exact absurd (.inl h2) h1
    · exact ⟨_, hyp_nan (fun c => h1 (.inl c)) (fun c => h1 (.inr c)) hp hq (.inl h2), by decide⟩

theorem archHypot_call (p q r : Nat) (w : World) (h : hypW p q = some r) : (callFunc 31 #[.float .f64 p, .float .f64 q]).run Try.prog w = .ok (.value (.float .f64 r)) w := by
  rw [run_callFunc_extern (e := Extern.MathHypot.archHypot) Try.func31 (by kernel_rfl) (by kernel_rfl) (by kernel_rfl) (by kernel_rfl), archHypot_run _ _ _ _ _ h]
  rfl

set_option maxHeartbeats 400000 in
theorem hypot_any (p q r : Nat) (w : World) (h : hypW p q = some r) : Calls Try.prog 22 #[.float .f64 p, .float .f64 q] w (Ret (.float .f64 r) w) := by
  have hc := fun w => archHypot_call p q r w h
  clear h
  go_enter Try.func22, Try.ntmps22
  go_wp2_with (first | go_in | simp only [hc])
  go_ret
  exact ⟨rfl, 0, rfl⟩
end Go.Proofs.Ytjdibagfompohaa
