/- Log1p's sum 1 + x and its correction. -/
import Derived.Test.YtffflefdmhdhnaaLp1
namespace Go.Proofs.Ytffflefdmhdhnaa.Flo
open Ieee

theorem word_ge {u n : Nat} (hu : u < infR) (h : rv n ≤ val u) : n ≤ u := by
  rw [(word_pos hu).2] at h; exact rv_le_iff.1 h
theorem word_le {u n : Nat} (hu : u < infR) (h : val u ≤ rv n) : u ≤ n := by
  rw [(word_pos hu).2] at h; exact rv_le_iff.1 h

theorem rv_54 : rv (1023 * 2 ^ 52 + 2 ^ 50) = 5 / 4 := by
  have := rv_unit 1022 (2 ^ 52 + 2 ^ 50) (by omega) (.inr (by omega))
  rw [show 1022 * 2 ^ 52 + (2 ^ 52 + 2 ^ 50) = 1023 * 2 ^ 52 + 2 ^ 50 by omega, show ((1022 : Nat) : Int) - 1074 = -52 by omega, pwm52, show ((2 ^ 52 + 2 ^ 50 : Nat) : Rat) = 5629499534213120 from rfl] at this
  rw [this]; unfold uu; grind
theorem rv_34 : rv (1022 * 2 ^ 52 + 2 ^ 51) = 3 / 4 := by
  have := rv_unit 1021 (2 ^ 52 + 2 ^ 51) (by omega) (.inr (by omega))
  rw [show 1021 * 2 ^ 52 + (2 ^ 52 + 2 ^ 51) = 1022 * 2 ^ 52 + 2 ^ 51 by omega, show ((1021 : Nat) : Int) - 1074 = -53 by omega, uu_eq, show ((2 ^ 52 + 2 ^ 51 : Nat) : Rat) = 6755399441055744 from rfl] at this
  rw [this]; unfold uu; grind
theorem pw53 : pw 53 = 9007199254740992 := by
  have := pw_succ 52
  rw [show (52 : Int) + 1 = 53 by omega, pw52] at this
  rw [this]; grind
theorem pw54 : pw 54 = 18014398509481984 := by
  have := pw_succ 53
  rw [show (53 : Int) + 1 = 54 by omega, pw53] at this
  rw [this]; grind

theorem val_gt_m1 {x : Nat} (h : -1 < val x) : uu ≤ 1 + val x := by
  have u1 := uu_small
  rw [val_eq] at h ⊢
  cases hs : sgn x
  · have := rv_nonneg (x % 9223372036854775808)
    simp only [Bool.false_eq_true, if_false]; grind
  · rw [hs] at h
    simp only [if_true] at h ⊢
    have h1 : rv (x % 9223372036854775808) < rv (1023 * 2 ^ 52) := by rw [rv_one]; grind
    rw [rv_lt_iff] at h1
    have h2 : rv (x % 9223372036854775808) ≤ rv (1023 * 2 ^ 52 - 1) := by rw [rv_le_iff]; omega
    rw [rv_below_one] at h2; grind

theorem front {x : Nat} (hx : Num x) (h1 : -1 < val x) (h2 : val x ≤ 9007199254740992) (h3 : 424 / 1024 ≤ val x ∨ val x ≤ -(299 / 1024)) :
    ∃ u, double.add 4607182418800017408 x = some u ∧ 2 ^ 52 ≤ u ∧ u < infR ∧ (0 < val x → 1023 * 2 ^ 52 + 2 ^ 50 ≤ u) ∧ (val x < 0 → u ≤ 1022 * 2 ^ 52 + 2 ^ 51) ∧
      (1024 * 2 ^ 52 ≤ u → ∃ d e c, double.sub u x = some d ∧ double.sub 4607182418800017408 d = some e ∧ double.div e u = some c ∧ Num c ∧ ab (val c) ≤ 1 / 1024) ∧
      (u < 1024 * 2 ^ 52 → ∃ d e c, double.sub u 4607182418800017408 = some d ∧ double.sub x d = some e ∧ double.div e u = some c ∧ Num c ∧ ab (val c) ≤ 1 / 1024) := by
  obtain ⟨n1, v1⟩ := c_one
  have u0 := uu_pos; have u1 := uu_small
  have hlow := val_gt_m1 h1
  have t2 := tiny2
  have tp := pw_pos (-1074)
  obtain ⟨u, ue, un, ub, d, db, uv⟩ := fadd n1 hx (-53) 54 (by
    rw [v1]; refine ⟨?_, ?_⟩
    · rw [uu_eq]; exact hlow
    · rw [pw54]; grind) (by omega) (by omega)
  rw [v1] at uv
  have up := ub.pos
  obtain ⟨uw, uv'⟩ := pos_word un up
  -- the rounded sum by itself
  obtain ⟨u', ue', ur', _⟩ := add_spec n1 hx
  rw [ue] at ue'; cases ue'
  rw [v1] at ur'
  have ur := ur'.rnd (by
    have := pw_mono (show (54 : Int) ≤ 1023 by omega)
    rw [pw54] at this
    have : ab (1 + val x) ≤ 18014398509481984 := by rw [ab_le]; grind
    grind)
  have hnorm : 2 ^ 52 ≤ u := by
    refine word_ge uw ?_
    have h4 := rv_unit 0 (2 ^ 52) (by omega) (.inl rfl)
    rw [show 0 * 2 ^ 52 + 2 ^ 52 = 2 ^ 52 by omega, ← pw_nat, ← pw_add] at h4
    rw [h4]
    have h5 := pw_mono (show ((52 : Nat) : Int) + (((0 : Nat) : Int) - 1074) ≤ -53 by omega)
    have := ub.1; grind
  have hbig : 0 < val x → 5 / 4 ≤ val u := fun c => by
    refine ur.lok 1280 (5 / 4) (by omega) (by decide +kernel) ?_
    rcases h3 with h3 | h3
    · grind
    · grind
  have hsmall : val x < 0 → val u ≤ 3 / 4 := fun c => by
    refine ur.hik 768 (3 / 4) (by omega) (by decide +kernel) ?_
    rcases h3 with h3 | h3
    · grind
    · grind
  refine ⟨u, ue, hnorm, uw, fun c => word_ge uw (by rw [rv_54]; exact hbig c), fun c => word_le uw (by rw [rv_34]; exact hsmall c), fun hF => ?_, fun hF => ?_⟩
  · -- u is at least 2
    have hU2 : 2 ≤ val u := by rw [uv', ← rv_two, rv_le_iff]; exact hF
    have hXp : 0 < val x := by
      rcases h3 with h3 | h3
      · grind
      · have := hsmall (by grind); grind
    generalize hU : val u = U at *
    generalize hXX : val x = X at *
    -- (1 + X) |d| ≤ 2 U uu, and at most 2
    have hd1 := mul_bound (show ab (1 + X) ≤ 1 + X by rw [ab_le]; grind) db
    have hXU : 1 + X ≤ 2 * U := by
      have k := mul_bound (show ab (1 + X) ≤ 1 + X by rw [ab_le]; grind) (show ab d ≤ 1 / 2 by grind)
      rw [ab_le] at k; grind
    have hXuu : (1 + X) * uu ≤ 2 := by
      have := Rat.mul_le_mul_of_nonneg_right (show 1 + X ≤ 9007199254740993 by grind) (Rat.le_of_lt u0)
      have e : (9007199254740993 : Rat) * uu ≤ 2 := by unfold uu; grind
      grind
    have hUuu : (1 + X) * uu ≤ 2 * (U * uu) := by
      have := Rat.mul_le_mul_of_nonneg_right hXU (Rat.le_of_lt u0); grind
    have hq1 : ab (U - X - 1) ≤ 2 * (U * uu) := by
      rw [show U - X - 1 = (1 + X) * d by rw [uv]; grind]
      grind
    have hq2 : ab (U - X - 1) ≤ 2 := by
      rw [show U - X - 1 = (1 + X) * d by rw [uv]; grind]
      grind
    have hUp : 0 < U * uu := Rat.mul_pos up u0
    have hUu : 2 * uu ≤ U * uu := Rat.mul_le_mul_of_nonneg_right hU2 (Rat.le_of_lt u0)
    have htiny : pw (-1074) ≤ uu / 1000 := by
      have : (1 : Rat) / 1000000000000000000000000 ≤ uu / 1000 := by unfold uu; grind
      grind
    obtain ⟨d1, e1, r1⟩ := sub_r un hx (by rw [hU, hXX]; rw [ab_le] at hq2 ⊢; grind)
    rw [hU, hXX] at r1
    have er1 := r1.err
    have hq3 : ab (U - X) ≤ 3 := by rw [ab_le] at hq2 ⊢; grind
    have er1' : ab (val d1 - (U - X)) ≤ 3 * uu + uu / 1000 := by
      have := Rat.mul_le_mul_of_nonneg_right hq3 (Rat.le_of_lt u0); grind
    have hD1 : ab (1 - val d1) ≤ 4 * (U * uu) := by rw [ab_le] at hq1 er1' ⊢; grind
    have hD2 : ab (1 - val d1) ≤ 3 := by rw [ab_le] at hq2 er1' ⊢; grind
    obtain ⟨e, e2, r2⟩ := sub_r n1 r1.fin (by rw [v1]; grind)
    rw [v1] at r2
    have er2 := r2.err
    have hE : ab (val e) ≤ 6 * (U * uu) := by
      have := Rat.mul_le_mul_of_nonneg_right hD2 (Rat.le_of_lt u0)
      rw [ab_le] at er2 hD1 ⊢
      grind
    have hUne : val u ≠ 0 := by rw [hU]; grind
    obtain ⟨q, hq⟩ : ∃ q, q * U = val e := ⟨val e / U, Rat.div_mul_cancel (by grind)⟩
    have hqe : val e / val u = q := by rw [hU, ← hq, Rat.mul_div_cancel (by grind)]
    have hqb : ab q ≤ 6 * uu := by
      have h4 : ab (q * U) ≤ 6 * uu * U := by rw [hq]; grind
      rw [ab_mul, show ab U = U by unfold ab; grind] at h4
      exact Rat.le_of_mul_le_mul_right h4 up
    obtain ⟨c, e3, r3⟩ := div_r r2.fin un hUne (by rw [hqe]; grind)
    rw [hqe] at r3
    exact ⟨d1, e, c, e1, e2, e3, r3.fin, r3.abk 1 (1 / 1024) (by omega) (by decide +kernel) (by grind)⟩
  · have hU2 : val u ≤ 2 := by rw [uv', ← rv_two, rv_le_iff]; omega
    have hUne : val u ≠ 0 := by grind
    by_cases hhalf : val x ≤ -(1 / 2)
    · -- exact
      have hs : sgn x = true := val_sign.2 (by grind)
      have hxv : val x = -rv (x % 9223372036854775808) := by rw [val_eq, hs]; simp
      have hr1 : 1022 * 2 ^ 52 ≤ x % 9223372036854775808 := by
        have h4 := rv_unit 1021 (2 ^ 52) (by omega) (.inr (by omega))
        rw [show 1021 * 2 ^ 52 + 2 ^ 52 = 1022 * 2 ^ 52 by omega, show ((1021 : Nat) : Int) - 1074 = -53 by omega, uu_eq, show ((2 ^ 52 : Nat) : Rat) = 4503599627370496 from rfl] at h4
        have h5 : (4503599627370496 : Rat) * uu = 1 / 2 := by unfold uu; grind
        rw [← rv_le_iff, h4, h5]; grind
      have hr2 : x % 9223372036854775808 < 1023 * 2 ^ 52 := by rw [← rv_lt_iff, rv_one]; grind
      obtain ⟨m, hm⟩ : ∃ m, x % 9223372036854775808 = 1021 * 2 ^ 52 + (2 ^ 52 + m) := ⟨x % 9223372036854775808 - 1022 * 2 ^ 52, by omega⟩
      have hm1 : m < 2 ^ 52 := by omega
      have hrv := rv_unit 1021 (2 ^ 52 + m) (by omega) (.inr (by omega))
      rw [← hm, show ((1021 : Nat) : Int) - 1074 = -53 by omega] at hrv
      have hM : ((2 ^ 52 + m : Nat) : Rat) = 4503599627370496 + (m : Rat) := by rw [Rat.natCast_add]; rfl
      have hex : Rep (1 + val x) := by
        have := rep_int ((4503599627370496 : Int) - m) (-53) (by omega) (by omega) (by omega)
        have e : (((4503599627370496 : Int) - m : Int) : Rat) * pw (-53) = 1 + val x := by
          rw [hxv, hrv, hM, Rat.intCast_sub, Rat.intCast_natCast, uu_eq, show (((4503599627370496 : Int)) : Rat) = 4503599627370496 from rfl]; unfold uu; grind
        rwa [e] at this
      have huv := ur.exact hex
      obtain ⟨d1, e1, r1⟩ := sub_r un n1 (by rw [v1, huv, ab_le]; grind)
      rw [v1, huv, show 1 + val x - 1 = val x by grind] at r1
      have dv := r1.exact hx.rep
      obtain ⟨e, e2, r2⟩ := sub_r hx r1.fin (by rw [dv, ab_le]; grind)
      have ev := r2.zero (by rw [dv]; grind)
      obtain ⟨c, e3, r3⟩ := div_r r2.fin un hUne (by rw [ev, Rat.div_def, Rat.zero_mul, ab_le]; grind)
      have cv := r3.zero (by rw [ev, Rat.div_def, Rat.zero_mul])
      exact ⟨d1, e, c, e1, e2, e3, r3.fin, by rw [cv, ab_le]; grind⟩
    · have hUlo : 1 / 2 ≤ val u := ur.lok 512 (1 / 2) (by omega) (by decide +kernel) (by grind)
      generalize hU : val u = U at *
      generalize hXX : val x = X at *
      have hX3 : 1 + X ≤ 3 := by
        have k := mul_bound (show ab (1 + X) ≤ 1 + X by rw [ab_le]; grind) (show ab d ≤ 1 / 4 by grind)
        rw [ab_le] at k; grind
      have hd1 := mul_bound (show ab (1 + X) ≤ 3 by rw [ab_le]; grind) db
      have hq1 : ab (X - (U - 1)) ≤ 3 * uu := by
        rw [show X - (U - 1) = -((1 + X) * d) by rw [uv]; grind]
        rw [ab_le] at hd1 ⊢; grind
      have htiny : pw (-1074) ≤ uu := by
        have : (1 : Rat) / 1000000000000000000000000 ≤ uu := by unfold uu; grind
        grind
      obtain ⟨d1, e1, r1⟩ := sub_r un n1 (by rw [hU, v1, ab_le]; grind)
      rw [hU, v1] at r1
      have er1 := r1.err
      have er1' : ab (val d1 - (U - 1)) ≤ 2 * uu := by
        have := Rat.mul_le_mul_of_nonneg_right (show ab (U - 1) ≤ 1 by rw [ab_le]; grind) (Rat.le_of_lt u0); grind
      have hD1 : ab (X - val d1) ≤ 5 * uu := by rw [ab_le] at hq1 er1' ⊢; grind
      obtain ⟨e, e2, r2⟩ := sub_r hx r1.fin (by rw [hXX]; grind)
      rw [hXX] at r2
      have er2 := r2.err
      have hE : ab (val e) ≤ 7 * uu := by
        have := Rat.mul_le_mul_of_nonneg_right (show ab (X - val d1) ≤ 1 by grind) (Rat.le_of_lt u0)
        rw [ab_le] at er2 hD1 ⊢
        grind
      obtain ⟨q, hq⟩ : ∃ q, q * U = val e := ⟨val e / U, Rat.div_mul_cancel (by grind)⟩
      have hqe : val e / val u = q := by rw [hU, ← hq, Rat.mul_div_cancel (by grind)]
      have hqb : ab q ≤ 14 * uu := by
        have h4 : ab (q * U) ≤ 14 * uu * U := by
          rw [hq]
          have := Rat.mul_le_mul_of_nonneg_left hUlo (show 0 ≤ 14 * uu by grind)
          grind
        rw [ab_mul, show ab U = U by unfold ab; grind] at h4
        exact Rat.le_of_mul_le_mul_right h4 up
      obtain ⟨c, e3, r3⟩ := div_r r2.fin un (by rw [hU]; exact hUne) (by rw [hqe]; grind)
      rw [hqe] at r3
      exact ⟨d1, e, c, e1, e2, e3, r3.fin, r3.abk 1 (1 / 1024) (by omega) (by decide +kernel) (by grind)⟩
end Go.Proofs.Ytffflefdmhdhnaa.Flo
