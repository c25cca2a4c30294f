/- The cube root's second half, word by word: from a root right to 21 bits to the rounded root. -/
import Derived.Test.YtffflefdmhdhnaaCb5
namespace Go.Proofs.Ytffflefdmhdhnaa.Flo
open Ieee

theorem tiny : pw (-713) ≤ 1 / 1000000000000000000000000 := by
  have h1 := pw_mono (show (-713 : Int) ≤ -80 by omega)
  have h2 := pw_cancel 80
  have h3 : pw 80 = 1208925819614629174706176 := by
    have := pw_nat 80
    rw [show ((80 : Nat) : Int) = 80 by rfl] at this
    rw [this]; simp
  rw [h3] at h2
  have h4 : pw (-80) = 1 / 1208925819614629174706176 := by grind
  rw [h4] at h1
  grind
theorem tiny2 : pw (-1074) ≤ 1 / 1000000000000000000000000 := by
  have h1 := pw_mono (show (-1074 : Int) ≤ -713 by omega)
  have := tiny; grind

theorem val_ge_rung {n : Nat} (h : Bd (-361) 343 (rv n)) : 662 * 2 ^ 52 ≤ n ∧ n ≤ 1366 * 2 ^ 52 := by
  constructor
  · have h1 := rv_unit 661 (2 ^ 52) (by omega) (.inr (by omega))
    rw [show 661 * 2 ^ 52 + 2 ^ 52 = 662 * 2 ^ 52 by omega, ← pw_nat, ← pw_add, show ((52 : Nat) : Int) + (((661 : Nat) : Int) - 1074) = -361 by omega] at h1
    rw [← rv_le_iff, h1]; exact h.1
  · have h1 := rv_unit 1365 (2 ^ 52) (by omega) (.inr (by omega))
    rw [show 1365 * 2 ^ 52 + 2 ^ 52 = 1366 * 2 ^ 52 by omega, ← pw_nat, ← pw_add, show ((52 : Nat) : Int) + (((1365 : Nat) : Int) - 1074) = 343 by omega] at h1
    rw [← rv_le_iff, h1]; exact h.2

/-- 'a' from the two roots. -/
theorem ratio_a {X t T a : Rat} (hX : 0 < X) (ht0 : 0 < t) (h1 : t ≤ T) (h2 : T ≤ t * (1 + 1 / 4194304)) (hc : ab (t ^ 3 - X) ≤ 4 / 10000000 * X) (ha : a * T ^ 3 = X) : 1 - 1 / 524288 ≤ a ∧ a ≤ 1 + 1 / 524288 := by
  rw [ab_le] at hc
  have hT : 0 < T := by grind
  have c1 : t ^ 3 ≤ T ^ 3 := by
    rcases Decidable.em (t = T) with e | e
    · rw [e]; exact Rat.le_refl
    · exact Rat.le_of_lt (cube_lt (Rat.le_of_lt ht0) (by grind))
  have c2 : T ^ 3 ≤ (t * (1 + 1 / 4194304)) ^ 3 := by
    rcases Decidable.em (T = t * (1 + 1 / 4194304)) with e | e
    · rw [e]; exact Rat.le_refl
    · exact Rat.le_of_lt (cube_lt (Rat.le_of_lt hT) (by grind))
  have c3 : (t * (1 + 1 / 4194304)) ^ 3 = t ^ 3 * (1 + 1 / 4194304) ^ 3 := by grind
  have c4 : (1 + 1 / 4194304 : Rat) ^ 3 ≤ 1 + 8 / 10000000 := by grind
  have ht3 : 0 < t ^ 3 := Rat.pow_pos ht0
  have c5 := Rat.mul_le_mul_of_nonneg_left c4 (Rat.le_of_lt ht3)
  have hT3 : 0 < T ^ 3 := Rat.pow_pos hT
  rw [c3] at c2
  generalize T ^ 3 = C at *
  generalize t ^ 3 = c at *
  constructor
  · refine Rat.le_of_mul_le_mul_right (c := C) ?_ hT3
    rw [ha]; grind
  · refine Rat.le_of_mul_le_mul_right (c := C) ?_ hT3
    rw [ha]; grind

set_option maxHeartbeats 1000000 in
theorem cbrt_last {x t1 : Nat} (hx : x < infR) (hx0 : 0 < x) (hb1 : Bd (-361) 343 (rv t1)) (hc : ab (rv t1 ^ 3 - rv x) ≤ 4 / 10000000 * rv x) :
    ∃ s2 r2 w2 d wr r3 tr res, double.mul (t1 - t1 % 2 ^ 30 + 2 ^ 30) (t1 - t1 % 2 ^ 30 + 2 ^ 30) = some s2 ∧ double.div x s2 = some r2 ∧ double.add (t1 - t1 % 2 ^ 30 + 2 ^ 30) (t1 - t1 % 2 ^ 30 + 2 ^ 30) = some w2 ∧ double.sub r2 (t1 - t1 % 2 ^ 30 + 2 ^ 30) = some d ∧ double.add w2 r2 = some wr ∧
      double.div d wr = some r3 ∧ double.mul (t1 - t1 % 2 ^ 30 + 2 ^ 30) r3 = some tr ∧ double.add (t1 - t1 % 2 ^ 30 + 2 ^ 30) tr = some res ∧
      Num res ∧ (val x < 1 → val x ≤ val res ∧ val res ≤ 1) ∧ (1 ≤ val x → 1 ≤ val res ∧ val res ≤ val x) := by
  have u0 := uu_pos; have u1 := uu_small
  obtain ⟨n1, n2⟩ := val_ge_rung hb1
  obtain ⟨k1, k2, k3⟩ := chop t1 n1 n2
  have hlt2 : t1 - t1 % 2 ^ 30 + 2 ^ 30 < infR := by unfold infR; omega
  generalize t1 - t1 % 2 ^ 30 + 2 ^ 30 = t2 at *
  obtain ⟨xn, xv⟩ := word_pos hx
  obtain ⟨tn, tv⟩ := word_pos hlt2
  have hX : 0 < rv x := rv_pos (by omega)
  rw [← xv] at hX hc
  have ht0 := hb1.pos
  have hTb : Bd (-361) 344 (rv t2) := by
    refine ⟨by have := hb1.1; grind, ?_⟩
    have h3 := pw_succ 343
    rw [show (343 : Int) + 1 = 344 by omega] at h3
    have := hb1.2; rw [h3]; grind
  have hT := hTb.pos
  rw [← tv] at k1 k2 k3 hTb hT
  generalize hTT : val t2 = T at *
  generalize hXX : val x = X at *
  have hTne : T ≠ 0 := by grind
  have hT3 : T ^ 3 ≠ 0 := by have := Rat.pow_pos (n := 3) hT; grind
  obtain ⟨a, ha⟩ : ∃ a, a * T ^ 3 = X := ⟨X / T ^ 3, Rat.div_mul_cancel hT3⟩
  obtain ⟨ha1, ha2⟩ := ratio_a hX ht0 k1 k2 hc ha
  clear hc k1 k2 hb1 n1 n2 ht0
  -- the square
  obtain ⟨s2, s2e, s2n, s2b, ds, dsb, s2v0⟩ := fmul tn tn (-722) 688 (by rw [hTT]; exact hTb.mul hTb) (by omega) (by omega)
  have s2v : val s2 = T * T := by
    obtain ⟨s2', e1, r1, _⟩ := mul_spec tn tn
    rw [s2e] at e1; cases e1
    rw [hTT] at r1
    have := r1.bd (hTb.mul hTb) (by omega) (by omega)
    exact this.1.exact k3
  clear s2v0 dsb s2b k3
  -- the quotient
  have hTT0 : T * T ≠ 0 := by have := Rat.mul_pos hT hT; grind
  have hq1 : val x / val s2 = a * T := by
    rw [hXX, s2v]
    have : X = a * T * (T * T) := by rw [← ha]; grind
    rw [this, Rat.mul_div_cancel hTT0]
  have haB : Bd (-1) 1 a := by
    refine ⟨?_, ?_⟩
    · rw [pwm1]; grind
    · rw [pw_one]; grind
  obtain ⟨r2, r2e, r2n, r2b, d1, d1b, r2v⟩ := fdiv xn s2n (by rw [s2v]; exact hTT0) (-362) 345 (by rw [hq1]; exact (haB.mul hTb).wide (by omega) (by omega)) (by omega) (by omega)
  rw [hq1] at r2v
  obtain ⟨b, hb⟩ : ∃ b, b = a * (1 + d1) := ⟨_, rfl⟩
  have r2v' : val r2 = b * T := by rw [r2v, hb]; grind
  have had := mul_bound (show ab a ≤ 2 by rw [ab_le]; grind) d1b
  have hb1 : ab (b - 1) ≤ 1 / 500000 := by rw [ab_le] at had ⊢; grind
  have hb1' := hb1
  rw [ab_le] at hb1'
  clear r2v hq1 haB s2v
  -- twice
  obtain ⟨w2, w2e, w2n, w2b, d2, d2b, w2v⟩ := fadd tn tn (-360) 345 (by
    have e : T + T = pw 1 * T := by rw [pw_one]; grind
    rw [hTT, e]
    have h1 : Bd 1 1 (pw 1) := ⟨Rat.le_refl, Rat.le_refl⟩
    exact (h1.mul hTb).wide (by omega) (by omega)) (by omega) (by omega)
  rw [hTT] at w2v
  -- the difference
  obtain ⟨d, de, d3, _⟩ := sub_spec r2n tn
  rw [hTT, r2v', show b * T - T = (b - 1) * T by grind] at d3
  have hT1000 : T ≤ pw 1000 := by have := pw_mono (show (344 : Int) ≤ 1000 by omega); have := hTb.2; grind
  have hdq : ab ((b - 1) * T) ≤ T / 500000 := by
    have := mul_bound hb1 (show ab T ≤ T by rw [ab_le]; grind); grind
  have d3r := d3.rnd (by have := pw_mono (show (1000 : Int) ≤ 1023 by omega); grind)
  have d3e := d3r.err
  have hTs : pw (-1074) ≤ T * (1 / 1000000000000000000000000) := by
    have h1 := Rat.mul_le_mul_of_nonneg_right hTb.1 (Rat.le_of_lt (pw_pos (-713)))
    rw [← pw_add, show (-361 : Int) + -713 = -1074 by omega] at h1
    have h2 := Rat.mul_le_mul_of_nonneg_left tiny (Rat.le_of_lt hT)
    grind
  obtain ⟨n, hn⟩ : ∃ n, n * T = val d := ⟨val d / T, Rat.div_mul_cancel hTne⟩
  have hnb : ab (n - (b - 1)) ≤ 1 / 1180591620717411303424 := by
    have e1 : ab ((n - (b - 1)) * T) ≤ (1 / 1180591620717411303424) * T := by
      rw [show (n - (b - 1)) * T = val d - (b - 1) * T by rw [← hn]; grind]
      have k := Rat.mul_le_mul_of_nonneg_right hdq (Rat.le_of_lt u0)
      have u3 : T / 500000 * uu ≤ T * (1 / 2000000000000000000000) := by
        have h3 : uu ≤ 1 / 9000000000000000 := by unfold uu; grind
        have := Rat.mul_le_mul_of_nonneg_left h3 (Rat.le_of_lt hT); grind
      grind
    rw [ab_mul, show ab T = T by unfold ab; grind] at e1
    exact Rat.le_of_mul_le_mul_right e1 hT
  have hns : ab n ≤ 1 / 400000 := by rw [ab_le] at hnb ⊢; grind
  have dn := d3r.fin
  clear d3r d3e d3 hdq
  -- the sum below
  have hwq : val w2 + val r2 = (2 * (1 + d2) + b) * T := by rw [w2v, r2v']; grind
  have d2s : ab d2 ≤ 1 / 1000 := by grind
  have d2s' := d2s
  rw [ab_le] at d2s'
  obtain ⟨wr, wre, wrn, wrb, d4, d4b, wrv⟩ := fadd w2n r2n (-360) 346 (by
    rw [hwq]
    have h1 : Bd 1 2 (2 * (1 + d2) + b) := by
      refine ⟨?_, ?_⟩
      · rw [pw_one]; grind
      · rw [pw2]; grind
    exact (h1.mul hTb).wide (by omega) (by omega)) (by omega) (by omega)
  rw [hwq] at wrv
  obtain ⟨w, hw⟩ : ∃ w, w = (2 * (1 + d2) + b) * (1 + d4) := ⟨_, rfl⟩
  have hwT : w * T = val wr := by rw [wrv, hw]; grind
  have hwb : ab (w - (2 + b)) ≤ 16 * uu := by
    have k := mul_bound (show ab (2 * (1 + d2) + b) ≤ 4 by rw [ab_le]; grind) d4b
    rw [hw, show (2 * (1 + d2) + b) * (1 + d4) - (2 + b) = 2 * d2 + (2 * (1 + d2) + b) * d4 by grind]
    rw [ab_le] at k d2b ⊢; grind
  have hw3 : 29 / 10 ≤ w ∧ w ≤ 31 / 10 := by rw [ab_le] at hwb; grind
  clear wrv hw hwq w2v d4b d2b d2s d2s'
  -- the quotient
  have hwr0 : val wr ≠ 0 := by have := wrb.pos; grind
  obtain ⟨r3, r3e, r3s, _⟩ := div_spec dn wrn hwr0
  have hq3 : val d / val wr * w = n := by
    have hw0 : w ≠ 0 := by grind
    have : val d / val wr = n / w := by
      rw [← hn, ← hwT]
      have e1 : n * T = n / w * (w * T) := by
        have : n / w * (w * T) = (n / w * w) * T := by grind
        rw [this, Rat.div_mul_cancel hw0]
      have hwt : w * T ≠ 0 := by rw [hwT]; exact hwr0
      rw [e1, Rat.mul_div_cancel hwt]
    rw [this, Rat.div_mul_cancel hw0]
  generalize hqq : val d / val wr = q at *
  have hqs : ab q ≤ 1 / 400000 := by
    refine ab_le_of_mul (s := w) (by grind) ?_
    rw [hq3]; exact hns
  have r3r := r3s.rnd (by
    have h1 := pw_mono (show (0 : Int) ≤ 1023 by omega)
    rw [pw_zero] at h1; grind)
  have r3err := r3r.err
  have hqu : ab q * uu ≤ 1 / 3600000000000000000000 := by
    have h3 : uu ≤ 1 / 9000000000000000 := by unfold uu; grind
    have k1 := Rat.mul_le_mul_of_nonneg_right hqs (Rat.le_of_lt u0)
    grind
  have t2' := tiny2
  have hrq : ab (val r3 - q) ≤ 1 / 3500000000000000000000 := by grind
  have hrw : ab (val r3 * w - n) ≤ 1 / 590295810358705651712 := by
    have k := mul_bound hrq (show ab w ≤ 31 / 10 by rw [ab_le]; grind)
    rw [show val r3 * w - n = (val r3 - q) * w by rw [← hq3]; grind]
    grind
  have hrs : ab (val r3) ≤ 1 / 300000 := by rw [ab_le] at hrq hqs ⊢; grind
  have r3n := r3r.fin
  clear r3r r3err r3s hqu hqs hrq hq3 hqq hwT wrb
  generalize hrr : val r3 = r at *
  -- times the root
  obtain ⟨tr, tre, trs, _⟩ := mul_spec tn r3n
  rw [hTT, hrr] at trs
  have hTr : ab (T * r) ≤ T / 300000 := by
    have := mul_bound (show ab T ≤ T by rw [ab_le]; grind) hrs; grind
  have trr := trs.rnd (by have := pw_mono (show (1000 : Int) ≤ 1023 by omega); grind)
  have trerr := trr.err
  obtain ⟨t, ht⟩ : ∃ t, t * T = val tr := ⟨val tr / T, Rat.div_mul_cancel hTne⟩
  have htr : ab (t - r) ≤ 1 / 590295810358705651712 := by
    have e1 : ab ((t - r) * T) ≤ (1 / 590295810358705651712) * T := by
      rw [show (t - r) * T = val tr - T * r by rw [← ht]; grind]
      have k := Rat.mul_le_mul_of_nonneg_right hTr (Rat.le_of_lt u0)
      have u3 : T / 300000 * uu ≤ T * (1 / 1000000000000000000000) := by
        have h3 : uu ≤ 1 / 9000000000000000 := by unfold uu; grind
        have := Rat.mul_le_mul_of_nonneg_left h3 (Rat.le_of_lt hT); grind
      grind
    rw [ab_mul, show ab T = T by unfold ab; grind] at e1
    exact Rat.le_of_mul_le_mul_right e1 hT
  obtain ⟨hv, hv1, hv2⟩ := halley ha1 ha2 d1b hb hnb hwb hrw htr
  -- the last sum
  obtain ⟨res, rese, ress, _⟩ := add_spec tn trr.fin
  rw [hTT, ← ht, show T + t * T = (1 + t) * T by grind] at ress
  have hvb : Bd (-362) 345 ((1 + t) * T) := by
    have h1 : Bd (-1) 1 (1 + t) := by
      refine ⟨?_, ?_⟩
      · rw [pwm1]; exact hv1
      · rw [pw_one]; exact hv2
    exact (h1.mul hTb).wide (by omega) (by omega)
  obtain ⟨resr, _, _⟩ := ress.bd hvb (by omega) (by omega)
  have hcube : ab (((1 + t) * T) ^ 3 - X) ≤ 5 / 4 * uu * X := by
    have hTp : 0 < T ^ 3 := Rat.pow_pos hT
    have e1 : ((1 + t) * T) ^ 3 - X = ((1 + t) ^ 3 - a) * T ^ 3 := by rw [← ha]; grind
    rw [e1, ab_mul, show ab (T ^ 3) = T ^ 3 by unfold ab; grind]
    have k := Rat.mul_le_mul_of_nonneg_right hv (Rat.le_of_lt hTp)
    rw [show 5 / 4 * uu * X = 5 / 4 * uu * a * T ^ 3 by rw [← ha]; grind]
    exact k
  rw [← hXX] at hcube hX
  have fin := cbrt_bounds xn hX hvb.pos resr hcube
  rw [hXX] at fin
  exact ⟨s2, r2, w2, d, wr, r3, tr, res, s2e, r2e, w2e, de, wre, r3e, tre, rese, resr.fin, fin.1, fin.2⟩
end Go.Proofs.Ytffflefdmhdhnaa.Flo
