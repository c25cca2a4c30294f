/- The cube root's first half, word by word: from the guess to a root right to 21 bits. -/
import Derived.Test.YtffflefdmhdhnaaCb4
namespace Go.Proofs.Ytffflefdmhdhnaa.Flo
open Ieee

theorem pwm1 : pw (-1) = 1 / 2 := by have := pw_pred 0; rw [pw_zero, show (0 : Int) - 1 = -1 by omega] at this; grind
theorem pw2 : pw 2 = 4 := by have := pw_succ 1; rw [pw_one, show (1 : Int) + 1 = 2 by omega] at this; grind

theorem pwm2 : pw (-2) = 1 / 4 := by
  have h := pw_pred 0
  rw [pw_pred (0 - 1), pw_zero, show (0 : Int) - 1 - 1 = -2 by omega] at h; grind

theorem fadd {x y : Nat} (hx : Num x) (hy : Num y) (lo hi : Int) (hb : Bd lo hi (val x + val y)) (h1 : -1022 ≤ lo) (h2 : hi ≤ 969) : ∃ r, double.add x y = some r ∧ Num r ∧ Bd lo hi (val r) ∧ ∃ d, ab d ≤ uu ∧ val r = (val x + val y) * (1 + d) := by
  obtain ⟨r, r1, r2, _⟩ := add_spec hx hy
  obtain ⟨a, b, d, d1, d2, d3⟩ := r2.bd hb h1 h2
  exact ⟨r, r1, a.fin, b, d, by rw [ab_le]; exact ⟨d1, d2⟩, d3⟩
theorem fmul {x y : Nat} (hx : Num x) (hy : Num y) (lo hi : Int) (hb : Bd lo hi (val x * val y)) (h1 : -1022 ≤ lo) (h2 : hi ≤ 969) : ∃ r, double.mul x y = some r ∧ Num r ∧ Bd lo hi (val r) ∧ ∃ d, ab d ≤ uu ∧ val r = (val x * val y) * (1 + d) := by
  obtain ⟨r, r1, r2, _⟩ := mul_spec hx hy
  obtain ⟨a, b, d, d1, d2, d3⟩ := r2.bd hb h1 h2
  exact ⟨r, r1, a.fin, b, d, by rw [ab_le]; exact ⟨d1, d2⟩, d3⟩
theorem fdiv {x y : Nat} (hx : Num x) (hy : Num y) (hy0 : val y ≠ 0) (lo hi : Int) (hb : Bd lo hi (val x / val y)) (h1 : -1022 ≤ lo) (h2 : hi ≤ 969) : ∃ r, double.div x y = some r ∧ Num r ∧ Bd lo hi (val r) ∧ ∃ d, ab d ≤ uu ∧ val r = (val x / val y) * (1 + d) := by
  obtain ⟨r, r1, r2, _⟩ := div_spec hx hy hy0
  obtain ⟨a, b, d, d1, d2, d3⟩ := r2.bd hb h1 h2
  exact ⟨r, r1, a.fin, b, d, by rw [ab_le]; exact ⟨d1, d2⟩, d3⟩

theorem pos_word {r : Nat} (h : Num r) (h0 : 0 < val r) : r < infR ∧ val r = rv r := by
  have hs : sgn r = false := val_sign.1 h0
  have hlt : r < 9223372036854775808 := by
    have := h.1
    unfold sgn at hs; simp at hs; omega
  have := h.2
  rw [Nat.mod_eq_of_lt hlt] at this
  exact ⟨this, val_pos_of_lt hlt⟩
theorem word_pos {n : Nat} (h : n < infR) : Num n ∧ val n = rv n := by
  unfold infR at h
  exact ⟨⟨by omega, by unfold infR; omega⟩, val_pos_of_lt (by omega)⟩

theorem cC : Num 4603064841997850097 ∧ ab (val 4603064841997850097 - 19 / 35) ≤ uu := by
  obtain ⟨h1, h2⟩ := word_pos (n := 4603064841997850097) (by decide)
  refine ⟨h1, ?_⟩
  have := rv_unit 1021 4889622452573681 (by decide) (.inr (by decide))
  rw [show 1021 * 2 ^ 52 + 4889622452573681 = 4603064841997850097 by decide, show ((1021 : Nat) : Int) - 1074 = -53 by omega, uu_eq] at this
  rw [h2, this, ab_le, show ((4889622452573681 : Nat) : Rat) = 4889622452573681 by rfl]; unfold uu; grind
theorem cE : Num 4609048195788499471 ∧ ab (val 4609048195788499471 - 99 / 70) ≤ uu := by
  obtain ⟨h1, h2⟩ := word_pos (n := 4609048195788499471) (by decide)
  refine ⟨h1, ?_⟩
  have := rv_unit 1022 6369376615852559 (by decide) (.inr (by decide))
  rw [show 1022 * 2 ^ 52 + 6369376615852559 = 4609048195788499471 by decide, show ((1022 : Nat) : Int) - 1074 = -53 + 1 by omega, pw_succ, uu_eq] at this
  rw [h2, this, ab_le, show ((6369376615852559 : Nat) : Rat) = 6369376615852559 by rfl]; unfold uu; grind
theorem cF : Num 4609916747145206638 ∧ ab (val 4609916747145206638 - 45 / 28) ≤ uu := by
  obtain ⟨h1, h2⟩ := word_pos (n := 4609916747145206638) (by decide)
  refine ⟨h1, ?_⟩
  have := rv_unit 1022 7237927972559726 (by decide) (.inr (by decide))
  rw [show 1022 * 2 ^ 52 + 7237927972559726 = 4609916747145206638 by decide, show ((1022 : Nat) : Int) - 1074 = -53 + 1 by omega, pw_succ, uu_eq] at this
  rw [h2, this, ab_le, show ((7237927972559726 : Nat) : Rat) = 7237927972559726 by rfl]; unfold uu; grind
theorem cG : Num 4600105333671292343 ∧ ab (val 4600105333671292343 - 5 / 14) ≤ uu := by
  obtain ⟨h1, h2⟩ := word_pos (n := 4600105333671292343) (by decide)
  refine ⟨h1, ?_⟩
  have := rv_unit 1020 6433713753386423 (by decide) (.inr (by decide))
  have hp := pw_pred (-53)
  rw [show 1020 * 2 ^ 52 + 6433713753386423 = 4600105333671292343 by decide, show ((1020 : Nat) : Int) - 1074 = -53 - 1 by omega] at this
  rw [uu_eq] at hp
  have hp2 : pw (-53 - 1) = uu / 2 := by grind
  rw [h2, this, hp2, ab_le, show ((6433713753386423 : Nat) : Rat) = 6433713753386423 by rfl]; unfold uu; grind
theorem cD : Num 13827900089180538932 ∧ ab (val 13827900089180538932 + 864 / 1225) ≤ uu := by
  refine ⟨⟨by decide, by decide⟩, ?_⟩
  have := rv_unit 1021 6352832780486708 (by decide) (.inr (by decide))
  rw [show 1021 * 2 ^ 52 + 6352832780486708 = 13827900089180538932 % 9223372036854775808 by decide, show ((1021 : Nat) : Int) - 1074 = -53 by omega, uu_eq] at this
  rw [val_eq, show sgn 13827900089180538932 = true by decide, if_pos rfl, this, ab_le, show ((6352832780486708 : Nat) : Rat) = 6352832780486708 by rfl]; unfold uu; grind

theorem prod3 {a b c : Rat} (ha : ab a ≤ uu) (hb : ab b ≤ uu) (hc : ab c ≤ uu) : ab ((1 + a) * (1 + b) * (1 + c) - 1) ≤ 4 * uu := by
  have u0 := uu_pos; have u2 := uu_sq; have u3 := uu_cube
  have h1 := mul_bound ha hb; have h2 := mul_bound ha hc; have h3 := mul_bound hb hc
  have h4 := mul_bound (mul_bound ha hb) hc
  have e : (1 + a) * (1 + b) * (1 + c) - 1 = a + b + c + a * b + a * c + b * c + a * b * c := by grind
  rw [e]; rw [ab_le] at ha hb hc h1 h2 h3 h4 ⊢; grind

set_option maxHeartbeats 1000000 in
theorem cbrt_mid {x t0 : Nat} (hx : x < infR) (hx0 : 0 < x) (ht : t0 < infR) (hb : Bd (-360) 342 (rv t0)) (h1 : 9 / 10 * rv x ≤ rv t0 ^ 3) (h2 : rv t0 ^ 3 ≤ 11 / 10 * rv x) :
    ∃ a1 r ry s sE ds den f g t1, double.mul t0 t0 = some a1 ∧ double.div a1 x = some r ∧ double.mul r t0 = some ry ∧ double.add 4603064841997850097 ry = some s ∧ double.add s 4609048195788499471 = some sE ∧
      double.div 13827900089180538932 s = some ds ∧ double.add sE ds = some den ∧ double.div 4609916747145206638 den = some f ∧ double.add 4600105333671292343 f = some g ∧ double.mul t0 g = some t1 ∧
      t1 < infR ∧ Bd (-361) 343 (rv t1) ∧ ab (rv t1 ^ 3 - rv x) ≤ 4 / 10000000 * rv x := by
  have u0 := uu_pos; have u1 := uu_small
  obtain ⟨xn, xv⟩ := word_pos hx
  obtain ⟨tn, tv⟩ := word_pos ht
  have hX : 0 < rv x := rv_pos (by omega)
  have hXne : rv x ≠ 0 := by grind
  have hT := hb.pos
  generalize hTT : rv t0 = T at *
  generalize hXX : rv x = X at *
  obtain ⟨y, hy⟩ : ∃ y, y * X = T ^ 3 := ⟨T ^ 3 / X, Rat.div_mul_cancel hXne⟩
  have hy1 : 9 / 10 ≤ y := Rat.le_of_mul_le_mul_right (c := X) (by grind) hX
  have hy2 : y ≤ 11 / 10 := Rat.le_of_mul_le_mul_right (c := X) (by grind) hX
  -- t0 * t0
  have hTb : Bd (-360) 342 T := hb
  obtain ⟨a1, a1e, a1n, a1b, d1, d1b, a1v⟩ := fmul tn tn (-720) 684 (by rw [tv]; exact hTb.mul hTb) (by omega) (by omega)
  rw [tv] at a1v
  have d1s : ab d1 ≤ 1 / 1000 := by grind
  have d1s' := d1s; rw [ab_le] at d1s'
  -- / x
  have hq1 : val a1 / val x = y * (1 + d1) / T := by
    have hTne : T ≠ 0 := by grind
    rw [xv, a1v]
    have e1 : T * T * (1 + d1) = y * (1 + d1) / T * X := by
      have e2 : y * (1 + d1) / T * X = (y * X) * (1 + d1) / T := by grind
      have e3 : T ^ 3 * (1 + d1) / T = T * T * (1 + d1) := by
        have : T ^ 3 * (1 + d1) = T * T * (1 + d1) * T := by grind
        rw [this, Rat.mul_div_cancel hTne]
      rw [e2, hy, e3]
    rw [e1, Rat.mul_div_cancel hXne]
  have hyd : Bd (-1) 1 (y * (1 + d1)) := by
    have k := mul_bound (show ab y ≤ 11 / 10 by rw [ab_le]; grind) d1s
    rw [ab_le] at k
    refine ⟨?_, ?_⟩
    · rw [pwm1]; grind
    · rw [pw_one]; grind
  obtain ⟨r, re, rn, rb, d2, d2b, rv'⟩ := fdiv a1n xn (by rw [xv]; exact hXne) (-343) 361 (by rw [hq1]; exact hyd.div hTb) (by omega) (by omega)
  rw [hq1] at rv'
  -- * t0
  have hq2 : val r * val t0 = y * (1 + d1) * (1 + d2) := by
    rw [tv, rv']
    have : y * (1 + d1) / T * (1 + d2) * T = (y * (1 + d1) / T * T) * (1 + d2) := by grind
    rw [this, Rat.div_mul_cancel (by grind)]
  have d2s : ab d2 ≤ 1 / 1000 := by grind
  have hyd2 : Bd (-1) 1 (y * (1 + d1) * (1 + d2)) := by
    have k := mul_bound (show ab y ≤ 11 / 10 by rw [ab_le]; grind) (mul_bound (show ab (1 + d1) ≤ 1001 / 1000 by rw [ab_le]; grind) d2s)
    have k1 := mul_bound (show ab y ≤ 11 / 10 by rw [ab_le]; grind) d1s
    rw [ab_le] at k k1
    refine ⟨?_, ?_⟩
    · rw [pwm1]; grind
    · rw [pw_one]; grind
  obtain ⟨ry, rye, ryn, ryb, d3, d3b, ryv⟩ := fmul rn tn (-1) 1 (by rw [hq2]; exact hyd2) (by omega) (by omega)
  rw [hq2] at ryv
  have hY : ab (val ry - y) ≤ 5 * uu := by
    have k := mul_bound (show ab y ≤ 11 / 10 by rw [ab_le]; grind) (prod3 d1b d2b d3b)
    have e : val ry - y = y * ((1 + d1) * (1 + d2) * (1 + d3) - 1) := by rw [ryv]; grind
    rw [e]; rw [ab_le] at k ⊢; grind
  clear hq1 hq2 hyd hyd2 a1v rv' ryv d1b d2b d3b a1n a1b rn rb ryb d1s d2s d1s'
  have hY' := hY
  rw [ab_le] at hY'
  generalize hYY : val ry = Y at *
  -- C + ..
  obtain ⟨nC, vC⟩ := cC
  have vC' := vC
  rw [ab_le] at vC'
  obtain ⟨s, se, sn, sb, d4, d4b, sv'⟩ := fadd nC ryn 0 1 (by
    rw [hYY]; refine ⟨?_, ?_⟩
    · rw [pw_zero]; grind
    · rw [pw_one]; grind) (by omega) (by omega)
  rw [hYY] at sv'
  have hS : ab (val s - (19 / 35 + Y)) ≤ 3 * uu := by
    have k := mul_bound (show ab (val 4603064841997850097 + Y) ≤ 18 / 10 by rw [ab_le]; grind) d4b
    have e : val s - (19 / 35 + Y) = (val 4603064841997850097 - 19 / 35) + (val 4603064841997850097 + Y) * d4 := by rw [sv']; grind
    rw [e]; rw [ab_le] at k ⊢; grind
  have hS' := hS
  rw [ab_le] at hS'
  clear sv' d4b vC vC' nC ryn hYY
  generalize hSS : val s = S at *
  -- .. + E
  obtain ⟨nE, vE⟩ := cE
  have vE' := vE
  rw [ab_le] at vE'
  obtain ⟨sE, sEe, sEn, sEb, d5, d5b, sEv⟩ := fadd sn nE 1 2 (by
    rw [hSS]; refine ⟨?_, ?_⟩
    · rw [pw_one]; grind
    · rw [pw2]; grind) (by omega) (by omega)
  rw [hSS] at sEv
  have hA : ab (val sE - (S + 99 / 70)) ≤ 6 * uu := by
    have k := mul_bound (show ab (S + val 4609048195788499471) ≤ 4 by rw [ab_le]; grind) d5b
    have e : val sE - (S + 99 / 70) = (val 4609048195788499471 - 99 / 70) + (S + val 4609048195788499471) * d5 := by rw [sEv]; grind
    rw [e]; rw [ab_le] at k ⊢; grind
  have hA' := hA
  rw [ab_le] at hA'
  clear sEv d5b vE vE' nE
  generalize hAA : val sE = A at *
  -- D / ..
  obtain ⟨nD, vD⟩ := cD
  have vD' := vD
  rw [ab_le] at vD'
  have hS0 : val s ≠ 0 := by rw [hSS]; grind
  obtain ⟨ds, dse, ds2, _⟩ := div_spec nD sn hS0
  rw [hSS] at ds2 hS0
  obtain ⟨q, hq⟩ : ∃ q, q = val 13827900089180538932 / S := ⟨_, rfl⟩
  have hqS : q * S = val 13827900089180538932 := by rw [hq, Rat.div_mul_cancel hS0]
  rw [← hq] at ds2
  have hq1 : -(6 / 10) ≤ q := Rat.le_of_mul_le_mul_right (c := S) (by grind) (by grind)
  have hq2 : q ≤ -(4 / 10) := Rat.le_of_mul_le_mul_right (c := S) (by grind) (by grind)
  have hqa : ab q ≤ 1 := by rw [ab_le]; grind
  have hqb : pw (-1022) ≤ ab q := by
    have h3 := pw_mono (show (-1022 : Int) ≤ -2 by omega)
    rw [pwm2] at h3
    have h5 : ab q = -q := by unfold ab; grind
    rw [h5]; grind
  have dsr := ds2.rnd (by
    have := pw_mono (show (0 : Int) ≤ 1023 by omega)
    rw [pw_zero] at this; grind)
  obtain ⟨d6, d6a, d6b, dsv⟩ := dsr.delta hqb
  rw [uu_eq] at d6a d6b
  have d6c : ab d6 ≤ uu := by rw [ab_le]; exact ⟨d6a, d6b⟩
  have hB : ab (val ds * S + 864 / 1225) ≤ 2 * uu := by
    have k := mul_bound (show ab (val 13827900089180538932) ≤ 8 / 10 by rw [ab_le]; grind) d6c
    have e : val ds * S + 864 / 1225 = (val 13827900089180538932 + 864 / 1225) + val 13827900089180538932 * d6 := by
      rw [dsv]
      have : q * (1 + d6) * S = (q * S) * (1 + d6) := by grind
      rw [this, hqS]; grind
    rw [e]; rw [ab_le] at k ⊢; grind
  have hB' : -(61 / 100) ≤ val ds ∧ val ds ≤ -(39 / 100) := by
    have k := mul_bound hqa d6c
    rw [ab_le] at k
    rw [dsv]; grind
  have dsn := dsr.fin
  clear dsv d6a d6b d6c dsr ds2 hq hqS hq1 hq2 hqa hqb nD vD vD'
  generalize hBB : val ds = B at *
  -- the sum
  obtain ⟨den, dene, denn, denb, d7, d7b, denv⟩ := fadd sEn dsn 1 2 (by
    rw [hAA, hBB]; refine ⟨?_, ?_⟩
    · rw [pw_one]; grind
    · rw [pw2]; grind) (by omega) (by omega)
  rw [hAA, hBB] at denv
  have hD : ab (val den - (A + B)) ≤ 3 * uu := by
    have k := mul_bound (show ab (A + B) ≤ 3 by rw [ab_le]; grind) d7b
    have e : val den - (A + B) = (A + B) * d7 := by rw [denv]; grind
    rw [e]; rw [ab_le] at k ⊢; grind
  have hD' := hD
  rw [ab_le] at hD'
  clear denv d7b denb
  generalize hDD : val den = D at *
  -- F / ..
  obtain ⟨nF, vF⟩ := cF
  have vF' := vF
  rw [ab_le] at vF'
  have hD0 : val den ≠ 0 := by rw [hDD]; grind
  obtain ⟨qf, hqf⟩ : ∃ qf, qf = val 4609916747145206638 / D := ⟨_, rfl⟩
  have hD0' : D ≠ 0 := by grind
  have hqD : qf * D = val 4609916747145206638 := by rw [hqf, Rat.div_mul_cancel hD0']
  have hqf1 : 1 / 2 ≤ qf := Rat.le_of_mul_le_mul_right (c := D) (by grind) (by grind)
  have hqf2 : qf ≤ 1 := Rat.le_of_mul_le_mul_right (c := D) (by grind) (by grind)
  obtain ⟨f, fe, fn, fb, d8, d8b, fv⟩ := fdiv nF denn hD0 (-1) 0 (by
    rw [hDD, ← hqf]; refine ⟨?_, ?_⟩
    · rw [pwm1]; exact hqf1
    · rw [pw_zero]; exact hqf2) (by omega) (by omega)
  rw [hDD, ← hqf] at fv
  have hF : ab (val f * D - 45 / 28) ≤ 4 * uu := by
    have k := mul_bound (show ab (val 4609916747145206638) ≤ 2 by rw [ab_le]; grind) d8b
    have e : val f * D - 45 / 28 = (val 4609916747145206638 - 45 / 28) + val 4609916747145206638 * d8 := by
      rw [fv]
      have : qf * (1 + d8) * D = (qf * D) * (1 + d8) := by grind
      rw [this, hqD]; grind
    rw [e]; rw [ab_le] at k ⊢; grind
  have hF' : 1 / 2 ≤ val f ∧ val f ≤ 1 := by
    have := fb.1; have := fb.2
    rw [pwm1] at *; rw [pw_zero] at *; grind
  clear fv d8b fb hqf hqD hqf1 hqf2 nF vF vF' hD0
  generalize hFF : val f = F at *
  -- G + ..
  obtain ⟨nG, vG⟩ := cG
  have vG' := vG
  rw [ab_le] at vG'
  obtain ⟨g, ge, gn, gb, d9, d9b, gv⟩ := fadd nG fn (-1) 1 (by
    rw [hFF]; refine ⟨?_, ?_⟩
    · rw [pwm1]; grind
    · rw [pw_one]; grind) (by omega) (by omega)
  rw [hFF] at gv
  have hg : ab (val g - (5 / 14 + F)) ≤ 3 * uu := by
    have k := mul_bound (show ab (val 4600105333671292343 + F) ≤ 14 / 10 by rw [ab_le]; grind) d9b
    have e : val g - (5 / 14 + F) = (val 4600105333671292343 - 5 / 14) + (val 4600105333671292343 + F) * d9 := by rw [gv]; grind
    rw [e]; rw [ab_le] at k ⊢; grind
  -- the product
  have hgT : Bd (-361) 343 (val t0 * val g) := by
    rw [tv]; exact (hTb.mul gb).wide (by omega) (by omega)
  obtain ⟨t1, t1e, t1n, t1b, d10, d10b, t1v⟩ := fmul tn gn (-361) 343 hgT (by omega) (by omega)
  rw [tv] at t1v
  clear gv d9b vG vG' nG gb
  obtain ⟨_, hres⟩ := stepB hy1 hy2 hY hS hA hB hD hF hg d10b
  have t1p := t1b.pos
  obtain ⟨t1w, t1r⟩ := pos_word t1n t1p
  refine ⟨a1, r, ry, s, sE, ds, den, f, g, t1, a1e, re, rye, se, sEe, dse, dene, fe, ge, t1e, t1w, by rw [← t1r]; exact t1b, ?_⟩
  rw [← t1r, t1v]
  have e : (T * val g * (1 + d10)) ^ 3 - X = X * (y * (val g * (1 + d10)) ^ 3 - 1) := by
    have : (T * val g * (1 + d10)) ^ 3 = T ^ 3 * (val g * (1 + d10)) ^ 3 := by grind
    rw [this, ← hy]; grind
  rw [e]
  have k := mul_bound (show ab X ≤ X by rw [ab_le]; grind) hres
  grind
end Go.Proofs.Ytffflefdmhdhnaa.Flo
