/- The two steps of the cube root in rationals: the rational step, and the last one. -/
import Derived.Test.YtffflefdmhdhnaaCb1
namespace Go.Proofs.Ytffflefdmhdhnaa.Flo
open Ieee

theorem ab_le {a e : Rat} : ab a ≤ e ↔ -e ≤ a ∧ a ≤ e := by unfold ab; grind

theorem mul_bound {a b ea eb : Rat} (ha : ab a ≤ ea) (hb : ab b ≤ eb) : ab (a * b) ≤ ea * eb := by
  rw [ab_mul]
  have h1 := ab_nonneg a; have h2 := ab_nonneg b
  have h3 := Rat.mul_le_mul_of_nonneg_right ha h2
  have h4 := Rat.mul_le_mul_of_nonneg_left hb (show 0 ≤ ea by grind)
  grind
theorem ab_le_of_mul {a s e : Rat} (hs : 1 ≤ s) (h : ab (a * s) ≤ e) : ab a ≤ e := by
  rw [ab_mul] at h
  have h1 := ab_nonneg a
  have h2 : ab s = s := by unfold ab; grind
  rw [h2] at h
  have h3 := Rat.mul_le_mul_of_nonneg_left hs h1
  grind
theorem ab3 {P Q M e1 e2 e3 e : Rat} (h1 : ab P ≤ e1) (h2 : ab Q ≤ e2) (h3 : ab M ≤ e3) (he : e1 + e2 + e3 ≤ e) : ab (Q + M - P) ≤ e := by
  rw [ab_le] at h1 h2 h3 ⊢; grind
theorem uu_pos : 0 < uu := by unfold uu; grind
theorem uu_small : uu ≤ 1 / 1000000000000000 := by unfold uu; grind

theorem stepB {y Y S A B D F g d : Rat} (hy1 : 9 / 10 ≤ y) (hy2 : y ≤ 11 / 10) (hY : ab (Y - y) ≤ 5 * uu) (hS : ab (S - (19 / 35 + Y)) ≤ 3 * uu) (hA : ab (A - (S + 99 / 70)) ≤ 6 * uu)
    (hB : ab (B * S + 864 / 1225) ≤ 2 * uu) (hD : ab (D - (A + B)) ≤ 3 * uu) (hF : ab (F * D - 45 / 28) ≤ 4 * uu) (hg : ab (g - (5 / 14 + F)) ≤ 3 * uu) (hd : ab d ≤ uu) :
    (8 / 10 ≤ g ∧ g ≤ 12 / 10) ∧ ab (y * (g * (1 + d)) ^ 3 - 1) ≤ 4 / 10000000 := by
  have u0 := uu_pos; have u1 := uu_small
  have hY1 : 7 / 8 ≤ Y ∧ Y ≤ 9 / 8 := by rw [ab_le] at hY; grind
  obtain ⟨z, hz⟩ : ∃ z, z = 19 / 35 + Y := ⟨_, rfl⟩
  rw [← hz] at hS
  have hz1 : 14 / 10 ≤ z ∧ z ≤ 17 / 10 := by grind
  have hz0 : z ≠ 0 := by grind
  have hS1 : 13 / 10 ≤ S := by rw [ab_le] at hS; grind
  -- the inner quotient
  obtain ⟨b, hb⟩ : ∃ b, b * z = -(864 / 1225) := ⟨-(864 / 1225) / z, Rat.div_mul_cancel hz0⟩
  have hb1 : -(6 / 10) ≤ b := Rat.le_of_mul_le_mul_right (c := z) (by grind) (by grind)
  have hb2 : b ≤ -(4 / 10) := Rat.le_of_mul_le_mul_right (c := z) (by grind) (by grind)
  have hb3 : ab b ≤ 1 := by rw [ab_le]; grind
  have hBb : ab (B - b) ≤ 5 * uu := by
    refine ab_le_of_mul (s := S) (by grind) ?_
    have h1 := mul_bound hb3 hS
    have e1 : (B - b) * S = (B * S + 864 / 1225) - b * (S - z) := by grind
    rw [e1]; rw [ab_le] at h1 hB ⊢; grind
  obtain ⟨E, hE⟩ : ∃ E, E = z + 99 / 70 + b := ⟨_, rfl⟩
  have hE1 : 2 ≤ E ∧ E ≤ 3 := by grind
  have hDE : ab (D - E) ≤ 17 * uu := by rw [ab_le] at hD hA hS hBb ⊢; grind
  have hD1 : 1 ≤ D := by rw [ab_le] at hDE; grind
  obtain ⟨f, hf⟩ : ∃ f, f * E = 45 / 28 := ⟨45 / 28 / E, Rat.div_mul_cancel (by grind)⟩
  have hf1 : 1 / 2 ≤ f := Rat.le_of_mul_le_mul_right (c := E) (by grind) (by grind)
  have hf2 : f ≤ 1 := Rat.le_of_mul_le_mul_right (c := E) (by grind) (by grind)
  have hf3 : ab f ≤ 1 := by rw [ab_le]; grind
  have hFf : ab (F - f) ≤ 21 * uu := by
    refine ab_le_of_mul (s := D) hD1 ?_
    have h1 := mul_bound hf3 hDE
    have e1 : (F - f) * D = (F * D - 45 / 28) - f * (D - E) := by grind
    rw [e1]; rw [ab_le] at h1 hF ⊢; grind
  obtain ⟨p, hp⟩ : ∃ p, p = 5 / 14 + f := ⟨_, rfl⟩
  have hpp : p * (14 * Y ^ 2 + 35 * Y + 5) = 5 * Y ^ 2 + 35 * Y + 14 := by
    have e1 : E * z = Y ^ 2 + 5 / 2 * Y + 5 / 14 := by grind
    have e2 : f * (Y ^ 2 + 5 / 2 * Y + 5 / 14) = 45 / 28 * z := by rw [← e1]; grind
    grind
  obtain ⟨p1, p2, p3, p4⟩ := pade hY1.1 hY1.2 hpp
  have hgp : ab (g - p) ≤ 24 * uu := by rw [ab_le] at hg hFf ⊢; grind
  have hg1 : 8 / 10 ≤ g ∧ g ≤ 12 / 10 := by rw [ab_le] at hgp; grind
  refine ⟨hg1, ?_⟩
  obtain ⟨G, hG⟩ : ∃ G, G = g * (1 + d) := ⟨_, rfl⟩
  rw [← hG]
  have hGp : ab (G - p) ≤ 26 * uu := by
    have h1 := mul_bound (show ab g ≤ 12 / 10 by rw [ab_le]; grind) hd
    rw [ab_le] at hgp h1 ⊢; grind
  have hG1 : 7 / 10 ≤ G ∧ G ≤ 13 / 10 := by rw [ab_le] at hGp; grind
  have hGa : ab G ≤ 13 / 10 := by rw [ab_le]; grind
  have hpa : ab p ≤ 11 / 10 := by rw [ab_le]; grind
  -- y G³ against Y p³
  have k1 := mul_bound hY (mul_bound hGa (mul_bound hGa hGa))
  have k2 : ab (G * G + G * p + p * p) ≤ 45 / 10 := by
    have a1 := mul_bound hGa hGa; have a2 := mul_bound hGa hpa; have a3 := mul_bound hpa hpa
    rw [ab_le] at a1 a2 a3 ⊢; grind
  have k3 := mul_bound (show ab Y ≤ 9 / 8 by rw [ab_le]; grind) (mul_bound hGp k2)
  have e1 : y * G ^ 3 - 1 = (Y * p ^ 3 - 1) - (Y - y) * (G * (G * G)) + Y * ((G - p) * (G * G + G * p + p * p)) := by grind
  rw [e1]; rw [ab_le] at k1 k3 ⊢; grind

/-- The last step: 'a' the quotient of the number by the cube of what we have. -/
theorem halley {a d b n w r t : Rat} (ha1 : 1 - 1 / 524288 ≤ a) (ha2 : a ≤ 1 + 1 / 524288) (hd : ab d ≤ uu) (hb : b = a * (1 + d)) (hn : ab (n - (b - 1)) ≤ 1 / 1180591620717411303424) (hw : ab (w - (2 + b)) ≤ 16 * uu)
    (hr : ab (r * w - n) ≤ 1 / 590295810358705651712) (ht : ab (t - r) ≤ 1 / 590295810358705651712) : ab ((1 + t) ^ 3 - a) ≤ 5 / 4 * uu * a ∧ (1 / 2 ≤ 1 + t ∧ 1 + t ≤ 2) := by
  have u0 := uu_pos; have u1 := uu_small
  obtain ⟨c, hc⟩ : ∃ c, c = b - 1 := ⟨_, rfl⟩
  have had := mul_bound (show ab a ≤ 2 by rw [ab_le]; grind) hd
  have hc1 : ab c ≤ 1 / 524000 := by rw [ab_le] at had ⊢; grind
  have hc1' := hc1
  rw [ab_le] at hc1'
  -- exact: z (3 + c) = c
  obtain ⟨z, hz⟩ : ∃ z, z * (3 + c) = c := ⟨c / (3 + c), Rat.div_mul_cancel (by grind)⟩
  have hz1 : ab z ≤ 1 / 1500000 := by
    have h1 : ab (z * 2 * ((3 + c) / 2)) ≤ 1 / 524000 := by
      have : z * 2 * ((3 + c) / 2) = z * (3 + c) := by grind
      rw [this, hz]; exact hc1
    have h2 : ab (z * (29 / 10) * ((3 + c) / (29 / 10))) ≤ 1 / 524000 := by
      have : z * (29 / 10) * ((3 + c) / (29 / 10)) = z * (3 + c) := by grind
      rw [this, hz]; exact hc1
    have h3 := ab_le_of_mul (s := (3 + c) / (29 / 10)) (by grind) h2
    rw [ab_le] at h3 ⊢; grind
  have hw1 : 2 ≤ w := by rw [ab_le] at hw; grind
  have hrz : ab (r - z) ≤ 1 / 147573952589676412928 := by
    refine ab_le_of_mul (s := w) (by grind) ?_
    have h1 := mul_bound hz1 hw
    have e1 : (r - z) * w = (r * w - n) + (n - (b - 1)) - z * (w - (2 + b)) := by
      have : z * (2 + b) = b - 1 := by grind
      grind
    rw [e1]
    exact ab3 h1 hr hn (by unfold uu; grind)
  have htz : ab (t - z) ≤ 1 / 73786976294838206464 := by rw [ab_le] at hrz ht ⊢; grind
  have hz1' := hz1
  rw [ab_le] at hz1'
  have htz' := htz
  rw [ab_le] at htz'
  -- the cube of the exact step
  obtain ⟨k, hk⟩ : ∃ k, k = (1 + z) ^ 3 - (1 + c) := ⟨_, rfl⟩
  have hkw : k * (3 + c) ^ 3 = -(c ^ 3 * (2 + c)) := by
    have e1 : k * (3 + c) ^ 3 = ((3 + c) + z * (3 + c)) ^ 3 - (1 + c) * (3 + c) ^ 3 := by rw [hk]; grind
    rw [e1, hz]; grind
  have hc3 : ab (c ^ 3 * (2 + c)) ≤ 1 / 60000000000000000 := by
    have h1 := mul_bound (mul_bound hc1 (mul_bound hc1 hc1)) (show ab (2 + c) ≤ 21 / 10 by rw [ab_le]; grind)
    have : c ^ 3 * (2 + c) = c * (c * c) * (2 + c) := by grind
    rw [this]; rw [ab_le] at h1 ⊢; grind
  have hk1 : ab k ≤ 1 / 1200000000000000000 := by
    have hw3 : 20 ≤ (3 + c) ^ 3 := by
      have h1 : 8 ≤ (3 + c) ^ 2 := by
        have := Rat.mul_nonneg (show 0 ≤ (3 + c) - 29 / 10 by grind) (show 0 ≤ (3 + c) + 29 / 10 by grind); grind
      have := Rat.mul_nonneg (show 0 ≤ (3 + c) ^ 2 - 8 by grind) (show 0 ≤ (3 + c) - 5 / 2 by grind)
      grind
    have h2 : ab (k * 20 * ((3 + c) ^ 3 / 20)) ≤ 1 / 60000000000000000 := by
      have : k * 20 * ((3 + c) ^ 3 / 20) = k * (3 + c) ^ 3 := by grind
      rw [this, hkw]; rw [ab_le] at hc3 ⊢; grind
    have h3 := ab_le_of_mul (s := (3 + c) ^ 3 / 20) (by grind) h2
    rw [ab_le] at h3 ⊢; grind
  have hq : ab ((1 + t) * (1 + t) + (1 + t) * (1 + z) + (1 + z) * (1 + z)) ≤ 4 := by
    have a0 : ab (1 + t) ≤ 11 / 10 := by rw [ab_le]; grind
    have b0 : ab (1 + z) ≤ 11 / 10 := by rw [ab_le]; grind
    have a1 := mul_bound a0 a0; have a2 := mul_bound a0 b0; have a3 := mul_bound b0 b0
    rw [ab_le] at a1 a2 a3 ⊢; grind
  have hcube := mul_bound htz hq
  have e1 : (1 + t) ^ 3 - a = a * d + k + (t - z) * ((1 + t) * (1 + t) + (1 + t) * (1 + z) + (1 + z) * (1 + z)) := by
    rw [hk, hc, hb]; grind
  have had2 : ab (a * d) ≤ a * uu := by
    have h1 := mul_bound (show ab a ≤ a by rw [ab_le]; grind) hd
    exact h1
  refine ⟨?_, by grind, by grind⟩
  have hau := Rat.mul_nonneg (show 0 ≤ a - 9 / 10 by grind) (Rat.le_of_lt u0)
  rw [e1]
  have u2 : 1 / 10000000000000000 ≤ uu := by unfold uu; grind
  rw [ab_le] at had2 hk1 hcube ⊢
  grind
end Go.Proofs.Ytffflefdmhdhnaa.Flo
