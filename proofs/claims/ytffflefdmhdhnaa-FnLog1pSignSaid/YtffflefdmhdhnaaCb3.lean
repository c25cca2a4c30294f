/- The first guess of the cube root: a third of the word and a constant. -/
import Derived.Test.YtffflefdmhdhnaaCb2
namespace Go.Proofs.Ytffflefdmhdhnaa.Flo
open Ieee

/-- a cube is not below its tangent -/
theorem tangent {g c : Rat} (hg : 0 ≤ g) (hc : 0 ≤ c) : 3 * c ^ 2 * g - 2 * c ^ 3 ≤ g ^ 3 := by
  have h1 : 0 ≤ (g - c) ^ 2 := by
    rcases Rat.le_total (a := 0) (b := g - c) with h | h
    · have := Rat.mul_nonneg h h; grind
    · have := Rat.mul_nonneg (show 0 ≤ c - g by grind) (show 0 ≤ c - g by grind); grind
  have := Rat.mul_nonneg h1 (show 0 ≤ g + 2 * c by grind)
  grind

/-- .. and not above its chord -/
theorem chord {c f g : Rat} (hc : 0 ≤ c) (h0 : 0 ≤ f) (h1 : f ≤ 1) (hg0 : 0 ≤ g) (hg : g ≤ c + f / 3) : g ^ 3 ≤ c ^ 3 + f * (c ^ 2 + c / 3 + 1 / 27) := by
  obtain ⟨t, ht⟩ : ∃ t, t = c + f / 3 := ⟨_, rfl⟩
  have h2 : g ^ 3 ≤ t ^ 3 := by
    have a1 := Rat.mul_nonneg (show 0 ≤ t - g by grind) (show 0 ≤ t by grind)
    have a2 := Rat.mul_nonneg (show 0 ≤ t - g by grind) hg0
    have b1 := Rat.mul_nonneg a1 (show 0 ≤ t by grind)
    have b2 := Rat.mul_nonneg a1 hg0
    have b3 := Rat.mul_nonneg a2 hg0
    grind
  have f2 : f ^ 2 ≤ f := by have := Rat.mul_nonneg h0 (show 0 ≤ 1 - f by grind); grind
  have f20 : 0 ≤ f ^ 2 := by have := Rat.mul_nonneg h0 h0; grind
  have f3 : f ^ 3 ≤ f := by have := Rat.mul_nonneg f20 (show 0 ≤ 1 - f by grind); grind
  have k1 := Rat.mul_nonneg hc (show 0 ≤ f - f ^ 2 by grind)
  have e : t ^ 3 = c ^ 3 + c ^ 2 * f + c * f ^ 2 / 3 + f ^ 3 / 27 := by rw [ht]; grind
  grind

theorem guess0 {f g : Rat} (h0 : 0 ≤ f) (h1 : f ≤ 1) (ha : 3 * g ≤ f + 3041721 / 1048576) (hb : f + 3041721 / 1048576 - 1 / 1000000000000000 ≤ 3 * g) (h : 1 ≤ g) :
    9 / 10 * (1 + f) ≤ g ^ 3 ∧ g ^ 3 ≤ 11 / 10 * (1 + f) := by
  constructor
  · have := tangent (g := g) (c := 1) (by grind) (by grind)
    grind
  · have := chord (c := 1013907 / 1048576) (f := f) (g := g) (by grind) h0 h1 (by grind) (by grind)
    grind
theorem guess0' {f g : Rat} (h0 : 0 ≤ f) (ha : 3 * g ≤ f + 3041721 / 1048576) (hb : f + 3041721 / 1048576 - 1 / 1000000000000000 ≤ 3 * g) (h : g ≤ 1) :
    9 / 10 * (1 + f) ≤ ((1 + g) / 2) ^ 3 ∧ ((1 + g) / 2) ^ 3 ≤ 11 / 10 * (1 + f) := by
  constructor
  · have := tangent (g := (1 + g) / 2) (c := 98 / 100) (by grind) (by grind)
    grind
  · have h2 := Rat.mul_nonneg (show 0 ≤ 1 - (1 + g) / 2 by grind) (show 0 ≤ (1 + g) / 2 by grind)
    have h3 := Rat.mul_nonneg h2 (show 0 ≤ (1 + g) / 2 by grind)
    grind
theorem guess1 {f g : Rat} (h0 : 0 ≤ f) (h1 : f ≤ 1) (ha : 3 * g ≤ 1 + f + 3041721 / 1048576) (hb : 1 + f + 3041721 / 1048576 - 1 / 1000000000000000 ≤ 3 * g) :
    9 / 10 * (2 * (1 + f)) ≤ g ^ 3 ∧ g ^ 3 ≤ 11 / 10 * (2 * (1 + f)) := by
  constructor
  · have := tangent (g := g) (c := 145 / 100) (by grind) (by grind)
    grind
  · have := chord (c := 1 / 3 + 1013907 / 1048576) (f := f) (g := g) (by grind) h0 h1 (by grind) (by grind)
    grind
theorem guess2 {f g : Rat} (h0 : 0 ≤ f) (h1 : f ≤ 1) (ha : 3 * g ≤ 2 + f + 3041721 / 1048576) (hb : 2 + f + 3041721 / 1048576 - 1 / 1000000000000000 ≤ 3 * g) :
    9 / 10 * (4 * (1 + f)) ≤ g ^ 3 ∧ g ^ 3 ≤ 11 / 10 * (4 * (1 + f)) := by
  constructor
  · have := tangent (g := g) (c := 185 / 100) (by grind) (by grind)
    grind
  · have := chord (c := 2 / 3 + 1013907 / 1048576) (f := f) (g := g) (by grind) h0 h1 (by grind) (by grind)
    grind

theorem pw52 : pw 52 = 4503599627370496 := by
  have := pw_nat 52
  rw [show ((52 : Nat) : Int) = 52 by rfl] at this
  rw [this]; simp
theorem pw3 (a : Int) : pw (3 * a) = pw a ^ 3 := by
  rw [show 3 * a = a + (a + a) by omega, pw_add, pw_add]; grind

/-- The guess at a normal rung: its cube is the number, to a tenth. -/
theorem guess (m K b0 : Nat) (h1 : 2 ^ 52 ≤ m) (hK : 1 ≤ K) (hb0 : b0 = 4354697406185472) :
    9 / 10 * (rv m * pw (3 * ((K : Int) - 681))) ≤ rv (m / 3 + (K * 2 ^ 52 + b0)) ^ 3 ∧ rv (m / 3 + (K * 2 ^ 52 + b0)) ^ 3 ≤ 11 / 10 * (rv m * pw (3 * ((K : Int) - 681))) := by
  obtain ⟨E, hE⟩ : ∃ E, E = m / 2 ^ 52 := ⟨_, rfl⟩
  obtain ⟨f, hf⟩ : ∃ f, f = m % 2 ^ 52 := ⟨_, rfl⟩
  have hm : m = E * 2 ^ 52 + f := by omega
  have hf1 : f < 2 ^ 52 := by omega
  have hE1 : 1 ≤ E := by omega
  obtain ⟨j, hj⟩ : ∃ j, j = E / 3 := ⟨_, rfl⟩
  obtain ⟨i, hi⟩ : ∃ i, i = E % 3 := ⟨_, rfl⟩
  have hEj : E = 3 * j + i := by omega
  have hi3 : i < 3 := by omega
  obtain ⟨g, hg⟩ : ∃ g, g = (i * 2 ^ 52 + f) / 3 + b0 := ⟨_, rfl⟩
  have hn : m / 3 + (K * 2 ^ 52 + b0) = (j + K) * 2 ^ 52 + g := by
    have h3 : m = 3 * (j * 2 ^ 52) + (i * 2 ^ 52 + f) := by
      rw [hm, hEj, Nat.add_mul, Nat.mul_assoc]; omega
    have h4 : m / 3 = j * 2 ^ 52 + (i * 2 ^ 52 + f) / 3 := by omega
    have h5 : (j + K) * 2 ^ 52 = j * 2 ^ 52 + K * 2 ^ 52 := Nat.add_mul j K (2 ^ 52)
    rw [h5, h4, hg]; exact Nat.add_add_add_comm _ _ _ _
  have hg1 : 3 * g ≤ i * 2 ^ 52 + f + 13064092218556416 := by omega
  have hg2 : i * 2 ^ 52 + f + 13064092218556416 ≤ 3 * g + 2 := by omega
  have hg3 : g < 2 ^ 53 := by omega
  -- the number itself
  have rm : rv m = ((2 ^ 52 + f : Nat) : Rat) * pw ((E : Int) - 1075) := by
    have := rv_unit (E - 1) (2 ^ 52 + f) (by omega) (.inr (by omega))
    have e1 : (E - 1) * 2 ^ 52 + (2 ^ 52 + f) = m := by
      rw [hm, Nat.sub_mul]
      have : 1 * 2 ^ 52 ≤ E * 2 ^ 52 := Nat.mul_le_mul_right _ hE1
      omega
    rw [e1, show ((E - 1 : Nat) : Int) - 1074 = (E : Int) - 1075 by omega] at this
    exact this
  -- in units
  obtain ⟨F, hF⟩ : ∃ F : Rat, F = (f : Rat) / 4503599627370496 := ⟨_, rfl⟩
  obtain ⟨G, hG⟩ : ∃ G : Rat, G = (g : Rat) / 4503599627370496 := ⟨_, rfl⟩
  have hF0 : 0 ≤ F := by
    have : (0 : Rat) ≤ (f : Rat) := by exact_mod_cast Nat.zero_le f
    rw [hF]; grind
  have hF1 : F ≤ 1 := by
    have : (f : Rat) ≤ 4503599627370496 := by exact_mod_cast (show f ≤ 4503599627370496 by omega)
    rw [hF]; grind
  have hGa : 3 * G ≤ (i : Rat) + F + 3041721 / 1048576 := by
    have : 3 * (g : Rat) ≤ (i : Rat) * 4503599627370496 + (f : Rat) + 13064092218556416 := by exact_mod_cast (show 3 * g ≤ i * 4503599627370496 + f + 13064092218556416 by omega)
    rw [hG, hF]; grind
  have hGb : (i : Rat) + F + 3041721 / 1048576 - 1 / 1000000000000000 ≤ 3 * G := by
    have : (i : Rat) * 4503599627370496 + (f : Rat) + 13064092218556416 ≤ 3 * (g : Rat) + 2 := by exact_mod_cast (show i * 4503599627370496 + f + 13064092218556416 ≤ 3 * g + 2 by omega)
    rw [hG, hF]; grind
  have hMF : ((2 ^ 52 + f : Nat) : Rat) = 4503599627370496 * (1 + F) := by
    rw [Rat.natCast_add, show ((2 ^ 52 : Nat) : Rat) = 4503599627370496 by simp, hF]; grind
  obtain ⟨U, hU⟩ : ∃ U : Rat, U = pw ((j : Int) + K - 1022) ^ 3 := ⟨_, rfl⟩
  have hUp : 0 < U := by rw [hU]; have := pw_pos ((j : Int) + K - 1022); exact Rat.pow_pos this
  -- what is to be met: 2 ^ i (1 + F) units
  have target : rv m * pw (3 * ((K : Int) - 681)) = pw (i : Int) * (1 + F) * U := by
    rw [rm, hMF, hU, ← pw3, ← pw52]
    have e1 : pw 52 * (1 + F) * pw ((E : Int) - 1075) * pw (3 * ((K : Int) - 681)) = (1 + F) * (pw 52 * (pw ((E : Int) - 1075) * pw (3 * ((K : Int) - 681)))) := by grind
    have e2 : pw (i : Int) * (1 + F) * pw (3 * ((j : Int) + K - 1022)) = (1 + F) * (pw (i : Int) * pw (3 * ((j : Int) + K - 1022))) := by grind
    rw [e1, e2, ← pw_add, ← pw_add, ← pw_add]
    congr 2; omega
  rw [target, hn]
  by_cases hc : 2 ^ 52 ≤ g
  · have rn := rv_unit (j + K) g (by omega) (.inr hc)
    have hG1 : 1 ≤ G := by
      have : (4503599627370496 : Rat) ≤ (g : Rat) := by exact_mod_cast (show 4503599627370496 ≤ g by omega)
      rw [hG]; grind
    have e1 : rv ((j + K) * 2 ^ 52 + g) ^ 3 = G ^ 3 * U := by
      have : (g : Rat) = pw 52 * G := by rw [pw52, hG]; grind
      rw [rn, this, hU]
      have e3 : pw 52 * G * pw (((j + K : Nat) : Int) - 1074) = G * (pw 52 * pw (((j + K : Nat) : Int) - 1074)) := by grind
      rw [e3, ← pw_add, show 52 + (((j + K : Nat) : Int) - 1074) = (j : Int) + K - 1022 by omega]; grind
    rw [e1]
    have key : 9 / 10 * (pw (i : Int) * (1 + F)) ≤ G ^ 3 ∧ G ^ 3 ≤ 11 / 10 * (pw (i : Int) * (1 + F)) := by
      rcases (show i = 0 ∨ i = 1 ∨ i = 2 by omega) with rfl | rfl | rfl
      · have := guess0 hF0 hF1 (g := G) (by have h0 : ((0 : Nat) : Rat) = 0 := rfl; rw [h0] at hGa; grind) (by have h0 : ((0 : Nat) : Rat) = 0 := rfl; rw [h0] at hGb; grind) hG1
        rw [show pw ((0 : Nat) : Int) = 1 from pw_zero]; grind
      · have := guess1 hF0 hF1 (g := G) (by simpa using hGa) (by simpa using hGb)
        rw [show pw ((1 : Nat) : Int) = 2 from pw_one]; grind
      · have := guess2 hF0 hF1 (g := G) (by simpa using hGa) (by simpa using hGb)
        rw [show pw ((2 : Nat) : Int) = 4 by rw [pw_nat]; simp]; grind
    have k1 := Rat.mul_le_mul_of_nonneg_right key.1 (Rat.le_of_lt hUp)
    have k2 := Rat.mul_le_mul_of_nonneg_right key.2 (Rat.le_of_lt hUp)
    constructor <;> grind
  · have hi0 : i = 0 := by omega
    subst hi0
    have e0 : (j + K) * 2 ^ 52 + g = (j + K - 1) * 2 ^ 52 + (2 ^ 52 + g) := by
      rw [Nat.sub_mul]
      have : 1 * 2 ^ 52 ≤ (j + K) * 2 ^ 52 := Nat.mul_le_mul_right _ (by omega)
      omega
    have rn := rv_unit (j + K - 1) (2 ^ 52 + g) (by omega) (.inr (by omega))
    have hG1 : G ≤ 1 := by
      have : (g : Rat) ≤ 4503599627370496 := by exact_mod_cast (show g ≤ 4503599627370496 by omega)
      rw [hG]; grind
    have e1 : rv ((j + K) * 2 ^ 52 + g) ^ 3 = ((1 + G) / 2) ^ 3 * U := by
      have : ((2 ^ 52 + g : Nat) : Rat) = pw 53 * ((1 + G) / 2) := by
        rw [Rat.natCast_add, show ((2 ^ 52 : Nat) : Rat) = 4503599627370496 by simp, show (53 : Int) = 52 + 1 by omega, pw_succ, pw52, hG]; grind
      rw [e0, rn, this, hU]
      have e3 : pw 53 * ((1 + G) / 2) * pw (((j + K - 1 : Nat) : Int) - 1074) = (1 + G) / 2 * (pw 53 * pw (((j + K - 1 : Nat) : Int) - 1074)) := by grind
      rw [e3, ← pw_add, show 53 + (((j + K - 1 : Nat) : Int) - 1074) = (j : Int) + K - 1022 by omega]; grind
    rw [e1]
    have key := guess0' hF0 (g := G) (by have h0 : ((0 : Nat) : Rat) = 0 := rfl; rw [h0] at hGa; grind) (by have h0 : ((0 : Nat) : Rat) = 0 := rfl; rw [h0] at hGb; grind) hG1
    rw [show pw ((0 : Nat) : Int) = 1 from pw_zero]
    have k1 := Rat.mul_le_mul_of_nonneg_right key.1 (Rat.le_of_lt hUp)
    have k2 := Rat.mul_le_mul_of_nonneg_right key.2 (Rat.le_of_lt hUp)
    constructor <;> grind
end Go.Proofs.Ytffflefdmhdhnaa.Flo
