/- The end of the cube root: from a cube that is right to 54 bits to the bounds of the rounded root; and the chopped root. -/
import Derived.Test.YtffflefdmhdhnaaCb3
namespace Go.Proofs.Ytffflefdmhdhnaa.Flo
open Ieee

theorem cube_lt {a b : Rat} (ha : 0 ≤ a) (h : a < b) : a ^ 3 < b ^ 3 := by
  have h1 := Rat.mul_pos (show 0 < b - a by grind) (show 0 < b by grind)
  have h2 := Rat.mul_pos h1 (show 0 < b by grind)
  have h3 := Rat.mul_nonneg (Rat.le_of_lt h1) ha
  have h4 := Rat.mul_nonneg (Rat.mul_nonneg (show 0 ≤ b - a by grind) ha) ha
  grind
theorem le_of_cube {a b : Rat} (hb : 0 ≤ b) (h : a ^ 3 ≤ b ^ 3) : a ≤ b := by
  rcases Rat.le_total (a := a) (b := b) with c | c
  · exact c
  · rcases Decidable.em (a = b) with e | e
    · grind
    · have := cube_lt hb (show b < a by grind); grind
theorem lt_of_cube {a b : Rat} (hb : 0 ≤ b) (h : a ^ 3 < b ^ 3) : a < b := by
  rcases Rat.le_total (a := b) (b := a) with c | c
  · rcases Decidable.em (a = b) with e | e
    · subst e; grind
    · have := cube_lt hb (show b < a by grind); grind
  · rcases Decidable.em (a = b) with e | e
    · subst e; grind
    · grind

theorem rv_below_one : rv (1023 * 2 ^ 52 - 1) = 1 - uu := by
  have := rv_unit 1021 (2 ^ 53 - 1) (by omega) (.inr (by omega))
  rw [show 1021 * 2 ^ 52 + (2 ^ 53 - 1) = 1023 * 2 ^ 52 - 1 by omega, show ((1021 : Nat) : Int) - 1074 = -53 by omega, uu_eq] at this
  rw [this, show ((2 ^ 53 - 1 : Nat) : Rat) = 9007199254740991 by simp]; unfold uu; grind
theorem rv_above_one : rv (1023 * 2 ^ 52 + 1) = 1 + 2 * uu := by
  have := rv_unit 1022 (2 ^ 52 + 1) (by omega) (.inr (by omega))
  rw [show 1022 * 2 ^ 52 + (2 ^ 52 + 1) = 1023 * 2 ^ 52 + 1 by omega, show ((1022 : Nat) : Int) - 1074 = -53 + 1 by omega, pw_succ, uu_eq] at this
  rw [this, show ((2 ^ 52 + 1 : Nat) : Rat) = 4503599627370497 by simp]; unfold uu; grind

theorem val_lt_one {x : Nat} (h : val x < 1) : val x ≤ 1 - uu := by
  have u0 := uu_pos
  have h2 := rv_nonneg (x % 9223372036854775808)
  rw [val_eq] at h ⊢
  cases hs : sgn x
  · rw [hs] at h
    simp only [Bool.false_eq_true, if_false] at h ⊢
    rw [← rv_one, rv_lt_iff] at h
    rw [← rv_below_one, rv_le_iff]; omega
  · have := uu_small
    simp only [if_true]; grind
theorem val_gt_one {x : Nat} (h : 1 < val x) : 1 + 2 * uu ≤ val x := by
  have h2 := rv_nonneg (x % 9223372036854775808)
  rw [val_eq] at h ⊢
  cases hs : sgn x
  · rw [hs] at h
    simp only [Bool.false_eq_true, if_false] at h ⊢
    rw [← rv_one, rv_lt_iff] at h
    rw [← rv_above_one, rv_le_iff]; omega
  · rw [hs] at h; simp at h; grind

theorem rep1 : Rep 1 := ⟨1023 * 2 ^ 52, ⟨by decide, by decide⟩, by rw [val_pos_of_lt (by decide), rv_one]⟩

theorem near_one_up {v : Rat} {r : Nat} (h : Rnd v r) (hv : v < 1 + uu) : val r ≤ 1 := by
  rcases Rat.le_total (a := v) (b := 1) with c | c
  · exact h.hi rep1 c
  · rcases Rat.le_total (a := val r) (b := 1) with e | e
    · exact e
    · rcases Decidable.em (val r = 1) with e2 | e2
      · grind
      · have h1 := val_gt_one (x := r) (by grind)
        obtain ⟨a, ha, hav⟩ := rep1
        have h2 := h.near a ha
        rw [hav] at h2
        unfold ab at h2; grind
theorem near_one_down {v : Rat} {r : Nat} (h : Rnd v r) (hv : 1 - uu / 2 < v) : 1 ≤ val r := by
  rcases Rat.le_total (a := 1) (b := v) with c | c
  · exact h.lo rep1 c
  · rcases Rat.le_total (a := 1) (b := val r) with e | e
    · exact e
    · rcases Decidable.em (val r = 1) with e2 | e2
      · grind
      · have h1 := val_lt_one (x := r) (by grind)
        obtain ⟨a, ha, hav⟩ := rep1
        have h2 := h.near a ha
        rw [hav] at h2
        unfold ab at h2; grind

theorem uu_sq : 0 ≤ uu * uu ∧ uu * uu ≤ uu / 1000 := by
  have h0 := uu_pos; have h1 := uu_small
  have a := Rat.mul_nonneg (Rat.le_of_lt h0) (Rat.le_of_lt h0)
  have b := Rat.mul_nonneg (Rat.le_of_lt h0) (show 0 ≤ 1 / 1000 - uu by grind)
  grind
theorem uu_cube : 0 ≤ uu * uu * uu ∧ uu * uu * uu ≤ uu / 1000 := by
  have h0 := uu_pos; have h1 := uu_small; have h2 := uu_sq
  have a := Rat.mul_nonneg h2.1 (Rat.le_of_lt h0)
  have b := Rat.mul_nonneg (Rat.le_of_lt h0) (show 0 ≤ 1 / 1000 - uu * uu by grind)
  grind

/-- The bounds of the rounded root. -/
theorem cbrt_bounds {x r : Nat} {v : Rat} (hx : Num x) (hX : 0 < val x) (hv0 : 0 < v) (h : Rnd v r) (hc : ab (v ^ 3 - val x) ≤ 5 / 4 * uu * val x) :
    (val x < 1 → val x ≤ val r ∧ val r ≤ 1) ∧ (1 ≤ val x → 1 ≤ val r ∧ val r ≤ val x) := by
  have u0 := uu_pos; have u1 := uu_small; have u2 := uu_sq; have u3 := uu_cube
  rw [ab_le] at hc
  have hux := Rat.mul_pos u0 hX
  constructor
  · intro h1
    have h2 := val_lt_one h1
    constructor
    · refine h.lo hx.rep (le_of_cube (Rat.le_of_lt hv0) ?_)
      have h3 := Rat.mul_nonneg (show 0 ≤ 1 - uu - val x by grind) (show 0 ≤ 1 - uu + val x by grind)
      have h4 : val x ^ 2 ≤ 1 - 5 / 4 * uu := by grind
      have h5 := Rat.mul_nonneg (show 0 ≤ 1 - 5 / 4 * uu - val x ^ 2 by grind) (Rat.le_of_lt hX)
      grind
    · refine near_one_up h (lt_of_cube (by grind) ?_)
      have h3 := Rat.mul_nonneg (Rat.le_of_lt u0) (show 0 ≤ 1 - uu - val x by grind)
      grind
  · intro h1
    have hle : v ^ 3 ≤ val x + 5 / 4 * (uu * val x) := by grind
    constructor
    · refine near_one_down h (lt_of_cube (Rat.le_of_lt hv0) ?_)
      have h3 := Rat.mul_nonneg (show 0 ≤ 1 - 5 / 4 * uu by grind) (show 0 ≤ val x - 1 by grind)
      have e : (1 - uu / 2) ^ 3 = 1 - 3 / 2 * uu + 3 / 4 * (uu * uu) - 1 / 8 * (uu * uu * uu) := by grind
      rw [e]; grind
    · rcases Decidable.em (val x = 1) with e | e
      · rw [e]
        refine near_one_up h (lt_of_cube (by grind) ?_)
        rw [e] at hle
        have e2 : (1 + uu) ^ 3 = 1 + 3 * uu + 3 * (uu * uu) + uu * uu * uu := by grind
        rw [e2]; grind
      · have h2 := val_gt_one (x := x) (by grind)
        refine h.hi hx.rep (le_of_cube (Rat.le_of_lt hX) ?_)
        have h3 := Rat.mul_nonneg (show 0 ≤ val x - 1 - 2 * uu by grind) (show 0 ≤ val x + 1 by grind)
        have h4 : 1 + 5 / 4 * uu ≤ val x ^ 2 := by grind
        have h5 := Rat.mul_nonneg (show 0 ≤ val x ^ 2 - 1 - 5 / 4 * uu by grind) (Rat.le_of_lt hX)
        grind

/-- The root chopped to 23 digits and one up: a little greater, and its square is a number. -/
theorem chop (n : Nat) (h1 : 662 * 2 ^ 52 ≤ n) (h2 : n ≤ 1366 * 2 ^ 52) : rv n ≤ rv (n - n % 2 ^ 30 + 2 ^ 30) ∧ rv (n - n % 2 ^ 30 + 2 ^ 30) ≤ rv n * (1 + 1 / 4194304) ∧ Rep (rv (n - n % 2 ^ 30 + 2 ^ 30) * rv (n - n % 2 ^ 30 + 2 ^ 30)) := by
  obtain ⟨e, k, hm, hk, hek, _⟩ := sv_split n
  have he : 661 ≤ e ∧ e ≤ 1365 := by omega
  have hk2 : 2 ^ 52 ≤ k := by omega
  obtain ⟨c, hc⟩ : ∃ c, c = k / 2 ^ 30 + 1 := ⟨_, rfl⟩
  have hc23 : c ≤ 2 ^ 23 := by omega
  have hck : k ≤ c * 2 ^ 30 ∧ c * 2 ^ 30 ≤ k + 2 ^ 30 ∧ c * 2 ^ 30 ≤ 2 ^ 53 := by omega
  have hck2 : c * 1073741824 ≤ k + 1073741824 := hck.2.1
  have hn : n - n % 2 ^ 30 + 2 ^ 30 = e * 2 ^ 52 + c * 2 ^ 30 := by omega
  have r1 := rv_unit e k (by omega) hek
  have r2 := rv_unit e (c * 2 ^ 30) hck.2.2 (.inr (by omega))
  rw [← hm] at r1
  rw [hn]
  have hpos := pw_pos ((e : Int) - 1074)
  refine ⟨?_, ?_, ?_⟩
  · rw [rv_le_iff]; omega
  · rw [r1, r2]
    have h3a : (c : Rat) * 1073741824 ≤ (k : Rat) + 1073741824 := by exact_mod_cast hck2
    have h3 : ((c * 2 ^ 30 : Nat) : Rat) ≤ (k : Rat) + 1073741824 := by
      rw [Rat.natCast_mul, show ((2 ^ 30 : Nat) : Rat) = 1073741824 by simp]; exact h3a
    have h4 : (4503599627370496 : Rat) ≤ (k : Rat) := by exact_mod_cast (show 4503599627370496 ≤ k by omega)
    have h5 : ((c * 2 ^ 30 : Nat) : Rat) ≤ (k : Rat) * (1 + 1 / 4194304) := by grind
    have := Rat.mul_le_mul_of_nonneg_right h5 (Rat.le_of_lt hpos)
    grind
  · rw [r2]
    have h3 := rep_nat (c * c) (2 * (30 + ((e : Int) - 1074))) (by
      have := Nat.mul_le_mul hc23 hc23
      have e : (2 : Nat) ^ 23 * 2 ^ 23 ≤ 2 ^ 53 := by decide
      omega) (by omega) (by omega)
    have e1 : ((c * 2 ^ 30 : Nat) : Rat) * pw ((e : Int) - 1074) = (c : Rat) * pw (30 + ((e : Int) - 1074)) := by
      rw [Rat.natCast_mul, pw_add, ← pw_nat]
      rw [show ((30 : Nat) : Int) = 30 by rfl]; grind
    rw [e1]
    have e2 : (c : Rat) * pw (30 + ((e : Int) - 1074)) * ((c : Rat) * pw (30 + ((e : Int) - 1074))) = ((c * c : Nat) : Rat) * pw (2 * (30 + ((e : Int) - 1074))) := by
      rw [show 2 * (30 + ((e : Int) - 1074)) = (30 + ((e : Int) - 1074)) + (30 + ((e : Int) - 1074)) by omega, pw_add (30 + ((e : Int) - 1074)), Rat.natCast_mul]; grind
    rw [e2]; exact h3
end Go.Proofs.Ytffflefdmhdhnaa.Flo
