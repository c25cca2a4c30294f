/- The first guess at every positive number, normal or not. -/
import Derived.Test.YtjdibagfompohaaCb6
namespace Go.Proofs.Ytjdibagfompohaa.Flo
open Ieee

theorem t0_bd {n : Nat} (h1 : 663 * 2 ^ 52 ≤ n) (h2 : n ≤ 1365 * 2 ^ 52) : n < infR ∧ Bd (-360) 342 (rv n) := by
  refine ⟨by unfold infR; omega, ?_, ?_⟩
  · have h3 := rv_unit 662 (2 ^ 52) (by omega) (.inr (by omega))
    rw [show 662 * 2 ^ 52 + 2 ^ 52 = 663 * 2 ^ 52 by omega, ← pw_nat, ← pw_add, show ((52 : Nat) : Int) + (((662 : Nat) : Int) - 1074) = -360 by omega] at h3
    rw [← h3, rv_le_iff]; exact h1
  · have h3 := rv_unit 1364 (2 ^ 52) (by omega) (.inr (by omega))
    rw [show 1364 * 2 ^ 52 + 2 ^ 52 = 1365 * 2 ^ 52 by omega, ← pw_nat, ← pw_add, show ((52 : Nat) : Int) + (((1364 : Nat) : Int) - 1074) = 342 by omega] at h3
    rw [← h3, rv_le_iff]; exact h2

theorem guess_normal {x : Nat} (h1 : 2 ^ 52 ≤ x) (h2 : x < infR) : (x / 3 + 3071306043645493248) < infR ∧ Bd (-360) 342 (rv (x / 3 + 3071306043645493248)) ∧ 9 / 10 * rv x ≤ rv (x / 3 + 3071306043645493248) ^ 3 ∧ rv (x / 3 + 3071306043645493248) ^ 3 ≤ 11 / 10 * rv x := by
  unfold infR at h2
  obtain ⟨a, b⟩ := t0_bd (n := x / 3 + 3071306043645493248) (by omega) (by omega)
  have g := guess x 681 _ h1 (by omega) rfl
  have e : 681 * 2 ^ 52 + 4354697406185472 = 3071306043645493248 := by decide
  rw [e, show (3 : Int) * (((681 : Nat) : Int) - 681) = 0 by omega, pw_zero, Rat.mul_one] at g
  exact ⟨a, b, g.1, g.2⟩

theorem guess_sub {x : Nat} (h0 : 0 < x) (h1 : x < 2 ^ 52) : ∃ y, double.mul 4850376798678024192 x = some y ∧ y < 9223372036854775808 ∧ (y / 3 + 2990241250352824320) < infR ∧ Bd (-360) 342 (rv (y / 3 + 2990241250352824320)) ∧
    9 / 10 * rv x ≤ rv (y / 3 + 2990241250352824320) ^ 3 ∧ rv (y / 3 + 2990241250352824320) ^ 3 ≤ 11 / 10 * rv x := by
  obtain ⟨cn, cv⟩ := word_pos (n := 4850376798678024192) (by decide)
  obtain ⟨xn, xv⟩ := word_pos (n := x) (by unfold infR; omega)
  have c54 : rv 4850376798678024192 = pw 54 := by
    have h3 := rv_unit 1076 (2 ^ 52) (by omega) (.inr (by omega))
    rw [show 1076 * 2 ^ 52 + 2 ^ 52 = 4850376798678024192 by decide, ← pw_nat, ← pw_add] at h3
    rw [h3]; congr 1
  have rx : rv x = (x : Rat) * pw (-1074) := by
    have := rv_unit 0 x (by omega) (.inl rfl)
    simpa using this
  have hq : val 4850376798678024192 * val x = (x : Rat) * pw (-1020) := by
    rw [cv, xv, c54, rx]
    have : pw 54 * ((x : Rat) * pw (-1074)) = (x : Rat) * (pw 54 * pw (-1074)) := by grind
    rw [this, ← pw_add]; congr 2
  have hx1 : (1 : Rat) ≤ (x : Rat) := by exact_mod_cast h0
  have hx2 : (x : Rat) ≤ 4503599627370496 := by exact_mod_cast (show x ≤ 4503599627370496 by omega)
  have hbd : Bd (-1020) (-968) ((x : Rat) * pw (-1020)) := by
    have hp := pw_pos (-1020)
    refine ⟨?_, ?_⟩
    · have := Rat.mul_le_mul_of_nonneg_right hx1 (Rat.le_of_lt hp); grind
    · have := Rat.mul_le_mul_of_nonneg_right hx2 (Rat.le_of_lt hp)
      rw [← pw52, ← pw_add, show (52 : Int) + -1020 = -968 by omega] at this
      exact this
  obtain ⟨y, y1, y2, _⟩ := mul_spec cn xn
  rw [hq] at y2
  obtain ⟨yr, yb, _⟩ := y2.bd hbd (by omega) (by omega)
  have yv : val y = (x : Rat) * pw (-1020) := yr.exact (rep_nat x (-1020) (by omega) (by omega) (by omega))
  obtain ⟨yw, yv'⟩ := pos_word yr.fin yb.pos
  rw [yv'] at yv yb
  have yl : 3 * 2 ^ 52 ≤ y := by
    have h3 := rv_unit 2 (2 ^ 52) (by omega) (.inr (by omega))
    rw [show 2 * 2 ^ 52 + 2 ^ 52 = 3 * 2 ^ 52 by omega, ← pw_nat, ← pw_add, show ((52 : Nat) : Int) + (((2 : Nat) : Int) - 1074) = -1020 by omega] at h3
    rw [← rv_le_iff, h3]; exact yb.1
  have yh : y ≤ 55 * 2 ^ 52 := by
    have h3 := rv_unit 54 (2 ^ 52) (by omega) (.inr (by omega))
    rw [show 54 * 2 ^ 52 + 2 ^ 52 = 55 * 2 ^ 52 by omega, ← pw_nat, ← pw_add, show ((52 : Nat) : Int) + (((54 : Nat) : Int) - 1074) = -968 by omega] at h3
    rw [← rv_le_iff, h3]; exact yb.2
  refine ⟨y, y1, by omega, ?_⟩
  obtain ⟨a, b⟩ := t0_bd (n := y / 3 + 2990241250352824320) (by omega) (by omega)
  have g := guess y 663 _ (by omega) (by omega) rfl
  have e : 663 * 2 ^ 52 + 4354697406185472 = 2990241250352824320 := by decide
  have e2 : rv y * pw (3 * (((663 : Nat) : Int) - 681)) = rv x := by
    rw [yv, rx, Rat.mul_assoc, ← pw_add]; congr 2
  rw [e, e2] at g
  exact ⟨a, b, g.1, g.2⟩
end Go.Proofs.Ytjdibagfompohaa.Flo
