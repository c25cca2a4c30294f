/- Plain theory of the model's doubles: the value of a word as a rational number, and what rounding to nearest keeps. -/
import Derived.Laws.FloatArith
namespace Go.Proofs.Ytffflefdmhdhnaa.Flo
open Ieee

/-- Powers of two, by whole numbers. -/
def pw (n : Int) : Rat := (2 : Rat) ^ n

theorem pw_add (a b : Int) : pw (a + b) = pw a * pw b := by
  unfold pw; exact Rat.zpow_add (by decide) a b
theorem pw_pos (a : Int) : 0 < pw a := by unfold pw; exact Rat.zpow_pos (by decide)
theorem pw_zero : pw 0 = 1 := by unfold pw; exact Rat.zpow_zero 2
theorem pw_one : pw 1 = 2 := by unfold pw; exact Rat.zpow_one 2
theorem pw_nat (n : Nat) : pw (n : Int) = ((2 ^ n : Nat) : Rat) := by
  unfold pw; rw [Rat.zpow_natCast]; simp
theorem pw_succ (a : Int) : pw (a + 1) = 2 * pw a := by rw [pw_add, pw_one, Rat.mul_comm]
theorem pw_pred (a : Int) : pw a = 2 * pw (a - 1) := by
  have := pw_succ (a - 1); rwa [show a - 1 + 1 = a by omega] at this
theorem pw_cancel (a : Int) : pw a * pw (-a) = 1 := by
  rw [← pw_add, show a + -a = 0 by omega, pw_zero]
theorem nat_one_le_pow (k : Nat) : (1 : Rat) ≤ ((2 ^ k : Nat) : Rat) := by
  have : 1 ≤ 2 ^ k := Nat.one_le_two_pow
  exact_mod_cast this
theorem pw_mono {a b : Int} (h : a ≤ b) : pw a ≤ pw b := by
  obtain ⟨k, rfl⟩ : ∃ k : Nat, b = a + k := ⟨(b - a).toNat, by omega⟩
  rw [pw_add, pw_nat]
  have := Rat.mul_le_mul_of_nonneg_left (nat_one_le_pow k) (Rat.le_of_lt (pw_pos a))
  grind

/-- The distance from zero. -/
def ab (a : Rat) : Rat := if 0 ≤ a then a else -a

/-- What a rung stands for, in units of the least place. -/
def sv (n : Nat) : Nat := if n < 2 ^ 52 then n else (2 ^ 52 + n % 2 ^ 52) * 2 ^ (n / 2 ^ 52 - 1)

theorem sv_unit (e k : Nat) (h : k ≤ 2 ^ 53) (h4 : e = 0 ∨ 2 ^ 52 ≤ k) : sv (e * 2 ^ 52 + k) = k * 2 ^ e := by
  unfold sv
  by_cases hk : k < 2 ^ 52
  · obtain rfl : e = 0 := by omega
    simp [hk]
  · by_cases hk2 : k = 2 ^ 53
    · subst hk2
      rw [if_neg (by omega), show (e * 2 ^ 52 + 2 ^ 53) / 2 ^ 52 = e + 2 by omega, show (e * 2 ^ 52 + 2 ^ 53) % 2 ^ 52 = 0 by omega]
      rw [show e + 2 - 1 = e + 1 by omega, Nat.pow_succ]; omega
    · rw [if_neg (by omega), show (e * 2 ^ 52 + k) / 2 ^ 52 = e + 1 by omega, show (e * 2 ^ 52 + k) % 2 ^ 52 = k - 2 ^ 52 by omega]
      rw [show e + 1 - 1 = e by omega, show 2 ^ 52 + (k - 2 ^ 52) = k by omega]

/-- every rung in its own unit -/
theorem sv_split (m : Nat) : ∃ e k : Nat, m = e * 2 ^ 52 + k ∧ k < 2 ^ 53 ∧ (e = 0 ∨ 2 ^ 52 ≤ k) ∧ sv m = k * 2 ^ e := by
  by_cases h : m < 2 ^ 52
  · exact ⟨0, m, by omega, by omega, .inl rfl, by have := sv_unit 0 m (by omega) (.inl rfl); simpa using this⟩
  · have hm : m = (m / 2 ^ 52 - 1) * 2 ^ 52 + (2 ^ 52 + m % 2 ^ 52) := by omega
    have h2 : 2 ^ 52 + m % 2 ^ 52 < 2 ^ 53 := by omega
    refine ⟨m / 2 ^ 52 - 1, 2 ^ 52 + m % 2 ^ 52, hm, h2, .inr (by omega), ?_⟩
    have := sv_unit (m / 2 ^ 52 - 1) (2 ^ 52 + m % 2 ^ 52) (by omega) (.inr (by omega))
    rwa [← hm] at this

theorem sv_succ_lt (m : Nat) : sv m < sv (m + 1) := by
  obtain ⟨e, k, hm, hk, hek, hs⟩ := sv_split m
  have h1 := sv_unit e (k + 1) (by omega) (by omega)
  rw [show m + 1 = e * 2 ^ 52 + (k + 1) by omega, h1, hs]
  have : 0 < 2 ^ e := Nat.two_pow_pos e
  rw [Nat.add_mul]; omega

theorem sv_lt {a b : Nat} (h : a < b) : sv a < sv b := by
  induction b with
  | zero => omega
  | succ b ih =>
    have := sv_succ_lt b
    by_cases hb : a = b
    · subst hb; exact this
    · exact Nat.lt_trans (ih (by omega)) this
theorem sv_le {a b : Nat} (h : a ≤ b) : sv a ≤ sv b := by
  rcases Nat.lt_or_ge a b with h1 | h1
  · exact Nat.le_of_lt (sv_lt h1)
  · rw [show a = b by omega]; exact Nat.le_refl _
theorem sv_le_iff {a b : Nat} : sv a ≤ sv b ↔ a ≤ b :=
  ⟨fun h => by rcases Nat.lt_or_ge b a with h1 | h1; (have := sv_lt h1; omega); exact h1, sv_le⟩
theorem sv_lt_iff {a b : Nat} : sv a < sv b ↔ a < b := by
  have := @sv_le_iff b a; omega

/-- A rung's value. -/
def rv (n : Nat) : Rat := (sv n : Rat) * pw (-1074)

theorem rv_le_iff {a b : Nat} : rv a ≤ rv b ↔ a ≤ b := by
  rw [← sv_le_iff]; unfold rv
  constructor
  · intro h
    have := Rat.le_of_mul_le_mul_right h (pw_pos _)
    exact_mod_cast this
  · intro h
    exact Rat.mul_le_mul_of_nonneg_right (by exact_mod_cast h) (Rat.le_of_lt (pw_pos _))
theorem rv_lt_iff {a b : Nat} : rv a < rv b ↔ a < b := by
  have := @rv_le_iff b a
  constructor
  · intro h; rcases Nat.lt_or_ge a b with h1 | h1
    · exact h1
    · have := this.2 h1; grind
  · intro h; rcases Rat.le_total (a := rv b) (b := rv a) with h1 | h1
    · have := this.1 h1; omega
    · exact Rat.lt_of_le_of_ne h1 (fun he => by have := this.1 (by rw [he]; exact Rat.le_refl); omega)
theorem rv_zero : rv 0 = 0 := by unfold rv sv; simp
theorem rv_nonneg (n : Nat) : 0 ≤ rv n := by rw [← rv_zero, rv_le_iff]; omega

theorem rv_unit (e k : Nat) (h : k ≤ 2 ^ 53) (h4 : e = 0 ∨ 2 ^ 52 ≤ k) : rv (e * 2 ^ 52 + k) = (k : Rat) * pw ((e : Int) - 1074) := by
  unfold rv; rw [sv_unit e k h h4, show (e : Int) - 1074 = (e : Int) + -1074 by omega, pw_add, pw_nat]
  rw [Rat.natCast_mul, Rat.mul_assoc]

/-- Rounding to the nearest in one unit is rounding to the nearest of all rungs. -/
theorem round_core (e k : Nat) (q : Rat) (h1 : (2 * (k : Rat) - 1) * pw ((e : Int) - 1075) ≤ q) (h2 : q ≤ (2 * (k : Rat) + 1) * pw ((e : Int) - 1075)) (h3 : k ≤ 2 ^ 53)
    (h4 : e = 0 ∨ (2 ^ 52 ≤ k ∧ 4503599627370496 * pw ((e : Int) - 1074) ≤ q)) (m : Nat) : ab (rv (e * 2 ^ 52 + k) - q) ≤ ab (rv m - q) := by
  have hp := pw_pred ((e : Int) - 1074)
  rw [show (e : Int) - 1074 - 1 = (e : Int) - 1075 by omega] at hp
  have hpos := pw_pos ((e : Int) - 1075)
  rw [rv_unit e k h3 (by omega)]
  rw [hp] at h4 ⊢
  obtain ⟨e', k', hm, hk', hek', hs⟩ := sv_split m
  have hv := rv_unit e' k' (by omega) hek'
  rw [← hm] at hv
  generalize pw ((e : Int) - 1075) = u at *
  by_cases hee : e ≤ e'
  · -- a multiple of the unit
    obtain ⟨d, rfl⟩ : ∃ d : Nat, e' = e + d := ⟨e' - e, by omega⟩
    have hg : rv m = ((k' * 2 ^ d : Nat) : Rat) * (2 * u) := by
      rw [hv, show ((e + d : Nat) : Int) - 1074 = (d : Int) + ((e : Int) - 1074) by omega, pw_add, hp, pw_nat, Rat.natCast_mul]
      rw [Rat.mul_assoc]
    rw [hg]
    generalize k' * 2 ^ d = g
    rcases Nat.lt_trichotomy g k with h | h | h
    · have h' : (g : Rat) + 1 ≤ (k : Rat) := by exact_mod_cast h
      have h'' := Rat.mul_le_mul_of_nonneg_right h' (Rat.le_of_lt hpos)
      unfold ab; grind
    · subst h; grind
    · have h' : (k : Rat) + 1 ≤ (g : Rat) := by exact_mod_cast h
      have h'' := Rat.mul_le_mul_of_nonneg_right h' (Rat.le_of_lt hpos)
      unfold ab; grind
  · -- below the unit's first full digit
    have h5 : 2 ^ 52 ≤ k ∧ 4503599627370496 * (2 * u) ≤ q := by rcases h4 with h | h; omega; exact h
    have h6 : rv m ≤ 4503599627370496 * (2 * u) := by
      have : rv m ≤ rv (e * 2 ^ 52 + 2 ^ 52) := by
        rw [rv_le_iff]
        have : e' * 2 ^ 52 + 2 ^ 52 ≤ e * 2 ^ 52 := by
          have : e' + 1 ≤ e := by omega
          have := Nat.mul_le_mul_right (2 ^ 52) this
          omega
        omega
      rw [rv_unit e (2 ^ 52) (by omega) (by omega), hp] at this
      have h2 : ((2 ^ 52 : Nat) : Rat) = 4503599627370496 := by simp
      rw [h2] at this; exact this
    have h7 : (4503599627370496 : Rat) ≤ (k : Rat) := by
      have := h5.1
      have h8 : (4503599627370496 : Nat) ≤ k := by omega
      exact_mod_cast h8
    have h8 := Rat.mul_le_mul_of_nonneg_right h7 (Rat.le_of_lt hpos)
    by_cases hq : q ≤ (2 * (k : Rat)) * u
    · by_cases hk : k = 2 ^ 52
      · have hk' : (k : Rat) = 4503599627370496 := by rw [hk]; simp
        rw [hk'] at h1 h2 hq ⊢
        have h52 := h5.2
        clear hm hs hv hp h3 h4 hek' hk h8 h7 hee h5 hk'
        unfold ab; grind
      · have h9 : (4503599627370497 : Rat) ≤ (k : Rat) := by
          have h8 : (4503599627370497 : Nat) ≤ k := by have := h5.1; omega
          exact_mod_cast h8
        have h10 := Rat.mul_le_mul_of_nonneg_right h9 (Rat.le_of_lt hpos)
        unfold ab; grind
    · unfold ab; grind

theorem cut_even (neg : Bool) (n drop : Nat) : 2 * Toward.even.cut neg n drop * 2 ^ drop ≤ 2 * n + 2 ^ drop ∧ 2 * n ≤ 2 * Toward.even.cut neg n drop * 2 ^ drop + 2 ^ drop := by
  unfold Toward.cut
  simp only [Nat.one_shiftLeft]
  by_cases hd : drop ≤ n.log2 + 2
  · rw [Nat.min_eq_left hd]
    have hg : 0 < 2 ^ drop := Nat.two_pow_pos drop
    have hdm := Nat.div_add_mod n (2 ^ drop)
    have hml := Nat.mod_lt n hg
    generalize 2 ^ drop = gap at *
    generalize n / gap = low at *
    generalize n % gap = rest at *
    have e1 : 2 * low * gap = 2 * (gap * low) := by rw [Nat.mul_assoc, Nat.mul_comm low gap]
    have e2 : 2 * (low + 1) * gap = 2 * (gap * low) + 2 * gap := by rw [Nat.mul_assoc, Nat.add_mul, Nat.mul_comm low gap]; omega
    by_cases hc : gap < 2 * rest
    · simp only [hc, decide_true, Bool.true_or, Bool.toNat_true]; omega
    · by_cases hc2 : gap = 2 * rest
      · by_cases hl : low % 2 = 1
        · simp only [show (decide (gap < 2 * rest) || gap == 2 * rest && low % 2 == 1) = true by simp [hc2, hl], Bool.toNat_true]; omega
        · simp only [show (decide (gap < 2 * rest) || gap == 2 * rest && low % 2 == 1) = false by simp [hc2, hl], Bool.toNat_false, Nat.add_zero]; omega
      · simp only [show (decide (gap < 2 * rest) || gap == 2 * rest && low % 2 == 1) = false by simp [hc, hc2], Bool.toNat_false, Nat.add_zero]; omega
  · rw [Nat.min_eq_right (by omega)]
    have hlt : n < 2 ^ (n.log2 + 1) := Nat.lt_log2_self
    have h2 : 2 ^ (n.log2 + 2) = 2 * 2 ^ (n.log2 + 1) := by rw [Nat.pow_succ 2 (n.log2 + 1)]; omega
    have h3 : 2 ^ (n.log2 + 2) ≤ 2 ^ drop := Nat.pow_le_pow_right (by omega) (by omega)
    rw [Nat.div_eq_of_lt (by omega), Nat.mod_eq_of_lt (by omega)]
    simp only [show (decide (2 ^ (n.log2 + 2) < 2 * n) || 2 ^ (n.log2 + 2) == 2 * n && 0 % 2 == 1) = false by simp; omega, Bool.toNat_false, Nat.add_zero, Nat.mul_zero, Nat.zero_mul]
    omega

def infR : Nat := 9218868437227405312
theorem double_infRung : Ieee.double.infRung = infR := by decide
theorem double_binade : Ieee.double.binade = 2 ^ 52 := by decide
theorem double_least : Ieee.double.leastPlace = -1074 := by decide
theorem double_frac : Ieee.double.fractionBits = 52 := rfl
theorem double_sign : Ieee.double.signWeight = 2 ^ 63 := by decide

/-- What 'nearest' does, in rationals. -/
theorem nearest_parts (neg : Bool) (mag : Nat) (place : Int) (h0 : mag ≠ 0) : ∃ e k : Nat,
    double.nearest neg mag place = double.word neg (min (e * 2 ^ 52 + k) infR) ∧
    (2 * (k : Rat) - 1) * pw ((e : Int) - 1075) ≤ (mag : Rat) * pw place ∧ (mag : Rat) * pw place ≤ (2 * (k : Rat) + 1) * pw ((e : Int) - 1075) ∧
    (mag : Rat) * pw place < 9007199254740992 * pw ((e : Int) - 1074) ∧ (e = 0 ∨ 4503599627370496 * pw ((e : Int) - 1074) ≤ (mag : Rat) * pw place) ∧
    (e : Int) - 1074 = max (place + mag.log2 - 52) (-1074) := by
  have hlt : mag < 2 ^ (mag.log2 + 1) := Nat.lt_log2_self
  have hle : 2 ^ mag.log2 ≤ mag := Nat.log2_self_le h0
  unfold Format.nearest
  rw [if_neg h0]
  simp only [double_infRung, double_binade, double_least, double_frac]
  generalize hl : max (place + (mag.log2 : Int) - ((52 : Nat) : Int)) (-1074) = last
  obtain ⟨e, he⟩ : ∃ e : Nat, last = (e : Int) - 1074 := ⟨(last + 1074).toNat, by omega⟩
  refine ⟨e, Toward.even.cut neg (mag <<< (place - last).toNat) (last - place).toNat, ?_, ?_⟩
  · rw [show (last - -1074).toNat = e by omega]
  · have hc := cut_even neg (mag <<< (place - last).toNat) (last - place).toNat
    rw [Nat.shiftLeft_eq] at hc
    rw [Nat.shiftLeft_eq]
    generalize Toward.even.cut neg (mag * 2 ^ (place - last).toNat) (last - place).toNat = k at *
    have hp := pw_pred last
    have hpos := pw_pos (last - 1)
    have hlast : last - 1 = (e : Int) - 1075 := by omega
    rw [← hlast, ← he]
    -- the two shifts, in rationals
    have hA : (mag : Rat) * pw place * ((2 ^ (last - place).toNat : Nat) : Rat) = ((mag * 2 ^ (place - last).toNat : Nat) : Rat) * pw last := by
      rw [Rat.natCast_mul, Rat.mul_assoc, Rat.mul_assoc, ← pw_nat, ← pw_nat, ← pw_add, ← pw_add]
      congr 2; omega
    have hpd : 0 < ((2 ^ (last - place).toNat : Nat) : Rat) := by
      have := nat_one_le_pow (last - place).toNat; grind
    have hc1 : 2 * (k : Rat) * ((2 ^ (last - place).toNat : Nat) : Rat) ≤ 2 * ((mag * 2 ^ (place - last).toNat : Nat) : Rat) + ((2 ^ (last - place).toNat : Nat) : Rat) := by exact_mod_cast hc.1
    have hc2 : 2 * ((mag * 2 ^ (place - last).toNat : Nat) : Rat) ≤ 2 * (k : Rat) * ((2 ^ (last - place).toNat : Nat) : Rat) + ((2 ^ (last - place).toNat : Nat) : Rat) := by exact_mod_cast hc.2
    refine ⟨?_, ?_, ?_, ?_, ?_⟩
    · refine Rat.le_of_mul_le_mul_right ?_ hpd
      rw [hA, hp]
      have := Rat.mul_le_mul_of_nonneg_right hc1 (Rat.le_of_lt hpos)
      grind
    · refine Rat.le_of_mul_le_mul_right ?_ hpd
      rw [hA, hp]
      have := Rat.mul_le_mul_of_nonneg_right hc2 (Rat.le_of_lt hpos)
      grind
    · have h1 : (mag : Rat) < pw ((mag.log2 + 1 : Nat) : Int) := by rw [pw_nat]; exact_mod_cast hlt
      have h2 := Rat.mul_lt_mul_of_pos_right h1 (pw_pos place)
      rw [← pw_add] at h2
      have h3 : pw (((mag.log2 + 1 : Nat) : Int) + place) ≤ pw ((53 : Nat) + last) := pw_mono (by omega)
      rw [pw_add ((53 : Nat) : Int), pw_nat] at h3
      have h4 : ((2 ^ 53 : Nat) : Rat) = 9007199254740992 := by simp
      rw [h4] at h3; grind
    · by_cases hz : e = 0
      · exact .inl hz
      · right
        have h1 : pw ((mag.log2 : Nat) : Int) ≤ (mag : Rat) := by rw [pw_nat]; exact_mod_cast hle
        have h2 := Rat.mul_le_mul_of_nonneg_right h1 (Rat.le_of_lt (pw_pos place))
        rw [← pw_add, show ((mag.log2 : Nat) : Int) + place = (52 : Nat) + last by omega, pw_add, pw_nat] at h2
        have h4 : ((2 ^ 52 : Nat) : Rat) = 4503599627370496 := by simp
        rwa [h4] at h2
    · omega

/-- 'n' is the rung of the nearest to 'q' (infinity's rung stands for all that is too great). -/
def RR (q : Rat) (n : Nat) : Prop := ∃ n', n = min n' infR ∧ (∀ m, ab (rv n' - q) ≤ ab (rv m - q)) ∧ (pw (-1022) ≤ q → ab (rv n' - q) ≤ q * pw (-53))

/-- 'A' and 'q' lie alike to all multiples of the unit 'u'. -/
def Sticky (A q u : Rat) : Prop := ∀ g : Int, ((g : Rat) * u ≤ A → (g : Rat) * u ≤ q) ∧ (A ≤ (g : Rat) * u → q ≤ (g : Rat) * u) ∧ (A < (g : Rat) * u → q < (g : Rat) * u)

theorem Sticky.refl (A u : Rat) : Sticky A A u := fun _ => ⟨id, id, id⟩

theorem nearest_spec (neg : Bool) (mag : Nat) (place : Int) (q : Rat) (h0 : mag ≠ 0) (H : Sticky ((mag : Rat) * pw place) q (pw (max (place + mag.log2 - 52) (-1074) - 1))) :
    ∃ n, double.nearest neg mag place = double.word neg n ∧ RR q n := by
  obtain ⟨e, k, h1, h2, h3, h4, h5, h6⟩ := nearest_parts neg mag place h0
  rw [← h6, show (e : Int) - 1074 - 1 = (e : Int) - 1075 by omega] at H
  have hp := pw_pred ((e : Int) - 1074)
  rw [show (e : Int) - 1074 - 1 = (e : Int) - 1075 by omega] at hp
  have hpos := pw_pos ((e : Int) - 1075)
  have g1 : (2 * (k : Rat) - 1) * pw ((e : Int) - 1075) ≤ q := by
    have := (H (2 * (k : Int) - 1)).1
    simp only [Rat.intCast_sub, Rat.intCast_mul, Rat.intCast_natCast, Rat.intCast_ofNat] at this
    exact this h2
  have g2 : q ≤ (2 * (k : Rat) + 1) * pw ((e : Int) - 1075) := by
    have := (H (2 * (k : Int) + 1)).2.1
    simp only [Rat.intCast_add, Rat.intCast_mul, Rat.intCast_natCast, Rat.intCast_ofNat] at this
    exact this h3
  have g3 : q < 9007199254740992 * pw ((e : Int) - 1074) := by
    have := (H 18014398509481984).2.2
    simp only [Rat.intCast_ofNat] at this
    rw [hp] at h4 ⊢
    have := this (by grind)
    grind
  have g4 : e = 0 ∨ 4503599627370496 * pw ((e : Int) - 1074) ≤ q := by
    rcases h5 with h | h
    · exact .inl h
    · right
      have := (H 9007199254740992).1
      simp only [Rat.intCast_ofNat] at this
      rw [hp] at h ⊢
      have := this (by grind)
      grind
  have hk : k ≤ 2 ^ 53 := by
    have h7 : (2 * (k : Rat) - 1) * pw ((e : Int) - 1075) < 18014398509481984 * pw ((e : Int) - 1075) := by grind
    have h8 := Rat.lt_of_mul_lt_mul_right h7 (Rat.le_of_lt hpos)
    have h9 : 2 * (k : Rat) < 18014398509481985 := by grind
    have h10 : 2 * k < 18014398509481985 := by exact_mod_cast h9
    omega
  have hk2 : e = 0 ∨ (2 ^ 52 ≤ k ∧ 4503599627370496 * pw ((e : Int) - 1074) ≤ q) := by
    rcases g4 with h | h
    · exact .inl h
    · refine .inr ⟨?_, h⟩
      have h7 : 9007199254740992 * pw ((e : Int) - 1075) ≤ (2 * (k : Rat) + 1) * pw ((e : Int) - 1075) := by grind
      have h8 := Rat.le_of_mul_le_mul_right h7 hpos
      have h10 : 9007199254740992 ≤ 2 * k + 1 := by exact_mod_cast h8
      omega
  refine ⟨_, h1, _, rfl, fun m => round_core e k q g1 g2 hk hk2 m, fun hq => ?_⟩
  have hu : pw ((e : Int) - 1075) ≤ q * pw (-53) := by
    rcases hk2 with h | h
    · subst h
      have := Rat.mul_le_mul_of_nonneg_right hq (Rat.le_of_lt (pw_pos (-53)))
      rw [← pw_add] at this
      exact this
    · have h7 := Rat.mul_le_mul_of_nonneg_right h.2 (Rat.le_of_lt (pw_pos (-53)))
      have h8 : 4503599627370496 * pw ((e : Int) - 1074) * pw (-53) = pw ((e : Int) - 1075) := by
        have h4 : ((2 ^ 52 : Nat) : Rat) = 4503599627370496 := by simp
        rw [← h4, ← pw_nat, ← pw_add, ← pw_add]; congr 1; omega
      rw [h8] at h7; exact h7
  rw [rv_unit e k hk (by omega), hp]
  unfold ab; grind
/-- A word that stands for a number. -/
def Num (x : Nat) : Prop := x < 18446744073709551616 ∧ x % 9223372036854775808 < infR
/-- its value -/
def val (x : Nat) : Rat := if x / 9223372036854775808 % 2 = 1 then -rv (x % 9223372036854775808) else rv (x % 9223372036854775808)
def sgn (x : Nat) : Bool := x / 9223372036854775808 % 2 == 1
/-- 'mag * 2 ^ place' with its sign -/
def dv (s : Bool) (m : Nat) (i : Int) : Rat := if s then -((m : Rat) * pw i) else (m : Rat) * pw i

theorem val_eq (x : Nat) : val x = if sgn x then -rv (x % 9223372036854775808) else rv (x % 9223372036854775808) := by
  unfold val sgn; simp

theorem read_fin {x : Nat} (h : Num x) : ∃ m i, double.read x = .number (sgn x) m i ∧ (m : Rat) * pw i = rv (x % 9223372036854775808) ∧ -1074 ≤ i ∧ (m = 0 ↔ x % 9223372036854775808 = 0) ∧ m < 9007199254740992 := by
  unfold Format.read
  simp only [double_sign, double_binade, double_infRung, double_least]
  rw [show (2 ^ 63 : Nat) = 9223372036854775808 by decide, show (2 ^ 52 : Nat) = 4503599627370496 by decide]
  obtain ⟨h1, h2⟩ := h
  generalize hr : x % 9223372036854775808 = r at *
  have hs : (x / 9223372036854775808 % 2 == 1) = sgn x := rfl
  rw [hs]
  by_cases hb : r < 4503599627370496
  · rw [if_pos hb]
    refine ⟨r, -1074, rfl, ?_, by omega, Iff.rfl, by omega⟩
    unfold rv sv; rw [if_pos (by omega)]
  · rw [if_neg hb, if_pos h2]
    refine ⟨_, _, rfl, ?_, by omega, by omega, by omega⟩
    unfold rv sv; rw [if_neg (by omega)]
    rw [show (2 ^ 52 : Nat) = 4503599627370496 by decide, pw_add, pw_nat, Rat.natCast_mul]; generalize pw (-1074) = u; grind

theorem dv_val {x m : Nat} {i : Int} (h : (m : Rat) * pw i = rv (x % 9223372036854775808)) : dv (sgn x) m i = val x := by
  unfold dv; rw [val_eq, h]

theorem word_rung (s : Bool) (n : Nat) (h : n ≤ infR) : double.word s n < 18446744073709551616 ∧ double.word s n % 9223372036854775808 = n ∧ sgn (double.word s n) = s := by
  unfold Format.word sgn; rw [double_sign]; unfold infR at h
  cases s
  · simp only [Bool.false_eq_true, if_false]
    exact ⟨by omega, by omega, by simp; omega⟩
  · simp only [if_true]
    exact ⟨by omega, by omega, by simp; omega⟩

/-- 'r' is 'q' rounded to the nearest word. -/
structure Res (q : Rat) (r : Nat) : Prop where
  small : r < 18446744073709551616
  rung : RR (ab q) (r % 9223372036854775808)
  pos : 0 < q → sgn r = false
  neg : q < 0 → sgn r = true

theorem RR.le {q : Rat} {n : Nat} (h : RR q n) : n ≤ infR := by obtain ⟨_, rfl, _⟩ := h; exact Nat.min_le_right _ _

theorem RR_zero : RR 0 0 := ⟨0, by decide, fun m => by rw [rv_zero]; unfold ab; grind, fun h => by have := pw_pos (-1022); grind⟩

theorem ab_nonneg (a : Rat) : 0 ≤ ab a := by unfold ab; grind
theorem ab_dv (s : Bool) (m : Nat) (i : Int) : ab (dv s m i) = (m : Rat) * pw i := by
  have h1 : (0 : Rat) ≤ (m : Rat) := by exact_mod_cast Nat.zero_le m
  have := Rat.mul_nonneg h1 (Rat.le_of_lt (pw_pos i))
  unfold ab dv; cases s <;> grind

/-- An exact result written. -/
theorem write_spec (s : Bool) (m : Nat) (i : Int) (q : Rat) (hz : m = 0 → q = 0) (hs : Sticky ((m : Rat) * pw i) (ab q) (pw (max (i + m.log2 - 52) (-1074) - 1)) ∨ m = 0)
    (hp : 0 < q → s = false) (hn : q < 0 → s = true) : Res q (double.write (.number s m i)) ∧ sgn (double.write (.number s m i)) = s ∧ (m = 0 → double.write (.number s m i) = if s then 9223372036854775808 else 0) := by
  show Res q (double.nearest s m i) ∧ sgn (double.nearest s m i) = s ∧ (m = 0 → double.nearest s m i = _)
  by_cases h0 : m = 0
  · have hq := hz h0
    have : double.nearest s m i = double.word s 0 := by unfold Format.nearest; rw [if_pos h0]
    rw [this]
    obtain ⟨w1, w2, w3⟩ := word_rung s 0 (by unfold infR; omega)
    refine ⟨⟨w1, ?_, fun h => by grind, fun h => by grind⟩, w3, fun _ => ?_⟩
    · rw [w2, hq]; exact RR_zero
    · unfold Format.word; rw [double_sign]
  · obtain ⟨n, h1, h2⟩ := nearest_spec s m i (ab q) h0 (hs.resolve_right h0)
    rw [h1]
    obtain ⟨w1, w2, w3⟩ := word_rung s n h2.le
    exact ⟨⟨w1, by rw [w2]; exact h2, fun h => by rw [w3]; exact hp h, fun h => by rw [w3]; exact hn h⟩, w3, fun h => absurd h h0⟩

theorem signed_rat (s : Bool) (m up : Nat) (i : Int) : ((Ieee.signed s m up : Int) : Rat) * pw i = dv s m (i + up) := by
  unfold Ieee.signed dv
  rw [Nat.shiftLeft_eq, pw_add, pw_nat]
  cases s
  · simp only [Bool.false_eq_true, if_false]
    rw [Rat.intCast_natCast, Rat.natCast_mul]; grind
  · simp only [if_true]
    rw [Rat.intCast_neg, Rat.intCast_natCast, Rat.natCast_mul]; grind

theorem natAbs_rat (t : Int) : ((t.natAbs : Nat) : Rat) = ab (t : Rat) := by
  unfold ab
  split
  · rename_i h
    have h' : 0 ≤ t := by exact_mod_cast h
    have : (t.natAbs : Int) = t := by omega
    rw [← Rat.intCast_natCast, this]
  · rename_i h
    have h' : ¬ 0 ≤ t := fun c => h (by exact_mod_cast c)
    have : (t.natAbs : Int) = -t := by omega
    rw [← Rat.intCast_natCast, this, Rat.intCast_neg]

theorem ab_mul_pos (a p : Rat) (h : 0 < p) : ab (a * p) = ab a * p := by
  unfold ab
  by_cases h0 : 0 ≤ a
  · have := Rat.mul_nonneg h0 (Rat.le_of_lt h); grind
  · have := Rat.mul_pos (show 0 < -a by grind) h; grind

theorem sum_spec (s t : Bool) (m n : Nat) (i j : Int) : ∃ r, ((Datum.number s m i).sum (Datum.number t n j)).map double.write = some r ∧ Res (dv s m i + dv t n j) r ∧
    (dv s m i + dv t n j = 0 → r = if s && t then 9223372036854775808 else 0) := by
  simp only [Datum.sum, Option.map_some]
  generalize hb : min i j = base
  have e1 := signed_rat s m (i - base).toNat base
  have e2 := signed_rat t n (j - base).toNat base
  rw [show base + ((i - base).toNat : Int) = i by omega] at e1
  rw [show base + ((j - base).toNat : Int) = j by omega] at e2
  generalize hT : Ieee.signed s m (i - base).toNat + Ieee.signed t n (j - base).toNat = T
  have e3 : (T : Rat) * pw base = dv s m i + dv t n j := by rw [← e1, ← e2, ← hT, Rat.intCast_add]; grind
  have hpos := pw_pos base
  have hz : T = 0 ↔ dv s m i + dv t n j = 0 := by
    rw [← e3, Rat.mul_eq_zero]
    constructor
    · intro h; left; rw [h]; rfl
    · rintro (h | h)
      · exact_mod_cast h
      · grind
  have hg : T < 0 ↔ dv s m i + dv t n j < 0 := by
    rw [← e3, Rat.mul_neg_iff_of_pos_right hpos]
    constructor
    · intro h; exact_mod_cast h
    · intro h; exact_mod_cast h
  obtain ⟨r1, r2, r3⟩ := write_spec (if T = 0 then s && t else decide (T < 0)) T.natAbs base (dv s m i + dv t n j) (fun h => hz.1 (by omega))
    (.inl (by
      have : (T.natAbs : Rat) * pw base = ab (dv s m i + dv t n j) := by rw [natAbs_rat, ← e3, ab_mul_pos _ _ hpos]
      rw [this]; exact Sticky.refl _ _))
    (fun h => by
      have h1 : ¬ T = 0 := fun c => by have := hz.1 c; grind
      have h2 : ¬ T < 0 := fun c => by have := hg.1 c; grind
      rw [if_neg h1]; simp [h2])
    (fun h => by
      have h1 : ¬ T = 0 := fun c => by have := hz.1 c; grind
      have h2 : T < 0 := hg.2 h
      rw [if_neg h1]; simp [h2])
  refine ⟨_, rfl, r1, fun h => ?_⟩
  have hT0 := hz.2 h
  rw [r3 (by omega), if_pos hT0]

theorem sgn_le_one (x : Nat) (_ : x < 18446744073709551616) : sgn x = true ∨ sgn x = false := by cases sgn x <;> simp

theorem add_spec {x y : Nat} (hx : Num x) (hy : Num y) : ∃ r, double.add x y = some r ∧ Res (val x + val y) r ∧ (val x + val y = 0 → r = if sgn x && sgn y then 9223372036854775808 else 0) := by
  obtain ⟨m, i, h1, h2, _⟩ := read_fin hx
  obtain ⟨n, j, h3, h4, _⟩ := read_fin hy
  unfold Format.add; rw [h1, h3]
  have := sum_spec (sgn x) (sgn y) m n i j
  rw [dv_val h2, dv_val h4] at this
  exact this

theorem dv_not (s : Bool) (m : Nat) (i : Int) : dv (!s) m i = - dv s m i := by unfold dv; cases s <;> simp

theorem sub_spec {x y : Nat} (hx : Num x) (hy : Num y) : ∃ r, double.sub x y = some r ∧ Res (val x - val y) r ∧ (val x - val y = 0 → r = if sgn x && !sgn y then 9223372036854775808 else 0) := by
  obtain ⟨m, i, h1, h2, _⟩ := read_fin hx
  obtain ⟨n, j, h3, h4, _⟩ := read_fin hy
  unfold Format.sub; rw [h1, h3]
  have := sum_spec (sgn x) (!sgn y) m n i j
  rw [dv_val h2, dv_not, dv_val h4, show val x + -val y = val x - val y by grind] at this
  exact this

theorem val_sign {x : Nat} : (0 < val x → sgn x = false) ∧ (val x < 0 → sgn x = true) := by
  have := rv_nonneg (x % 9223372036854775808)
  rw [val_eq]
  cases sgn x <;> constructor <;> intro h <;> first | rfl | (simp at h; grind)

theorem mul_sign {x y : Nat} : (0 < val x * val y → (sgn x ^^ sgn y) = false) ∧ (val x * val y < 0 → (sgn x ^^ sgn y) = true) := by
  have h1 := rv_nonneg (x % 9223372036854775808)
  have h2 := rv_nonneg (y % 9223372036854775808)
  have h3 := Rat.mul_nonneg h1 h2
  rw [val_eq, val_eq]
  cases sgn x <;> cases sgn y <;> constructor <;> intro h <;> first | rfl | (simp at h; grind)

theorem ab_mul (a b : Rat) : ab (a * b) = ab a * ab b := by
  unfold ab
  by_cases h1 : 0 ≤ a <;> by_cases h2 : 0 ≤ b
  · have := Rat.mul_nonneg h1 h2; grind
  · rcases Rat.le_iff_lt_or_eq.1 h1 with h | h
    · have := Rat.mul_pos h (show 0 < -b by grind); grind
    · subst h; grind
  · rcases Rat.le_iff_lt_or_eq.1 h2 with h | h
    · have := Rat.mul_pos (show 0 < -a by grind) h; grind
    · subst h; grind
  · have := Rat.mul_pos (show 0 < -a by grind) (show 0 < -b by grind); grind

theorem ab_val (x : Nat) : ab (val x) = rv (x % 9223372036854775808) := by
  have h1 := rv_nonneg (x % 9223372036854775808)
  rw [val_eq]; unfold ab; cases sgn x <;> grind

theorem mul_spec {x y : Nat} (hx : Num x) (hy : Num y) : ∃ r, double.mul x y = some r ∧ Res (val x * val y) r ∧ sgn r = (sgn x ^^ sgn y) := by
  obtain ⟨m, i, h1, h2, _⟩ := read_fin hx
  obtain ⟨n, j, h3, h4, _⟩ := read_fin hy
  unfold Format.mul; rw [h1, h3]
  simp only [Datum.product, Option.map_some]
  have e1 : ((m * n : Nat) : Rat) * pw (i + j) = ab (val x * val y) := by
    rw [ab_mul, ab_val, ab_val, ← h2, ← h4, pw_add, Rat.natCast_mul]; grind
  obtain ⟨r1, r2, r3⟩ := write_spec (sgn x ^^ sgn y) (m * n) (i + j) (val x * val y)
    (fun h => by
      rw [h] at e1
      have : ab (val x * val y) = 0 := by rw [← e1]; simp
      unfold ab at this; grind)
    (.inl (by rw [e1]; exact Sticky.refl _ _)) mul_sign.1 mul_sign.2
  exact ⟨_, rfl, r1, r2⟩
theorem Sticky.coarse {A q u : Rat} (h : Sticky A q u) (d : Nat) : Sticky A q (((2 ^ d : Nat) : Rat) * u) := by
  intro g
  have := h (g * (2 ^ d : Nat))
  rw [Rat.intCast_mul, Rat.intCast_natCast, Rat.mul_assoc] at this
  exact this

/-- A quotient with one digit more for what is left over lies to all whole numbers as the quotient itself. -/
theorem sticky_quotient (a n : Nat) (hn : 0 < n) (u : Rat) (hu : 0 < u) :
    Sticky (((2 * (a / n) + (a % n != 0).toNat : Nat) : Rat) * (u * (1 / 2))) (((a : Rat) / (n : Rat)) * u) u := by
  have hdm := Nat.div_add_mod a n
  have hml := Nat.mod_lt a hn
  have hn' : (0 : Rat) < (n : Rat) := by exact_mod_cast hn
  have hne : (n : Rat) ≠ 0 := by grind
  -- D ≤ X < D + 1
  have hX1 : ((a / n : Nat) : Rat) ≤ (a : Rat) / (n : Rat) := by
    refine Rat.le_of_mul_le_mul_right ?_ hn'
    rw [Rat.div_mul_cancel hne]
    have h1 : (a / n) * n ≤ a := Nat.div_mul_le_self a n
    exact_mod_cast h1
  have hX2 : (a : Rat) / (n : Rat) < ((a / n : Nat) : Rat) + 1 := by
    refine Rat.lt_of_mul_lt_mul_right ?_ (Rat.le_of_lt hn')
    rw [Rat.div_mul_cancel hne]
    have h1 : a < (a / n + 1) * n := by rw [Nat.add_mul, Nat.mul_comm (a / n) n]; omega
    exact_mod_cast h1
  intro g
  by_cases hr : a % n = 0
  · have hX3 : (a : Rat) / (n : Rat) = ((a / n : Nat) : Rat) := by
      refine Rat.le_antisymm ?_ hX1
      refine Rat.le_of_mul_le_mul_right ?_ hn'
      rw [Rat.div_mul_cancel hne]
      have h1 : a ≤ (a / n) * n := by rw [Nat.mul_comm (a / n) n]; omega
      exact_mod_cast h1
    rw [hX3]
    simp only [hr, bne_self_eq_false, Bool.toNat_false, Nat.add_zero]
    rw [Rat.natCast_mul]
    generalize ((a / n : Nat) : Rat) = D
    refine ⟨fun h => ?_, fun h => ?_, fun h => ?_⟩ <;> grind
  · have hb : (a % n != 0).toNat = 1 := by simp [hr]
    rw [hb, Rat.natCast_add, Rat.natCast_mul]
    generalize hD : a / n = D at *
    generalize (a : Rat) / (n : Rat) = X at *
    refine ⟨fun h => ?_, fun h => ?_, fun h => ?_⟩
    · have h1 : (g : Rat) * u ≤ ((D : Rat) + 1 / 2) * u := by grind
      have h2 := Rat.le_of_mul_le_mul_right h1 hu
      have h3 : g ≤ D := by
        have h4 : 2 * (g : Rat) ≤ 2 * ((D : Int) : Rat) + 1 := by rw [Rat.intCast_natCast]; grind
        have h5 : 2 * g ≤ 2 * (D : Int) + 1 := by exact_mod_cast h4
        omega
      have h4 : (g : Rat) ≤ ((D : Int) : Rat) := by exact_mod_cast h3
      rw [Rat.intCast_natCast] at h4
      exact Rat.mul_le_mul_of_nonneg_right (by grind) (Rat.le_of_lt hu)
    · have h1 : ((D : Rat) + 1 / 2) * u ≤ (g : Rat) * u := by grind
      have h2 := Rat.le_of_mul_le_mul_right h1 hu
      have h3 : (D : Int) + 1 ≤ g := by
        have h4 : 2 * ((D : Int) : Rat) + 1 ≤ 2 * (g : Rat) := by rw [Rat.intCast_natCast]; grind
        have h5 : 2 * (D : Int) + 1 ≤ 2 * g := by exact_mod_cast h4
        omega
      have h4 : ((D : Int) : Rat) + 1 ≤ (g : Rat) := by exact_mod_cast h3
      rw [Rat.intCast_natCast] at h4
      exact Rat.mul_le_mul_of_nonneg_right (by grind) (Rat.le_of_lt hu)
    · have h1 : ((D : Rat) + 1 / 2) * u < (g : Rat) * u := by grind
      have h2 := Rat.lt_of_mul_lt_mul_right h1 (Rat.le_of_lt hu)
      have h3 : (D : Int) + 1 ≤ g := by
        have h4 : 2 * ((D : Int) : Rat) + 1 ≤ 2 * (g : Rat) := by rw [Rat.intCast_natCast]; grind
        have h5 : 2 * (D : Int) + 1 ≤ 2 * g := by exact_mod_cast h4
        omega
      have h4 : ((D : Int) : Rat) + 1 ≤ (g : Rat) := by exact_mod_cast h3
      rw [Rat.intCast_natCast] at h4
      exact Rat.mul_lt_mul_of_pos_right (by grind) hu

theorem log2_ge {a b : Nat} (h : 2 ^ a ≤ b) : a ≤ b.log2 := by
  have hb : b ≠ 0 := by have := Nat.two_pow_pos a; omega
  exact (Nat.le_log2 hb).2 h

theorem quotient_digits (m n : Nat) (hm : m ≠ 0) (hn : n ≠ 0) : 2 ^ 53 ≤ m * 2 ^ (54 + n.log2 - m.log2) / n := by
  have h1 : 2 ^ m.log2 ≤ m := Nat.log2_self_le hm
  have h2 : n < 2 ^ (n.log2 + 1) := Nat.lt_log2_self
  rw [Nat.le_div_iff_mul_le (by omega)]
  have h3 : 2 ^ (54 + n.log2) ≤ m * 2 ^ (54 + n.log2 - m.log2) := by
    have h4 := Nat.mul_le_mul_right (2 ^ (54 + n.log2 - m.log2)) h1
    rw [← Nat.pow_add] at h4
    exact Nat.le_trans (Nat.pow_le_pow_right (by omega) (by omega)) h4
  have h5 : 2 ^ 53 * n ≤ 2 ^ 53 * 2 ^ (n.log2 + 1) := Nat.mul_le_mul_left _ (by omega)
  rw [← Nat.pow_add, show 53 + (n.log2 + 1) = 54 + n.log2 by omega] at h5
  omega

theorem div_nonneg' {a b : Rat} (ha : 0 ≤ a) (hb : 0 < b) : 0 ≤ a / b := by
  rw [Rat.div_def]; exact Rat.mul_nonneg ha (Rat.le_of_lt (Rat.inv_pos.2 hb))
theorem div_pos' {a b : Rat} (ha : 0 < a) (hb : 0 < b) : 0 < a / b := by
  rw [Rat.div_def]; exact Rat.mul_pos ha (Rat.inv_pos.2 hb)

theorem ab_div (a b : Rat) (hb : b ≠ 0) : ab (a / b) = ab a / ab b := by
  have h := ab_mul (a / b) b
  rw [Rat.div_mul_cancel hb] at h
  have hb' : ab b ≠ 0 := by unfold ab; grind
  rw [h, Rat.mul_div_cancel hb']

theorem rv_pos {n : Nat} (h : n ≠ 0) : 0 < rv n := by rw [← rv_zero, rv_lt_iff]; omega
theorem val_ne {x : Nat} : val x ≠ 0 ↔ x % 9223372036854775808 ≠ 0 := by
  constructor
  · intro h c; apply h; rw [val_eq, c, rv_zero]; simp
  · intro h c
    have h1 := rv_pos h
    have h2 := ab_val x
    rw [c] at h2; unfold ab at h2; grind

theorem div_spec {x y : Nat} (hx : Num x) (hy : Num y) (hy0 : val y ≠ 0) : ∃ r, double.div x y = some r ∧ Res (val x / val y) r ∧ sgn r = (sgn x ^^ sgn y) := by
  obtain ⟨m, i, h1, h2, _, h2z, _⟩ := read_fin hx
  obtain ⟨n, j, h3, h4, _, h4z, _⟩ := read_fin hy
  have hn0 : n ≠ 0 := fun c => val_ne.1 hy0 (h4z.1 c)
  unfold Format.div; rw [h1, h3]
  simp only [Datum.quotient, if_neg hn0, Option.map_some, double_frac]
  rw [show 52 + 2 = 54 by rfl, Nat.shiftLeft_eq]
  generalize hmo : 54 + n.log2 - m.log2 = more
  have hn' : (0 : Rat) < (n : Rat) := by exact_mod_cast (show 0 < n by omega)
  have hne : (n : Rat) ≠ 0 := by grind
  -- the exact quotient
  have e1 : ((m * 2 ^ more : Nat) : Rat) / (n : Rat) * pw (i - j - more) = ab (val x / val y) := by
    rw [ab_div _ _ hy0, ab_val, ab_val, ← h2, ← h4]
    have hpj := pw_pos j
    have hnj : (n : Rat) * pw j ≠ 0 := by have := Rat.mul_pos hn' hpj; grind
    have e2 : ((m : Rat) * pw i) = (((m * 2 ^ more : Nat) : Rat) / (n : Rat) * pw (i - j - more)) * ((n : Rat) * pw j) := by
      have e3 : ((m * 2 ^ more : Nat) : Rat) / (n : Rat) * pw (i - j - more) * ((n : Rat) * pw j) = (((m * 2 ^ more : Nat) : Rat) / (n : Rat) * (n : Rat)) * (pw (i - j - more) * pw j) := by grind
      rw [e3, Rat.div_mul_cancel hne, ← pw_add, Rat.natCast_mul, ← pw_nat, Rat.mul_assoc, ← pw_add]
      congr 2; omega
    rw [e2, Rat.mul_div_cancel hnj]
  have hsg : (0 < val x / val y → (sgn x ^^ sgn y) = false) ∧ (val x / val y < 0 → (sgn x ^^ sgn y) = true) := by
    have hxy := @mul_sign x y
    have hyy : 0 < val y * val y := by
      have := ab_mul (val y) (val y)
      rcases Rat.le_total (a := 0) (b := val y) with h | h
      · exact Rat.mul_pos (by grind) (by grind)
      · have := Rat.mul_pos (show 0 < -val y by grind) (show 0 < -val y by grind); grind
    have e5 : val x * val y = val x / val y * (val y * val y) := by rw [← Rat.mul_assoc, Rat.div_mul_cancel hy0]
    constructor
    · intro h; apply hxy.1; rw [e5]; exact Rat.mul_pos h hyy
    · intro h; apply hxy.2; rw [e5]; exact (Rat.mul_neg_iff_of_pos_right hyy).2 h
  obtain ⟨r1, r2, r3⟩ := write_spec (sgn x ^^ sgn y) (2 * (m * 2 ^ more / n) + (m * 2 ^ more % n != 0).toNat) (i - j - more - 1) (val x / val y)
    (fun h => by
      have hm : m = 0 := by
        rcases Nat.eq_zero_or_pos m with h0 | h0
        · exact h0
        · have := quotient_digits m n (by omega) hn0
          rw [hmo] at this; omega
      have : val x = 0 := by
        rcases Decidable.em (val x = 0) with h' | h'
        · exact h'
        · exact absurd (h2z.1 hm) (val_ne.1 h')
      rw [this, Rat.div_def]; simp)
    (by
      rcases Nat.eq_zero_or_pos m with h0 | h0
      · right; subst h0; simp
      · left
        have hdig := quotient_digits m n (by omega) hn0
        rw [hmo] at hdig
        have hlog : 54 ≤ (2 * (m * 2 ^ more / n) + (m * 2 ^ more % n != 0).toNat).log2 := log2_ge (by
          have : (2 : Nat) ^ 54 = 2 * 2 ^ 53 := by decide
          omega)
        generalize hM : 2 * (m * 2 ^ more / n) + (m * 2 ^ more % n != 0).toNat = M at *
        have hst := sticky_quotient (m * 2 ^ more) n (by omega) (pw (i - j - more)) (pw_pos _)
        rw [hM, e1] at hst
        have hhalf : pw (i - j - more) * (1 / 2) = pw (i - j - more - 1) := by
          rw [pw_pred (i - j - more)]; grind
        rw [hhalf] at hst
        obtain ⟨d, hd⟩ : ∃ d : Nat, max (i - j - more - 1 + (M.log2 : Int) - 52) (-1074) - 1 = (d : Int) + (i - j - more) := ⟨(max (i - j - more - 1 + (M.log2 : Int) - 52) (-1074) - 1 - (i - j - more)).toNat, by omega⟩
        rw [hd, pw_add, pw_nat]
        exact hst.coarse d)
    hsg.1 hsg.2
  exact ⟨_, rfl, r1, r2⟩

/-- How two numbers stand to each other. -/
def cmp (a b : Rat) : Ordering := if a < b then .lt else if a = b then .eq else .gt

theorem order_spec {x y : Nat} (hx : Num x) (hy : Num y) : double.order x y = some (cmp (val x) (val y)) := by
  obtain ⟨m, i, h1, h2, _⟩ := read_fin hx
  obtain ⟨n, j, h3, h4, _⟩ := read_fin hy
  unfold Format.order; rw [h1, h3]
  simp only [Datum.order]
  generalize hb : min i j = base
  have e1 := signed_rat (sgn x) m (i - base).toNat base
  have e2 := signed_rat (sgn y) n (j - base).toNat base
  rw [show base + ((i - base).toNat : Int) = i by omega, dv_val h2] at e1
  rw [show base + ((j - base).toNat : Int) = j by omega, dv_val h4] at e2
  generalize Ieee.signed (sgn x) m (i - base).toNat = S at *
  generalize Ieee.signed (sgn y) n (j - base).toNat = T at *
  have hpos := pw_pos base
  congr 1
  rw [← e1, ← e2]
  unfold cmp
  show compareOfLessAndEq S T = _
  unfold compareOfLessAndEq
  have k1 : ((S : Rat) * pw base < (T : Rat) * pw base) ↔ S < T := by
    rw [Rat.mul_lt_mul_right hpos]; exact_mod_cast Iff.rfl
  have k2 : ((S : Rat) * pw base = (T : Rat) * pw base) ↔ S = T := by
    constructor
    · intro h
      have h5 : (S : Rat) = (T : Rat) := Rat.le_antisymm (Rat.le_of_mul_le_mul_right (by rw [h]; exact Rat.le_refl) hpos) (Rat.le_of_mul_le_mul_right (by rw [h]; exact Rat.le_refl) hpos)
      exact_mod_cast h5
    · intro h; rw [h]
  simp only [k1, k2]
/-- 'r' stands for a number, the nearest to 'q'. -/
structure Rnd (q : Rat) (r : Nat) : Prop where
  fin : Num r
  near : ∀ a, Num a → ab (val r - q) ≤ ab (val a - q)
  rel : pw (-1022) ≤ ab q → ab (val r - q) ≤ ab q * pw (-53)

/-- 'c' is the value of a word. -/
def Rep (c : Rat) : Prop := ∃ a, Num a ∧ val a = c

theorem rv_top : rv (2046 * 2 ^ 52) = pw 1023 := by
  have := rv_unit 2045 (2 ^ 52) (by omega) (.inr (by omega))
  rw [show 2045 * 2 ^ 52 + 2 ^ 52 = 2046 * 2 ^ 52 by omega] at this
  rw [this, ← pw_nat, ← pw_add]; congr 1

theorem ab_zero_iff {a : Rat} : ab a = 0 ↔ a = 0 := by unfold ab; grind

theorem Res.rnd {q : Rat} {r : Nat} (h : Res q r) (hq : ab q ≤ pw 1023) : Rnd q r := by
  obtain ⟨hs, ⟨n', hn, hnear, hrel⟩, hpos, hneg⟩ := h
  have hlt : n' < infR := by
    have h1 := hnear (2046 * 2 ^ 52)
    rw [rv_top] at h1
    have h2 : rv n' ≤ pw 1023 := by unfold ab at h1 hq; grind
    rw [← rv_top, rv_le_iff] at h2
    unfold infR; omega
  have hn' : r % 9223372036854775808 = n' := by rw [hn]; omega
  have hv : val r = q ∨ (0 < q ∧ val r = rv n') ∨ (q < 0 ∧ val r = -rv n') := by
    rcases Decidable.em (q = 0) with h0 | h0
    · left
      have h1 := hnear 0
      rw [h0, rv_zero] at h1
      have h2 := rv_nonneg n'
      have h3 : rv n' = 0 := by unfold ab at h1; grind
      rw [val_eq, hn', h3, h0]; simp
    · rcases Rat.le_total (a := 0) (b := q) with h1 | h1
      · have h2 : 0 < q := by grind
        right; left; refine ⟨h2, ?_⟩
        rw [val_eq, hn', hpos h2]; simp
      · have h2 : q < 0 := by grind
        right; right; refine ⟨h2, ?_⟩
        rw [val_eq, hn', hneg h2]; simp
  have hfin : Num r := ⟨hs, by rw [hn']; exact hlt⟩
  refine ⟨hfin, fun a ha => ?_, fun h => ?_⟩
  · have h1 := hnear (a % 9223372036854775808)
    have h2 := rv_nonneg (a % 9223372036854775808)
    have h3 := ab_val a
    have h4 := rv_nonneg n'
    generalize rv (a % 9223372036854775808) = v at *
    unfold ab at *
    rcases hv with hv | ⟨h5, hv⟩ | ⟨h5, hv⟩ <;> rw [hv] <;> grind
  · have h1 := hrel h
    generalize ab q * pw (-53) = B at *
    have h4 := ab_nonneg (rv n' - ab q)
    unfold ab at *
    rcases hv with hv | ⟨h5, hv⟩ | ⟨h5, hv⟩ <;> rw [hv] <;> grind

theorem Rnd.lo {q c : Rat} {r : Nat} (h : Rnd q r) (hc : Rep c) (hle : c ≤ q) : c ≤ val r := by
  obtain ⟨a, ha, rfl⟩ := hc
  have := h.near a ha
  unfold ab at this; grind
theorem Rnd.hi {q c : Rat} {r : Nat} (h : Rnd q r) (hc : Rep c) (hle : q ≤ c) : val r ≤ c := by
  obtain ⟨a, ha, rfl⟩ := hc
  have := h.near a ha
  unfold ab at this; grind
theorem Rnd.exact {q : Rat} {r : Nat} (h : Rnd q r) (hc : Rep q) : val r = q := by
  have h1 := h.lo hc Rat.le_refl
  have h2 := h.hi hc Rat.le_refl
  exact Rat.le_antisymm h2 h1
theorem Num.rep {x : Nat} (h : Num x) : Rep (val x) := ⟨x, h, rfl⟩

/-- The relative error. -/
theorem Rnd.delta {q : Rat} {r : Nat} (h : Rnd q r) (hq : pw (-1022) ≤ ab q) : ∃ d, -pw (-53) ≤ d ∧ d ≤ pw (-53) ∧ val r = q * (1 + d) := by
  have h1 := h.rel hq
  have hp := pw_pos (-1022)
  have hq0 : q ≠ 0 := by intro c; rw [c] at hq; unfold ab at hq; grind
  obtain ⟨d, hd⟩ : ∃ d, d * q = val r - q := ⟨(val r - q) / q, Rat.div_mul_cancel hq0⟩
  have hpp := pw_pos (-53)
  refine ⟨d, ?_, ?_, by grind⟩
  · rcases Rat.le_total (a := -pw (-53)) (b := d) with h3 | h3
    · exact h3
    · rcases Rat.le_total (a := 0) (b := q) with h2 | h2
      · rw [show ab q = q by unfold ab; grind] at h1
        refine Rat.le_of_mul_le_mul_right (c := q) ?_ (by grind)
        unfold ab at h1; grind
      · rw [show ab q = -q by unfold ab; grind] at h1
        refine Rat.le_of_mul_le_mul_right (c := -q) ?_ (by grind)
        have h4 := Rat.mul_nonneg (show 0 ≤ -d by grind) (show 0 ≤ -q by grind)
        unfold ab at h1; grind
  · rcases Rat.le_total (a := d) (b := pw (-53)) with h3 | h3
    · exact h3
    · rcases Rat.le_total (a := 0) (b := q) with h2 | h2
      · rw [show ab q = q by unfold ab; grind] at h1
        refine Rat.le_of_mul_le_mul_right (c := q) ?_ (by grind)
        have h4 := Rat.mul_nonneg (show 0 ≤ d by grind) h2
        unfold ab at h1; grind
      · rw [show ab q = -q by unfold ab; grind] at h1
        refine Rat.le_of_mul_le_mul_right (c := -q) ?_ (by grind)
        have h4 := Rat.mul_nonneg (show 0 ≤ d by grind) (show 0 ≤ -q by grind)
        unfold ab at h1; grind

theorem rep_neg {c : Rat} (h : Rep c) : Rep (-c) := by
  obtain ⟨a, ⟨h1, h2⟩, rfl⟩ := h
  by_cases hs : a < 9223372036854775808
  · refine ⟨a + 9223372036854775808, ⟨by omega, by rw [show (a + 9223372036854775808) % 9223372036854775808 = a % 9223372036854775808 by omega]; exact h2⟩, ?_⟩
    unfold val
    rw [show (a + 9223372036854775808) % 9223372036854775808 = a % 9223372036854775808 by omega, if_pos (by omega), if_neg (by omega)]
  · refine ⟨a - 9223372036854775808, ⟨by omega, by rw [show (a - 9223372036854775808) % 9223372036854775808 = a % 9223372036854775808 by omega]; exact h2⟩, ?_⟩
    unfold val
    rw [show (a - 9223372036854775808) % 9223372036854775808 = a % 9223372036854775808 by omega, if_neg (by omega), if_pos (by omega), Rat.neg_neg]

theorem rep_zero : Rep 0 := ⟨0, ⟨by decide, by decide⟩, by unfold val; rw [if_neg (by decide)]; exact rv_zero⟩

/-- Whole multiples of a power of two, of at most 53 digits. -/
theorem rep_nat (k : Nat) (e : Int) (hk : k ≤ 2 ^ 53) (h1 : -1074 ≤ e) (h2 : e ≤ 969) : Rep ((k : Rat) * pw e) := by
  -- by the digits of k: from below
  obtain ⟨E, hE⟩ : ∃ E : Nat, e = (E : Int) - 1074 := ⟨(e + 1074).toNat, by omega⟩
  subst hE
  have key : ∀ (d E k : Nat), 53 ≤ d + k.log2 + 1 ∨ d = 0 ∨ k = 0 → E ≤ 2043 → k ≤ 2 ^ 53 → E ≤ d → Rep ((k : Rat) * pw ((E : Int) - 1074)) := by
    intro d
    induction d with
    | zero =>
      intro E k _ _ hk hE
      obtain rfl : E = 0 := by omega
      refine ⟨k, ⟨by omega, by unfold infR; omega⟩, ?_⟩
      unfold val
      have := rv_unit 0 k hk (.inl rfl)
      rw [if_neg (by omega), Nat.mod_eq_of_lt (by omega)]; simpa using this
    | succ d ih =>
      intro E k hd hE2 hk hE
      rcases Nat.eq_zero_or_pos k with h0 | h0
      · subst h0; have := rep_zero; rw [show ((0 : Nat) : Rat) * pw ((E : Int) - 1074) = 0 by simp]; exact this
      rcases Nat.eq_zero_or_pos E with hE0 | hE0
      · subst hE0
        refine ⟨k, ⟨by omega, by unfold infR; omega⟩, ?_⟩
        unfold val
        have := rv_unit 0 k hk (.inl rfl)
        rw [if_neg (by omega), Nat.mod_eq_of_lt (by omega)]; simpa using this
      by_cases hbig : 2 ^ 52 ≤ k
      · have := rv_unit E k hk (.inr hbig)
        refine ⟨E * 2 ^ 52 + k, ⟨by omega, by unfold infR; omega⟩, ?_⟩
        unfold val
        rw [if_neg (by omega), Nat.mod_eq_of_lt (by omega)]; exact this
      · have hlog : (2 * k).log2 = k.log2 + 1 := Nat.log2_two_mul (by omega)
        have h3 := ih (E - 1) (2 * k) (by omega) (by omega) (by omega) (by omega)
        have h4 : ((2 * k : Nat) : Rat) * pw (((E - 1 : Nat) : Int) - 1074) = (k : Rat) * pw ((E : Int) - 1074) := by
          rw [pw_pred ((E : Int) - 1074), show (E : Int) - 1074 - 1 = ((E - 1 : Nat) : Int) - 1074 by omega, Rat.natCast_mul]
          have : ((2 : Nat) : Rat) = 2 := rfl
          rw [this]; grind
        rwa [h4] at h3
  exact key (E + 53) E k (by omega) (by omega) hk (by omega)

theorem rep_int (k : Int) (e : Int) (hk : k.natAbs ≤ 2 ^ 53) (h1 : -1074 ≤ e) (h2 : e ≤ 969) : Rep ((k : Rat) * pw e) := by
  have := rep_nat k.natAbs e hk h1 h2
  rcases Int.natAbs_eq k with h | h
  · rw [h, Rat.intCast_natCast]; exact this
  · rw [h, Rat.intCast_neg, Rat.intCast_natCast, Rat.neg_mul]; exact rep_neg this

/-- A fraction by a power of two. -/
theorem rep_frac (k : Int) (d : Nat) (c : Rat) (hk : k.natAbs ≤ 2 ^ 53) (hd : d ≤ 1074) (hc : c * ((2 ^ d : Nat) : Rat) = (k : Rat)) : Rep c := by
  have := rep_int k (-(d : Int)) hk (by omega) (by omega)
  rw [← hc, ← pw_nat, Rat.mul_assoc, pw_cancel, Rat.mul_one] at this
  exact this

theorem val_int (x : Nat) : ∃ z : Int, val x = (z : Rat) * pw (-1074) := by
  rw [val_eq]; unfold rv
  cases sgn x
  · exact ⟨(sv (x % 9223372036854775808) : Int), by simp [Rat.intCast_natCast]⟩
  · exact ⟨-(sv (x % 9223372036854775808) : Int), by simp only [if_true]; rw [Rat.intCast_neg, Rat.intCast_natCast, Rat.neg_mul]⟩

theorem rep_least : Rep (pw (-1074)) := by
  have := rep_nat 1 (-1074) (by omega) (by omega) (by omega)
  simpa using this

theorem int_gap {z : Int} (h : 0 < (z : Rat) * pw (-1074)) : pw (-1074) ≤ (z : Rat) * pw (-1074) := by
  have hp := pw_pos (-1074)
  have h1 : 0 < (z : Rat) := (Rat.mul_pos_iff_of_pos_right hp).1 h
  have h2 : 0 < z := by exact_mod_cast h1
  have h3 : (1 : Rat) ≤ (z : Rat) := by exact_mod_cast (show 1 ≤ z by omega)
  have := Rat.mul_le_mul_of_nonneg_right h3 (Rat.le_of_lt hp)
  grind

theorem sum_gap {x y : Nat} (h : 0 < val x + val y) : pw (-1074) ≤ val x + val y := by
  obtain ⟨a, ha⟩ := val_int x; obtain ⟨b, hb⟩ := val_int y
  have e : val x + val y = ((a + b : Int) : Rat) * pw (-1074) := by rw [ha, hb, Rat.intCast_add]; grind
  rw [e] at h ⊢; exact int_gap h
theorem diff_gap {x y : Nat} (h : 0 < val x - val y) : pw (-1074) ≤ val x - val y := by
  obtain ⟨a, ha⟩ := val_int x; obtain ⟨b, hb⟩ := val_int y
  have e : val x - val y = ((a - b : Int) : Rat) * pw (-1074) := by rw [ha, hb, Rat.intCast_sub]; grind
  rw [e] at h ⊢; exact int_gap h

/-- A difference has the sign of the exact one. -/
theorem Rnd.diff_pos {x y r : Nat} (h : Rnd (val x - val y) r) (hlt : val y < val x) : 0 < val r := by
  have h1 := h.lo rep_least (diff_gap (x := x) (y := y) (by grind))
  have := pw_pos (-1074); grind
theorem Rnd.diff_neg {x y r : Nat} (h : Rnd (val x - val y) r) (hlt : val x < val y) : val r < 0 := by
  have h2 := diff_gap (x := y) (y := x) (by grind)
  have h1 := h.hi (rep_neg rep_least) (by grind)
  have := pw_pos (-1074); grind
theorem Rnd.zero {q : Rat} {r : Nat} (h : Rnd q r) (h0 : q = 0) : val r = 0 := by
  subst h0; exact h.exact rep_zero
theorem Rnd.nonneg {q : Rat} {r : Nat} (h : Rnd q r) (h0 : 0 ≤ q) : 0 ≤ val r := h.lo rep_zero h0
theorem Rnd.nonpos {q : Rat} {r : Nat} (h : Rnd q r) (h0 : q ≤ 0) : val r ≤ 0 := h.hi rep_zero h0

theorem rootFrom_spec (n todo : Nat) : ∀ root : Nat, root * root ≤ n → n < (root + 2 ^ todo) * (root + 2 ^ todo) →
    Datum.rootFrom n todo root * Datum.rootFrom n todo root ≤ n ∧ n < (Datum.rootFrom n todo root + 1) * (Datum.rootFrom n todo root + 1) := by
  induction todo with
  | zero => intro root h1 h2; exact ⟨h1, h2⟩
  | succ todo ih =>
    intro root h1 h2
    unfold Datum.rootFrom
    simp only [Nat.one_shiftLeft]
    split
    · rename_i h; exact ih _ h (by rw [show root + 2 ^ todo + 2 ^ todo = root + 2 ^ (todo + 1) by rw [Nat.pow_succ]; omega]; exact h2)
    · rename_i h; exact ih _ h1 (by omega)

theorem root_bounds (n : Nat) (h1 : 2 ^ 108 ≤ n) (h2 : n < 2 ^ 110) : 2 ^ 54 ≤ Datum.rootFrom n (n.log2 / 2 + 1) 0 ∧ Datum.rootFrom n (n.log2 / 2 + 1) 0 < 2 ^ 55 := by
  have h3 := rootFrom_spec n (n.log2 / 2 + 1) 0 (by omega) (by
    have h4 : n < 2 ^ (n.log2 + 1) := Nat.lt_log2_self
    have h5 : 2 ^ (n.log2 + 1) ≤ 2 ^ ((n.log2 / 2 + 1) + (n.log2 / 2 + 1)) := Nat.pow_le_pow_right (by omega) (by omega)
    rw [Nat.pow_add 2 (n.log2 / 2 + 1)] at h5
    rw [Nat.zero_add]; exact Nat.lt_of_lt_of_le h4 h5)
  generalize Datum.rootFrom n (n.log2 / 2 + 1) 0 = R at *
  constructor
  · rcases Nat.lt_or_ge R (2 ^ 54) with h | h
    · have := Nat.mul_le_mul (show R + 1 ≤ 2 ^ 54 by omega) (show R + 1 ≤ 2 ^ 54 by omega)
      have e : (2 : Nat) ^ 54 * 2 ^ 54 = 2 ^ 108 := by decide
      omega
    · exact h
  · rcases Nat.lt_or_ge R (2 ^ 55) with h | h
    · exact h
    · have := Nat.mul_le_mul h h
      have e : (2 : Nat) ^ 55 * 2 ^ 55 = 2 ^ 110 := by decide
      omega

theorem sqrt_parts (m : Nat) (i : Int) (more : Nat) (hm : m ≠ 0) (hmo : more = (108 - m.log2) + ((i - (108 - m.log2 : Nat)) % 2).toNat) (hi : (i - more) / 2 - 1 = -55) (h1 : 2 ^ 108 ≤ m * 2 ^ more) (h2 : m * 2 ^ more < 2 ^ 110) :
    ∃ r, ((Datum.number false m i).root 54).map double.write = some r ∧ Num r ∧ 1 ≤ val r ∧ val r ≤ 2 := by
  have e : (Datum.number false m i).root 54 = some (.number false (2 * Datum.rootFrom (m * 2 ^ more) ((m * 2 ^ more).log2 / 2 + 1) 0 + (Datum.rootFrom (m * 2 ^ more) ((m * 2 ^ more).log2 / 2 + 1) 0 * Datum.rootFrom (m * 2 ^ more) ((m * 2 ^ more).log2 / 2 + 1) 0 != m * 2 ^ more).toNat) (-55)) := by
    simp only [Datum.root, if_neg hm, Bool.false_eq_true, if_false, Nat.shiftLeft_eq]
    rw [show 2 * 54 = 108 by rfl, ← hmo, hi]
  rw [e, Option.map_some]
  obtain ⟨b1, b2⟩ := root_bounds _ h1 h2
  generalize Datum.rootFrom (m * 2 ^ more) ((m * 2 ^ more).log2 / 2 + 1) 0 = R at *
  have hb : (R * R != m * 2 ^ more).toNat ≤ 1 := by cases (R * R != m * 2 ^ more) <;> decide
  generalize (R * R != m * 2 ^ more).toNat = b at *
  have hA1 : (1 : Rat) ≤ ((2 * R + b : Nat) : Rat) * pw (-55) := by
    have h3 : ((2 ^ 55 : Nat) : Rat) ≤ ((2 * R + b : Nat) : Rat) := by exact_mod_cast (show 2 ^ 55 ≤ 2 * R + b by omega)
    have := Rat.mul_le_mul_of_nonneg_right h3 (Rat.le_of_lt (pw_pos (-55)))
    rw [← pw_nat, ← pw_add, show ((55 : Nat) : Int) + -55 = 0 by omega, pw_zero] at this
    exact this
  have hA2 : ((2 * R + b : Nat) : Rat) * pw (-55) ≤ 2 := by
    have h3 : ((2 * R + b : Nat) : Rat) ≤ ((2 ^ 56 : Nat) : Rat) := by exact_mod_cast (show 2 * R + b ≤ 2 ^ 56 by omega)
    have := Rat.mul_le_mul_of_nonneg_right h3 (Rat.le_of_lt (pw_pos (-55)))
    rw [← pw_nat, ← pw_add, show ((56 : Nat) : Int) + -55 = 1 by omega, pw_one] at this
    exact this
  generalize hA : ((2 * R + b : Nat) : Rat) * pw (-55) = A at *
  have hab : ab A = A := by unfold ab; grind
  obtain ⟨w1, _, _⟩ := write_spec false (2 * R + b) (-55) A (fun h => by omega) (.inl (by rw [hA, hab]; exact Sticky.refl _ _)) (fun _ => rfl) (fun h => by grind)
  have hr := w1.rnd (by
    rw [hab]
    have : pw 1 ≤ pw 1023 := pw_mono (by omega)
    rw [pw_one] at this; grind)
  refine ⟨_, rfl, hr.fin, ?_, ?_⟩
  · refine hr.lo ?_ hA1
    have := rep_nat 1 0 (by omega) (by omega) (by omega)
    rw [pw_zero] at this; simpa using this
  · refine hr.hi ?_ hA2
    have := rep_nat 1 1 (by omega) (by omega) (by omega)
    rw [pw_one] at this; simpa using this

theorem val_pos_of_lt {x : Nat} (h : x < 9223372036854775808) : val x = rv x := by
  unfold val; rw [if_neg (by omega), Nat.mod_eq_of_lt h]

theorem rv_one : rv (1023 * 2 ^ 52) = 1 := by
  have := rv_unit 1022 (2 ^ 52) (by omega) (.inr (by omega))
  rw [show 1022 * 2 ^ 52 + 2 ^ 52 = 1023 * 2 ^ 52 by omega] at this
  rw [this, ← pw_nat, ← pw_add]; exact pw_zero
theorem rv_two : rv (1024 * 2 ^ 52) = 2 := by
  have := rv_unit 1023 (2 ^ 52) (by omega) (.inr (by omega))
  rw [show 1023 * 2 ^ 52 + 2 ^ 52 = 1024 * 2 ^ 52 by omega] at this
  rw [this, ← pw_nat, ← pw_add]; exact pw_one

theorem sqrt_spec {x : Nat} (hx : Num x) (h1 : 1 ≤ val x) (h2 : val x ≤ 2) : ∃ r, double.sqrt x = some r ∧ Num r ∧ 1 ≤ val r ∧ val r ≤ 2 := by
  have hs : sgn x = false := val_sign.1 (by grind)
  have hlt : x < 9223372036854775808 := by
    have h3 := hx.1
    unfold sgn at hs; simp at hs; omega
  rw [val_pos_of_lt hlt] at h1 h2
  rw [← rv_one, rv_le_iff] at h1
  rw [← rv_two, rv_le_iff] at h2
  unfold Format.sqrt Format.read
  simp only [double_sign, double_binade, double_infRung, double_least, double_frac]
  rw [show 52 + 2 = 54 by rfl]
  have hs' : (x / 2 ^ 63 % 2 == 1) = false := hs
  rw [hs', Nat.mod_eq_of_lt (show x < 2 ^ 63 by omega), if_neg (by omega), if_pos (show x < infR by unfold infR; omega)]
  have hm0 : 2 ^ 52 + x % 2 ^ 52 ≠ 0 := by omega
  have hlog : (2 ^ 52 + x % 2 ^ 52).log2 = 52 := by rw [Nat.log2_eq_iff hm0]; omega
  by_cases he : x < 1024 * 2 ^ 52
  · have hd : x / 2 ^ 52 = 1023 := by omega
    rw [hd]
    refine sqrt_parts _ _ 56 hm0 ?_ (by decide) (by omega) (by omega)
    rw [hlog]; decide
  · have hd : x / 2 ^ 52 = 1024 := by omega
    rw [hd]
    refine sqrt_parts _ _ 57 hm0 ?_ (by decide) (by omega) (by omega)
    rw [hlog]; decide
end Go.Proofs.Ytffflefdmhdhnaa.Flo
