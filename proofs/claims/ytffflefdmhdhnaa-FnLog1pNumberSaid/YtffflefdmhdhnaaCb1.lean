/- Plain lemmas for the cube root: bounds by powers of two, relative errors, and the three steps in rationals. -/
import Derived.Test.YtffflefdmhdhnaaFlo
namespace Go.Proofs.Ytffflefdmhdhnaa.Flo
open Ieee

/-- Bounds by powers of two. -/
def Bd (lo hi : Int) (x : Rat) : Prop := pw lo ≤ x ∧ x ≤ pw hi

theorem Bd.pos {lo hi : Int} {x : Rat} (h : Bd lo hi x) : 0 < x := by have := pw_pos lo; have := h.1; grind
theorem Bd.wide {lo hi lo' hi' : Int} {x : Rat} (h : Bd lo hi x) (h1 : lo' ≤ lo) (h2 : hi ≤ hi') : Bd lo' hi' x := by
  have := pw_mono h1; have := pw_mono h2; have := h.1; have := h.2
  exact ⟨by grind, by grind⟩
theorem Bd.mul {a b c d : Int} {x y : Rat} (hx : Bd a b x) (hy : Bd c d y) : Bd (a + c) (b + d) (x * y) := by
  have h1 := hx.pos; have h2 := hy.pos
  constructor
  · rw [pw_add]
    have h3 := Rat.mul_le_mul_of_nonneg_right hx.1 (Rat.le_of_lt (pw_pos c))
    have h4 := Rat.mul_le_mul_of_nonneg_left hy.1 (Rat.le_of_lt h1)
    grind
  · rw [pw_add]
    have h3 := Rat.mul_le_mul_of_nonneg_right hx.2 (Rat.le_of_lt h2)
    have h4 := Rat.mul_le_mul_of_nonneg_left hy.2 (Rat.le_of_lt (pw_pos b))
    grind
theorem Bd.div {a b c d : Int} {x y : Rat} (hx : Bd a b x) (hy : Bd c d y) : Bd (a - d) (b - c) (x / y) := by
  have h2 := hy.pos
  constructor
  · refine Rat.le_of_mul_le_mul_right ?_ h2
    rw [Rat.div_mul_cancel (by grind)]
    have h4 := Rat.mul_le_mul_of_nonneg_left hy.2 (Rat.le_of_lt (pw_pos (a - d)))
    rw [← pw_add, show a - d + d = a by omega] at h4
    have := hx.1; grind
  · refine Rat.le_of_mul_le_mul_right ?_ h2
    rw [Rat.div_mul_cancel (by grind)]
    have h4 := Rat.mul_le_mul_of_nonneg_left hy.1 (Rat.le_of_lt (pw_pos (b - c)))
    rw [← pw_add, show b - c + c = b by omega] at h4
    have := hx.2; grind

theorem rep_pw (e : Int) (h1 : -1074 ≤ e) (h2 : e ≤ 969) : Rep (pw e) := by
  have := rep_nat 1 e (by omega) h1 h2
  simpa using this

def uu : Rat := 1 / 9007199254740992
theorem uu_eq : pw (-53) = uu := by
  have h := pw_cancel 53
  have h2 : pw 53 = 9007199254740992 := by
    have := pw_nat 53
    rw [show ((53 : Nat) : Int) = 53 by rfl] at this
    rw [this]; simp
  rw [h2] at h
  unfold uu; grind

/-- Rounding within bounds: the relative error, and the same bounds. -/
theorem Res.bd {q : Rat} {r : Nat} (h : Res q r) {lo hi : Int} (hb : Bd lo hi q) (h1 : -1022 ≤ lo) (h2 : hi ≤ 969) : Rnd q r ∧ Bd lo hi (val r) ∧ ∃ d, -uu ≤ d ∧ d ≤ uu ∧ val r = q * (1 + d) := by
  have hp := hb.pos
  have hq : ab q = q := by unfold ab; grind
  have hr := h.rnd (by rw [hq]; have := pw_mono (show hi ≤ 1023 by omega); have := hb.2; grind)
  have hlo : -1074 ≤ lo := by omega
  have hlh : lo ≤ hi := by
    rcases Int.lt_or_le hi lo with c | c
    · have h3 := pw_mono (show hi ≤ lo - 1 by omega)
      have h4 := pw_pred lo
      have h5 := pw_pos (lo - 1)
      have := hb.1; have := hb.2; grind
    · exact c
  refine ⟨hr, ⟨hr.lo (rep_pw lo hlo (by omega)) hb.1, hr.hi (rep_pw hi (by omega) h2) hb.2⟩, ?_⟩
  rw [← uu_eq]
  exact hr.delta (by rw [hq]; have := pw_mono h1; have := hb.1; grind)

/-- The error of whatever size. -/
theorem Rnd.err {q : Rat} {r : Nat} (h : Rnd q r) : ab (val r - q) ≤ ab q * uu + pw (-1074) := by
  have hp := pw_pos (-1074)
  rcases Rat.le_total (a := pw (-1022)) (b := ab q) with h1 | h1
  · have := h.rel h1; rw [uu_eq] at this; grind
  · have hq0 := ab_nonneg q
    have hqu : 0 ≤ ab q * uu := Rat.mul_nonneg hq0 (by unfold uu; grind)
    have hinv := pw_cancel 1074
    have hp2 := pw_pos 1074
    -- the whole number below
    have hfl := Rat.floor_le (ab q * pw 1074)
    have hfu := Rat.lt_floor_add_one (ab q * pw 1074)
    have hf0 : 0 ≤ (ab q * pw 1074).floor := by
      rw [Rat.le_floor_iff, show ((0 : Int) : Rat) = 0 from rfl]
      exact Rat.mul_nonneg hq0 (Rat.le_of_lt hp2)
    have hf1 : (ab q * pw 1074).floor < 9007199254740992 := by
      rw [Rat.floor_lt_iff]
      have h2 := Rat.mul_le_mul_of_nonneg_right h1 (Rat.le_of_lt hp2)
      rw [← pw_add] at h2
      have h3 : pw (-1022 + 1074) < pw 53 := by
        have := pw_succ 52
        rw [show (-1022 : Int) + 1074 = 52 by omega, show (53 : Int) = 52 + 1 by omega, this]
        have := pw_pos 52; grind
      have h4 : pw 53 = 9007199254740992 := by
        have := pw_nat 53
        rw [show ((53 : Nat) : Int) = 53 by rfl] at this
        rw [this]; simp
      have h5 : (((9007199254740992 : Int)) : Rat) = 9007199254740992 := rfl
      rw [h5]; grind
    obtain ⟨m, hm⟩ : ∃ m : Nat, (ab q * pw 1074).floor = (m : Int) := ⟨_, (Int.toNat_of_nonneg hf0).symm⟩
    rw [hm] at hfl hfu hf1
    rw [Rat.intCast_natCast] at hfl
    have hfu' : ab q * pw 1074 < (m : Rat) + 1 := by
      have h6 : (((m : Int) + 1 : Int) : Rat) = (m : Rat) + 1 := by rw [Rat.intCast_add, Rat.intCast_natCast]; rfl
      rw [h6] at hfu; exact hfu
    obtain ⟨a, ha, hav⟩ := rep_nat m (-1074) (by omega) (by omega) (by omega)
    have h7 := Rat.mul_le_mul_of_nonneg_right hfl (Rat.le_of_lt hp)
    have h8 := Rat.mul_lt_mul_of_pos_right hfu' hp
    have e1 : ab q * pw 1074 * pw (-1074) = ab q := by rw [Rat.mul_assoc, hinv, Rat.mul_one]
    rw [e1] at h7 h8
    have e2 : ((m : Rat) + 1) * pw (-1074) = (m : Rat) * pw (-1074) + pw (-1074) := by grind
    rw [e2] at h8
    rcases Rat.le_total (a := 0) (b := q) with h9 | h9
    · have e3 : ab q = q := by unfold ab; grind
      have h10 := h.near a ha
      rw [hav] at h10
      rw [e3] at h7 h8 hqu ⊢
      clear hfl hfu hfu' hf0 hf1 hm e1 e2 hav ha hinv hp2 h1 hq0 e3 h
      generalize (m : Rat) * pw (-1074) = M at *
      unfold ab at h10; unfold ab; grind
    · have e3 : ab q = -q := by unfold ab; grind
      obtain ⟨b, hb, hbv⟩ := rep_neg ⟨a, ha, hav⟩
      have h10 := h.near b hb
      rw [hbv] at h10
      rw [e3] at h7 h8 hqu ⊢
      clear hfl hfu hfu' hf0 hf1 hm e1 e2 hav ha hinv hp2 h1 hq0 e3 h hbv hb
      generalize (m : Rat) * pw (-1074) = M at *
      unfold ab at h10; unfold ab; grind

/-- The rational step of the cube root, at 'y' near 1: its cube is near '1 / y'. -/
theorem pade {y p : Rat} (h1 : 7 / 8 ≤ y) (h2 : y ≤ 9 / 8) (hp : p * (14 * y ^ 2 + 35 * y + 5) = 5 * y ^ 2 + 35 * y + 14) :
    9 / 10 ≤ p ∧ p ≤ 11 / 10 ∧ y * p ^ 3 - 1 ≤ 3 / 10000000 ∧ -(3 / 10000000) ≤ y * p ^ 3 - 1 := by
  have y2a : 49 / 64 ≤ y ^ 2 := by
    have := Rat.mul_nonneg (show 0 ≤ y - 7 / 8 by grind) (show 0 ≤ y + 7 / 8 by grind); grind
  have y2b : y ^ 2 ≤ 81 / 64 := by
    have := Rat.mul_nonneg (show 0 ≤ 9 / 8 - y by grind) (show 0 ≤ y + 9 / 8 by grind); grind
  generalize hD : 14 * y ^ 2 + 35 * y + 5 = D at *
  generalize hN : 5 * y ^ 2 + 35 * y + 14 = N at *
  have hD1 : 46 ≤ D := by grind
  have hD0 : 0 < D := by grind
  have pa : 9 / 10 ≤ p := by
    refine Rat.le_of_mul_le_mul_right ?_ hD0; grind
  have pb : p ≤ 11 / 10 := by
    refine Rat.le_of_mul_le_mul_right ?_ hD0; grind
  have hD2 : 2116 ≤ D ^ 2 := by
    have := Rat.mul_nonneg (show 0 ≤ D - 46 by grind) (show 0 ≤ D + 46 by grind); grind
  have hD3 : 97336 ≤ D ^ 3 := by
    have := Rat.mul_nonneg (show 0 ≤ D ^ 2 - 2116 by grind) (show 0 ≤ D by grind); grind
  -- the identity
  have key : (y * p ^ 3 - 1) * D ^ 3 = (y - 1) ^ 5 * (125 * y ^ 2 + 506 * y + 125) := by
    have e1 : (y * p ^ 3 - 1) * D ^ 3 = y * (p * D) ^ 3 - D ^ 3 := by grind
    rw [e1, hp, ← hD, ← hN]; grind
  have hh : (y - 1) ^ 2 ≤ 1 / 64 := by
    have := Rat.mul_nonneg (show 0 ≤ 1 / 8 - (y - 1) by grind) (show 0 ≤ 1 / 8 + (y - 1) by grind); grind
  have hh0 : 0 ≤ (y - 1) ^ 2 := by
    rcases Rat.le_total (a := 0) (b := y - 1) with h | h
    · have := Rat.mul_nonneg h h; grind
    · have := Rat.mul_nonneg (show 0 ≤ 1 - y by grind) (show 0 ≤ 1 - y by grind); grind
  generalize hz : (y - 1) ^ 2 = z at *
  have hh4 : z ^ 2 ≤ 1 / 4096 := by
    have := Rat.mul_nonneg (show 0 ≤ 1 / 64 - z by grind) (show 0 ≤ 1 / 64 + z by grind); grind
  have hh40 : 0 ≤ z ^ 2 := by have := Rat.mul_nonneg hh0 hh0; grind
  have h5 : (y - 1) ^ 5 = z ^ 2 * (y - 1) := by rw [← hz]; grind
  have h5a : (y - 1) ^ 5 ≤ 1 / 32768 := by
    rw [h5]
    have := Rat.mul_nonneg hh40 (show 0 ≤ 1 / 8 - (y - 1) by grind); grind
  have h5b : -(1 / 32768) ≤ (y - 1) ^ 5 := by
    rw [h5]
    have := Rat.mul_nonneg hh40 (show 0 ≤ 1 / 8 + (y - 1) by grind); grind
  have hP : 125 * y ^ 2 + 506 * y + 125 ≤ 853 := by grind
  have hP0 : 0 ≤ 125 * y ^ 2 + 506 * y + 125 := by grind
  generalize 125 * y ^ 2 + 506 * y + 125 = P at *
  generalize (y - 1) ^ 5 = v at *
  have hD30 : 0 < D ^ 3 := by grind
  generalize D ^ 3 = C at *
  refine ⟨pa, pb, ?_, ?_⟩
  · refine Rat.le_of_mul_le_mul_right (c := C) ?_ hD30
    rw [key]
    have := Rat.mul_nonneg (show 0 ≤ 1 / 32768 - v by grind) hP0
    grind
  · refine Rat.le_of_mul_le_mul_right (c := C) ?_ hD30
    rw [key]
    have := Rat.mul_nonneg (show 0 ≤ 1 / 32768 + v by grind) hP0
    grind
end Go.Proofs.Ytffflefdmhdhnaa.Flo
