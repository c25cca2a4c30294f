/- Plain tools for straight-line bounds: rounding keeps bounds in 1024ths; the constants of the logarithms. -/
import Derived.Test.YtffflefdmhdhnaaCb6
namespace Go.Proofs.Ytffflefdmhdhnaa.Flo
open Ieee

theorem rep_k (n : Int) (h : n.natAbs ≤ 1048576) : Rep ((n : Rat) / 1024) := by
  refine rep_frac n 10 _ (by omega) (by omega) ?_
  rw [show ((2 ^ 10 : Nat) : Rat) = 1024 by rfl]
  exact Rat.div_mul_cancel (by decide)

theorem Rnd.hik {q : Rat} {r : Nat} (h : Rnd q r) (n : Int) (c : Rat) (hn : n.natAbs ≤ 1048576) (hc : c = (n : Rat) / 1024) (hq : q ≤ c) : val r ≤ c := h.hi (by rw [hc]; exact rep_k n hn) hq
theorem Rnd.lok {q : Rat} {r : Nat} (h : Rnd q r) (n : Int) (c : Rat) (hn : n.natAbs ≤ 1048576) (hc : c = (n : Rat) / 1024) (hq : c ≤ q) : c ≤ val r := h.lo (by rw [hc]; exact rep_k n hn) hq
theorem Rnd.abk {q : Rat} {r : Nat} (h : Rnd q r) (n : Int) (c : Rat) (hn : n.natAbs ≤ 1048576) (hc : c = (n : Rat) / 1024) (hq : ab q ≤ c) : ab (val r) ≤ c := by
  rw [ab_le] at hq ⊢
  refine ⟨?_, h.hik n c hn hc hq.2⟩
  refine h.lok (-n) (-c) (by omega) ?_ hq.1
  rw [hc, Rat.intCast_neg]; grind

theorem big_ok {q : Rat} (h : ab q ≤ 2000) : ab q ≤ pw 1023 := by
  have h1 := pw_mono (show ((11 : Nat) : Int) ≤ 1023 by omega)
  rw [pw_nat, show ((2 ^ 11 : Nat) : Rat) = 2048 by rfl] at h1
  grind

theorem add_r {x y : Nat} (hx : Num x) (hy : Num y) (h : ab (val x + val y) ≤ 2000) : ∃ r, double.add x y = some r ∧ Rnd (val x + val y) r := by
  obtain ⟨r, r1, r2, _⟩ := add_spec hx hy
  exact ⟨r, r1, r2.rnd (big_ok h)⟩
theorem sub_r {x y : Nat} (hx : Num x) (hy : Num y) (h : ab (val x - val y) ≤ 2000) : ∃ r, double.sub x y = some r ∧ Rnd (val x - val y) r := by
  obtain ⟨r, r1, r2, _⟩ := sub_spec hx hy
  exact ⟨r, r1, r2.rnd (big_ok h)⟩
theorem mul_r {x y : Nat} (hx : Num x) (hy : Num y) (h : ab (val x * val y) ≤ 2000) : ∃ r, double.mul x y = some r ∧ Rnd (val x * val y) r := by
  obtain ⟨r, r1, r2, _⟩ := mul_spec hx hy
  exact ⟨r, r1, r2.rnd (big_ok h)⟩
theorem div_r {x y : Nat} (hx : Num x) (hy : Num y) (hy0 : val y ≠ 0) (h : ab (val x / val y) ≤ 2000) : ∃ r, double.div x y = some r ∧ Rnd (val x / val y) r := by
  obtain ⟨r, r1, r2, _⟩ := div_spec hx hy hy0
  exact ⟨r, r1, r2.rnd (big_ok h)⟩

/-- A product of two numbers from zero to bounds. -/
theorem mul_nn {x y : Nat} (hx : Num x) (hy : Num y) {a b : Rat} (x0 : 0 ≤ val x) (xa : val x ≤ a) (y0 : 0 ≤ val y) (yb : val y ≤ b) (n : Int) (c : Rat) (hn : n.natAbs ≤ 1048576) (hc : c = (n : Rat) / 1024) (hab : a * b ≤ c) (hc2 : c ≤ 2000) :
    ∃ r, double.mul x y = some r ∧ Num r ∧ 0 ≤ val r ∧ val r ≤ c := by
  have h1 := Rat.mul_nonneg x0 y0
  have h2 : val x * val y ≤ c := by
    have k1 := Rat.mul_le_mul_of_nonneg_right xa y0
    have k2 := Rat.mul_le_mul_of_nonneg_left yb (show 0 ≤ a by grind)
    grind
  obtain ⟨r, r1, r2⟩ := mul_r hx hy (by rw [ab_le]; grind)
  exact ⟨r, r1, r2.fin, r2.nonneg h1, r2.hik n c hn hc h2⟩
theorem add_nn {x y : Nat} (hx : Num x) (hy : Num y) {a b : Rat} (x0 : 0 ≤ val x) (xa : val x ≤ a) (y0 : 0 ≤ val y) (yb : val y ≤ b) (n : Int) (c : Rat) (hn : n.natAbs ≤ 1048576) (hc : c = (n : Rat) / 1024) (hab : a + b ≤ c) (hc2 : c ≤ 2000) :
    ∃ r, double.add x y = some r ∧ Num r ∧ 0 ≤ val r ∧ val r ≤ c := by
  obtain ⟨r, r1, r2⟩ := add_r hx hy (by rw [ab_le]; grind)
  exact ⟨r, r1, r2.fin, r2.nonneg (by grind), r2.hik n c hn hc (by grind)⟩

theorem cst {w : Nat} (e k : Nat) (h : w = e * 2 ^ 52 + k) (h1 : 2 ^ 52 ≤ k) (h2 : k ≤ 2 ^ 53) (hw : w < infR) : Num w ∧ val w = (k : Rat) * pw ((e : Int) - 1074) := by
  obtain ⟨a, b⟩ := word_pos hw
  exact ⟨a, by rw [b, h]; exact rv_unit e k h2 (.inr h1)⟩

theorem pwm54 : pw (-54) = uu / 2 := by
  have h := pw_pred (-53); rw [uu_eq, show (-53 : Int) - 1 = -54 by omega] at h; grind
theorem pwm55 : pw (-55) = uu / 4 := by
  have h := pw_pred (-54); rw [pwm54, show (-54 : Int) - 1 = -55 by omega] at h; grind
theorem pwm52 : pw (-52) = 2 * uu := by
  have h := pw_pred (-52); rw [show (-52 : Int) - 1 = -53 by omega, uu_eq] at h; exact h
theorem pwm51 : pw (-51) = 4 * uu := by
  have h := pw_pred (-51); rw [show (-51 : Int) - 1 = -52 by omega, pwm52] at h; grind

theorem c_half : Num 4602678819172646912 ∧ val 4602678819172646912 = 1 / 2 := by
  obtain ⟨a, b⟩ := cst (w := 4602678819172646912) 1021 4503599627370496 (by decide) (by decide) (by decide) (by decide)
  refine ⟨a, ?_⟩
  rw [b, show ((1021 : Nat) : Int) - 1074 = -53 by omega, uu_eq, show ((4503599627370496 : Nat) : Rat) = 4503599627370496 by rfl]; unfold uu; grind
theorem c_one : Num 4607182418800017408 ∧ val 4607182418800017408 = 1 := by
  obtain ⟨a, b⟩ := word_pos (n := 4607182418800017408) (by decide)
  exact ⟨a, by rw [b]; exact rv_one⟩
theorem c_two : Num 4611686018427387904 ∧ val 4611686018427387904 = 2 := by
  obtain ⟨a, b⟩ := word_pos (n := 4611686018427387904) (by decide)
  exact ⟨a, by rw [b]; exact rv_two⟩
theorem c_L7 : Num 4594499633228436036 ∧ 0 ≤ val 4594499633228436036 ∧ val 4594499633228436036 ≤ 152 / 1024 := by
  obtain ⟨a, b⟩ := cst (w := 4594499633228436036) 1019 5331612937900612 (by decide) (by decide) (by decide) (by decide)
  rw [b, show ((1019 : Nat) : Int) - 1074 = -55 by omega, pwm55, show ((5331612937900612 : Nat) : Rat) = 5331612937900612 by rfl]; unfold uu; exact ⟨a, by grind, by grind⟩
theorem c_L5 : Num 4595719342595441630 ∧ 0 ≤ val 4595719342595441630 ∧ val 4595719342595441630 ≤ 187 / 1024 := by
  obtain ⟨a, b⟩ := cst (w := 4595719342595441630) 1019 6551322304906206 (by decide) (by decide) (by decide) (by decide)
  rw [b, show ((1019 : Nat) : Int) - 1074 = -55 by omega, pwm55, show ((6551322304906206 : Nat) : Rat) = 6551322304906206 by rfl]; unfold uu; exact ⟨a, by grind, by grind⟩
theorem c_L3 : Num 4598818590951641945 ∧ 0 ≤ val 4598818590951641945 ∧ val 4598818590951641945 ≤ 293 / 1024 := by
  obtain ⟨a, b⟩ := cst (w := 4598818590951641945) 1020 5146971033736025 (by decide) (by decide) (by decide) (by decide)
  rw [b, show ((1020 : Nat) : Int) - 1074 = -54 by omega, pwm54, show ((5146971033736025 : Nat) : Rat) = 5146971033736025 by rfl]; unfold uu; exact ⟨a, by grind, by grind⟩
theorem c_L1 : Num 4604180019048437139 ∧ 0 ≤ val 4604180019048437139 ∧ val 4604180019048437139 ≤ 683 / 1024 := by
  obtain ⟨a, b⟩ := cst (w := 4604180019048437139) 1021 6004799503160723 (by decide) (by decide) (by decide) (by decide)
  rw [b, show ((1021 : Nat) : Int) - 1074 = -53 by omega, uu_eq, show ((6004799503160723 : Nat) : Rat) = 6004799503160723 by rfl]; unfold uu; exact ⟨a, by grind, by grind⟩
theorem c_L6 : Num 4594685411790997151 ∧ 0 ≤ val 4594685411790997151 ∧ val 4594685411790997151 ≤ 157 / 1024 := by
  obtain ⟨a, b⟩ := cst (w := 4594685411790997151) 1019 5517391500461727 (by decide) (by decide) (by decide) (by decide)
  rw [b, show ((1019 : Nat) : Int) - 1074 = -55 by omega, pwm55, show ((5517391500461727 : Nat) : Rat) = 5517391500461727 by rfl]; unfold uu; exact ⟨a, by grind, by grind⟩
theorem c_L4 : Num 4597174411056806063 ∧ 0 ≤ val 4597174411056806063 ∧ val 4597174411056806063 ≤ 228 / 1024 := by
  obtain ⟨a, b⟩ := cst (w := 4597174411056806063) 1019 8006390766270639 (by decide) (by decide) (by decide) (by decide)
  rw [b, show ((1019 : Nat) : Int) - 1074 = -55 by omega, pwm55, show ((8006390766270639 : Nat) : Rat) = 8006390766270639 by rfl]; unfold uu; exact ⟨a, by grind, by grind⟩
theorem c_L2 : Num 4600877379321592324 ∧ 0 ≤ val 4600877379321592324 ∧ val 4600877379321592324 ≤ 410 / 1024 := by
  obtain ⟨a, b⟩ := cst (w := 4600877379321592324) 1020 7205759403686404 (by decide) (by decide) (by decide) (by decide)
  rw [b, show ((1020 : Nat) : Int) - 1074 = -54 by omega, pwm54, show ((7205759403686404 : Nat) : Rat) = 7205759403686404 by rfl]; unfold uu; exact ⟨a, by grind, by grind⟩
theorem c_hi : Num 4604418534311723008 ∧ 709 / 1024 ≤ val 4604418534311723008 ∧ val 4604418534311723008 ≤ 710 / 1024 := by
  obtain ⟨a, b⟩ := cst (w := 4604418534311723008) 1021 6243314766446592 (by decide) (by decide) (by decide) (by decide)
  rw [b, show ((1021 : Nat) : Int) - 1074 = -53 by omega, uu_eq, show ((6243314766446592 : Nat) : Rat) = 6243314766446592 by rfl]; unfold uu; exact ⟨a, by grind, by grind⟩
theorem c_lo : Num 4461442080421002358 ∧ 0 ≤ val 4461442080421002358 ∧ val 4461442080421002358 ≤ 1 / 1000000000 := by
  obtain ⟨a, b⟩ := word_pos (n := 4461442080421002358) (by decide)
  refine ⟨a, by rw [b]; exact rv_nonneg _, ?_⟩
  have h1 := rv_unit 990 (2 ^ 52) (by omega) (.inr (by omega))
  have h2 : rv 4461442080421002358 ≤ rv (990 * 2 ^ 52 + 2 ^ 52) := by rw [rv_le_iff]; decide
  have h3 := pw_cancel 32
  have h4 : pw 32 = 4294967296 := by
    have := pw_nat 32
    rw [show ((32 : Nat) : Int) = 32 by rfl] at this
    rw [this]; simp
  rw [h4] at h3
  have h5 : pw (-32) = 1 / 4294967296 := by grind
  rw [h1, ← pw_nat, ← pw_add, show ((52 : Nat) : Int) + (((990 : Nat) : Int) - 1074) = -32 by omega, h5] at h2
  rw [b]; grind
end Go.Proofs.Ytffflefdmhdhnaa.Flo
