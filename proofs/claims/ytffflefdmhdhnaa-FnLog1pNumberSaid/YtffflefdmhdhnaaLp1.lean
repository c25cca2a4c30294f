/- The parts of Log1p's text, each with its bounds. -/
import Derived.Test.YtffflefdmhdhnaaLo3
namespace Go.Proofs.Ytffflefdmhdhnaa.Flo
open Ieee

theorem r1p_part {z h : Nat} (n2 : Num z) (b0 : 0 ≤ val z) (b1 : val z ≤ 71 / 1024) (nh : Num h) (h0 : 0 ≤ val h) (h1 : val h ≤ 89 / 1024) :
    ∃ q1 q2 q3 q4 q5 q6 q7 q8 q9 q10 q11 q12 R rh, double.mul z 4594499633228436036 = some q1 ∧ double.add 4594685411790997151 q1 = some q2 ∧ double.mul z q2 = some q3 ∧ double.add 4595719342595441630 q3 = some q4 ∧ double.mul z q4 = some q5 ∧ double.add 4597174411056806063 q5 = some q6 ∧
      double.mul z q6 = some q7 ∧ double.add 4598818590951641945 q7 = some q8 ∧ double.mul z q8 = some q9 ∧ double.add 4600877379321592324 q9 = some q10 ∧ double.mul z q10 = some q11 ∧ double.add 4604180019048437139 q11 = some q12 ∧ double.mul z q12 = some R ∧ double.add h R = some rh ∧
      Num rh ∧ 0 ≤ val rh ∧ val rh ≤ 140 / 1024 := by
  obtain ⟨c7, c70, c71⟩ := c_L7; obtain ⟨c5, c50, c51⟩ := c_L5; obtain ⟨c3, c30, c31⟩ := c_L3; obtain ⟨c1, c10, c11⟩ := c_L1
  obtain ⟨c6, c60, c61⟩ := c_L6; obtain ⟨c4, c40, c41⟩ := c_L4; obtain ⟨c2, c20, c21⟩ := c_L2
  obtain ⟨q1, e1, m1, x1, y1⟩ := mul_nn n2 c7 b0 b1 c70 c71 11 (11 / 1024) (by omega) rfl (by decide +kernel) (by decide +kernel)
  obtain ⟨q2, e2, m2, x2, y2⟩ := add_nn c6 m1 c60 c61 x1 y1 168 (168 / 1024) (by omega) rfl (by decide +kernel) (by decide +kernel)
  obtain ⟨q3, e3, m3, x3, y3⟩ := mul_nn n2 m2 b0 b1 x2 y2 12 (12 / 1024) (by omega) rfl (by decide +kernel) (by decide +kernel)
  obtain ⟨q4, e4, m4, x4, y4⟩ := add_nn c5 m3 c50 c51 x3 y3 199 (199 / 1024) (by omega) rfl (by decide +kernel) (by decide +kernel)
  obtain ⟨q5, e5, m5, x5, y5⟩ := mul_nn n2 m4 b0 b1 x4 y4 14 (14 / 1024) (by omega) rfl (by decide +kernel) (by decide +kernel)
  obtain ⟨q6, e6, m6, x6, y6⟩ := add_nn c4 m5 c40 c41 x5 y5 242 (242 / 1024) (by omega) rfl (by decide +kernel) (by decide +kernel)
  obtain ⟨q7, e7, m7, x7, y7⟩ := mul_nn n2 m6 b0 b1 x6 y6 17 (17 / 1024) (by omega) rfl (by decide +kernel) (by decide +kernel)
  obtain ⟨q8, e8, m8, x8, y8⟩ := add_nn c3 m7 c30 c31 x7 y7 310 (310 / 1024) (by omega) rfl (by decide +kernel) (by decide +kernel)
  obtain ⟨q9, e9, m9, x9, y9⟩ := mul_nn n2 m8 b0 b1 x8 y8 22 (22 / 1024) (by omega) rfl (by decide +kernel) (by decide +kernel)
  obtain ⟨q10, e10, m10, x10, y10⟩ := add_nn c2 m9 c20 c21 x9 y9 432 (432 / 1024) (by omega) rfl (by decide +kernel) (by decide +kernel)
  obtain ⟨q11, e11, m11, x11, y11⟩ := mul_nn n2 m10 b0 b1 x10 y10 30 (30 / 1024) (by omega) rfl (by decide +kernel) (by decide +kernel)
  obtain ⟨q12, e12, m12, x12, y12⟩ := add_nn c1 m11 c10 c11 x11 y11 713 (713 / 1024) (by omega) rfl (by decide +kernel) (by decide +kernel)
  obtain ⟨R, e13, m13, x13, y13⟩ := mul_nn n2 m12 b0 b1 x12 y12 50 (50 / 1024) (by omega) rfl (by decide +kernel) (by decide +kernel)
  obtain ⟨rh, e14, m14, x14, y14⟩ := add_nn nh m13 h0 h1 x13 y13 140 (140 / 1024) (by omega) rfl (by decide +kernel) (by decide +kernel)
  exact ⟨q1, q2, q3, q4, q5, q6, q7, q8, q9, q10, q11, q12, R, rh, e1, e2, e3, e4, e5, e6, e7, e8, e9, e10, e11, e12, e13, e14, m14, x14, y14⟩

/-- f - (h - m). -/
theorem tail0 {m h f : Nat} (nm : Num m) (bm : ab (val m) ≤ 37 / 1024) (nh : Num h) (h0 : 0 ≤ val h) (h1 : val h ≤ 89 / 1024) (nf : Num f) (bf : ab (val f) ≤ 425 / 1024) :
    ∃ d res, double.sub h m = some d ∧ double.sub f d = some res ∧ Num res ∧ (0 < val f → 0 ≤ val m → val h < val f → 0 < val res) ∧ (val f < 0 → val m ≤ 0 → val res < 0) := by
  rw [ab_le] at bm bf
  obtain ⟨d, e1, r1⟩ := sub_r nh nm (by rw [ab_le]; grind)
  have d1 := r1.hik 126 (126 / 1024) (by omega) (by decide +kernel) (by grind)
  have d2 := r1.lok (-37) (-(37 / 1024)) (by omega) (by decide +kernel) (by grind)
  obtain ⟨res, e2, r2⟩ := sub_r nf r1.fin (by rw [ab_le]; grind)
  refine ⟨d, res, e1, e2, r2.fin, fun c1 c2 c3 => ?_, fun c1 c2 => ?_⟩
  · have dh : val d ≤ val h := r1.hi nh.rep (by grind)
    exact r2.diff_pos (by grind)
  · have dh : 0 ≤ val d := r1.nonneg (by grind)
    exact r2.diff_neg (by grind)

/-- The low part with the correction. -/
theorem low_part {kl c : Nat} (nk : Num kl) (bk : ab (val kl) ≤ 1 / 1024) (nc : Num c) (bc : ab (val c) ≤ 1 / 1024) :
    ∃ l l', double.add kl c = some l ∧ double.add c kl = some l' ∧ Num l ∧ Num l' ∧ ab (val l) ≤ 2 / 1024 ∧ ab (val l') ≤ 2 / 1024 := by
  rw [ab_le] at bk bc
  obtain ⟨l, e1, r1⟩ := add_r nk nc (by rw [ab_le]; grind)
  obtain ⟨l', e2, r2⟩ := add_r nc nk (by rw [ab_le]; grind)
  exact ⟨l, l', e1, e2, r1.fin, r2.fin, r1.abk 2 (2 / 1024) (by omega) (by decide +kernel) (by rw [ab_le]; grind), r2.abk 2 (2 / 1024) (by omega) (by decide +kernel) (by rw [ab_le]; grind)⟩

/-- Where f is zero. -/
theorem tailA {l kh : Nat} (nl : Num l) (bl : ab (val l) ≤ 2 / 1024) (nkh : Num kh) (bkh : ab (val kh) ≤ 1000) :
    ∃ res, double.add kh l = some res ∧ Num res ∧ (709 / 1024 ≤ val kh → 0 < val res) ∧ (val kh ≤ -(709 / 1024) → val res < 0) := by
  rw [ab_le] at bl bkh
  obtain ⟨res, e1, r1⟩ := add_r nkh nl (by rw [ab_le]; grind)
  refine ⟨res, e1, r1.fin, fun c => ?_, fun c => ?_⟩
  · have := r1.lok 707 (707 / 1024) (by omega) (by decide +kernel) (by grind)
    grind
  · have := r1.hik (-707) (-(707 / 1024)) (by omega) (by decide +kernel) (by grind)
    grind

theorem c_66 : Num 4604180019048437077 ∧ 0 ≤ val 4604180019048437077 ∧ val 4604180019048437077 ≤ 683 / 1024 := by
  obtain ⟨a, b⟩ := cst (w := 4604180019048437077) 1021 6004799503160661 (by decide) (by decide) (by decide) (by decide)
  rw [b, show ((1021 : Nat) : Int) - 1074 = -53 by omega, uu_eq, show ((6004799503160661 : Nat) : Rat) = 6004799503160661 by rfl]; unfold uu; exact ⟨a, by grind, by grind⟩

/-- Where f is tiny. -/
theorem tailB {l h f kh : Nat} (nl : Num l) (bl : ab (val l) ≤ 2 / 1024) (nh : Num h) (h0 : 0 ≤ val h) (h1 : val h ≤ 89 / 1024) (nf : Num f) (bf : ab (val f) ≤ 425 / 1024) (nkh : Num kh) (bkh : ab (val kh) ≤ 1000) :
    ∃ t o R d a res, double.mul 4604180019048437077 f = some t ∧ double.sub 4607182418800017408 t = some o ∧ double.mul h o = some R ∧ double.sub R l = some d ∧ double.sub d f = some a ∧ double.sub kh a = some res ∧ Num res ∧ (709 / 1024 ≤ val kh → 0 < val res) ∧ (val kh ≤ -(709 / 1024) → val res < 0) := by
  obtain ⟨n6, c0, c1⟩ := c_66
  obtain ⟨n1, v1⟩ := c_one
  have k := mul_bound (show ab (val 4604180019048437077) ≤ 683 / 1024 by rw [ab_le]; grind) bf
  rw [ab_le] at bl bkh bf
  obtain ⟨t, e1, r1⟩ := mul_r n6 nf (by grind)
  have t1 := r1.abk 284 (284 / 1024) (by omega) (by decide +kernel) (by grind)
  rw [ab_le] at t1
  obtain ⟨o, e2, r2⟩ := sub_r n1 r1.fin (by rw [v1, ab_le]; grind)
  rw [v1] at r2
  have o1 := r2.hik 1308 (1308 / 1024) (by omega) (by decide +kernel) (by grind)
  have o2 := r2.nonneg (by grind)
  obtain ⟨R, e3, nR, R0, R1⟩ := mul_nn nh r2.fin h0 h1 o2 o1 114 (114 / 1024) (by omega) (by decide +kernel) (by decide +kernel) (by decide +kernel)
  obtain ⟨d, e4, r4⟩ := sub_r nR nl (by rw [ab_le]; grind)
  have d1 := r4.hik 116 (116 / 1024) (by omega) (by decide +kernel) (by grind)
  have d2 := r4.lok (-2) (-(2 / 1024)) (by omega) (by decide +kernel) (by grind)
  obtain ⟨a, e5, r5⟩ := sub_r r4.fin nf (by rw [ab_le]; grind)
  have a1 := r5.hik 541 (541 / 1024) (by omega) (by decide +kernel) (by grind)
  have a2 := r5.lok (-427) (-(427 / 1024)) (by omega) (by decide +kernel) (by grind)
  obtain ⟨res, e6, r6⟩ := sub_r nkh r5.fin (by rw [ab_le]; grind)
  refine ⟨t, o, R, d, a, res, e1, e2, e3, e4, e5, e6, r6.fin, fun c => ?_, fun c => ?_⟩
  · exact r6.diff_pos (by grind)
  · exact r6.diff_neg (by grind)

/-- The reduction of u: its fraction field decides. -/
theorem reduce1 (u : Nat) : ∃ f, Num f ∧ ab (val f) ≤ 425 / 1024 ∧
    ((u % 2 ^ 52 < 1865452045155277 ∧ double.sub (u % 2 ^ 52 + 4607182418800017408) 4607182418800017408 = some f ∧ val f = ((u % 2 ^ 52 : Nat) : Rat) * pw (-52)) ∨
     (1865452045155277 ≤ u % 2 ^ 52 ∧ double.sub (u % 2 ^ 52 + 4602678819172646912) 4607182418800017408 = some f ∧ val f < 0)) := by
  obtain ⟨m, hm⟩ : ∃ m, m = u % 2 ^ 52 := ⟨_, rfl⟩
  rw [← hm]
  have hm1 : m < 2 ^ 52 := by omega
  obtain ⟨n1, v1⟩ := c_one
  have hM : ((2 ^ 52 + m : Nat) : Rat) = 4503599627370496 + (m : Rat) := by rw [Rat.natCast_add]; rfl
  by_cases hs : m < 1865452045155277
  · obtain ⟨un, uv⟩ := cst (w := m + 4607182418800017408) 1022 (2 ^ 52 + m) (by omega) (by omega) (by omega) (by unfold infR; omega)
    rw [show ((1022 : Nat) : Int) - 1074 = -52 by omega] at uv
    have hm0 : (0 : Rat) ≤ (m : Rat) := by exact_mod_cast Nat.zero_le m
    have hm3 : (m : Rat) ≤ ((1865452045155277 : Nat) : Rat) := Rat.natCast_le_natCast.2 (by omega)
    rw [show ((1865452045155277 : Nat) : Rat) = 1865452045155277 from rfl] at hm3
    have hq : val (m + 4607182418800017408) - 1 = (m : Rat) * pw (-52) := by rw [uv, hM, pwm52]; unfold uu; grind
    obtain ⟨f, fe, fr⟩ := sub_r un n1 (by rw [v1, hq, pwm52, ab_le]; unfold uu; grind)
    rw [v1] at fr
    have fv := fr.exact (by rw [hq]; exact rep_nat _ _ (by omega) (by omega) (by omega))
    exact ⟨f, fr.fin, by rw [fv, hq, pwm52, ab_le]; unfold uu; grind, .inl ⟨hs, fe, by rw [fv, hq]⟩⟩
  · obtain ⟨un, uv⟩ := cst (w := m + 4602678819172646912) 1021 (2 ^ 52 + m) (by omega) (by omega) (by omega) (by unfold infR; omega)
    rw [show ((1021 : Nat) : Int) - 1074 = -53 by omega, uu_eq] at uv
    have hm2 : (m : Rat) ≤ ((4503599627370495 : Nat) : Rat) := Rat.natCast_le_natCast.2 (by omega)
    have hm3 : ((1865452045155277 : Nat) : Rat) ≤ (m : Rat) := Rat.natCast_le_natCast.2 (by omega)
    rw [show ((4503599627370495 : Nat) : Rat) = 4503599627370495 from rfl] at hm2
    rw [show ((1865452045155277 : Nat) : Rat) = 1865452045155277 from rfl] at hm3
    have hq : val (m + 4602678819172646912) - 1 = ((m : Rat) - 4503599627370496) * uu := by rw [uv, hM]; unfold uu; grind
    obtain ⟨f, fe, fr⟩ := sub_r un n1 (by rw [v1, hq, ab_le]; unfold uu; grind)
    rw [v1] at fr
    have frep : Rep (val (m + 4602678819172646912) - 1) := by
      rw [hq, ← uu_eq]
      have := rep_int ((m : Int) - 4503599627370496) (-53) (by omega) (by omega) (by omega)
      rw [Rat.intCast_sub, Rat.intCast_natCast] at this
      exact this
    have fv := fr.exact frep
    exact ⟨f, fr.fin, by rw [fv, hq, ab_le]; unfold uu; grind, .inr ⟨by omega, fe, by rw [fv, hq]; unfold uu; grind⟩⟩
end Go.Proofs.Ytffflefdmhdhnaa.Flo
