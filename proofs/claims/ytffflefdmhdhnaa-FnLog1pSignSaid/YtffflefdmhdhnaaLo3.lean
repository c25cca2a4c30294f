/- The logarithm's text at a positive number: every operation has an answer; the result is finite, with the sign that it should have. -/
import Derived.Test.YtffflefdmhdhnaaLo2
namespace Go.Proofs.Ytffflefdmhdhnaa.Flo
open Ieee

theorem r_part {s2 h : Nat} (n2 : Num s2) (b0 : 0 ≤ val s2) (b1 : val s2 ≤ 71 / 1024) (nh : Num h) (h0 : 0 ≤ val h) (h1 : val h ≤ 89 / 1024) :
    ∃ s4 p1 p2 p3 p4 p5 p6 t1 u1 u2 u3 u4 t2 R rh, double.mul s2 s2 = some s4 ∧ double.mul 4594499633228436036 s4 = some p1 ∧ double.add p1 4595719342595441630 = some p2 ∧ double.mul p2 s4 = some p3 ∧ double.add p3 4598818590951641945 = some p4 ∧ double.mul p4 s4 = some p5 ∧
      double.add p5 4604180019048437139 = some p6 ∧ double.mul s2 p6 = some t1 ∧ double.mul 4594685411790997151 s4 = some u1 ∧ double.add u1 4597174411056806063 = some u2 ∧ double.mul u2 s4 = some u3 ∧ double.add u3 4600877379321592324 = some u4 ∧ double.mul s4 u4 = some t2 ∧
      double.add t1 t2 = some R ∧ double.add R h = some rh ∧ Num rh ∧ 0 ≤ val rh ∧ val rh ≤ 140 / 1024 := by
  obtain ⟨s4, e1, n4, x0, x1⟩ := mul_nn n2 n2 b0 b1 b0 b1 5 (5 / 1024) (by omega) rfl (by decide +kernel) (by decide +kernel)
  obtain ⟨c7, c70, c71⟩ := c_L7; obtain ⟨c5, c50, c51⟩ := c_L5; obtain ⟨c3, c30, c31⟩ := c_L3; obtain ⟨c1, c10, c11⟩ := c_L1
  obtain ⟨c6, c60, c61⟩ := c_L6; obtain ⟨c4, c40, c41⟩ := c_L4; obtain ⟨c2, c20, c21⟩ := c_L2
  obtain ⟨p1, e2, m1, y0, y1⟩ := mul_nn c7 n4 c70 c71 x0 x1 1 (1 / 1024) (by omega) rfl (by decide +kernel) (by decide +kernel)
  obtain ⟨p2, e3, m2, y2, y3⟩ := add_nn m1 c5 y0 y1 c50 c51 188 (188 / 1024) (by omega) rfl (by decide +kernel) (by decide +kernel)
  obtain ⟨p3, e4, m3, y4, y5⟩ := mul_nn m2 n4 y2 y3 x0 x1 1 (1 / 1024) (by omega) rfl (by decide +kernel) (by decide +kernel)
  obtain ⟨p4, e5, m4, y6, y7⟩ := add_nn m3 c3 y4 y5 c30 c31 294 (294 / 1024) (by omega) rfl (by decide +kernel) (by decide +kernel)
  obtain ⟨p5, e6, m5, y8, y9⟩ := mul_nn m4 n4 y6 y7 x0 x1 2 (2 / 1024) (by omega) rfl (by decide +kernel) (by decide +kernel)
  obtain ⟨p6, e7, m6, z0, z1⟩ := add_nn m5 c1 y8 y9 c10 c11 685 (685 / 1024) (by omega) rfl (by decide +kernel) (by decide +kernel)
  obtain ⟨t1, e8, m7, z2, z3⟩ := mul_nn n2 m6 b0 b1 z0 z1 48 (48 / 1024) (by omega) rfl (by decide +kernel) (by decide +kernel)
  obtain ⟨u1, e9, m8, z4, z5⟩ := mul_nn c6 n4 c60 c61 x0 x1 1 (1 / 1024) (by omega) rfl (by decide +kernel) (by decide +kernel)
  obtain ⟨u2, e10, m9, z6, z7⟩ := add_nn m8 c4 z4 z5 c40 c41 229 (229 / 1024) (by omega) rfl (by decide +kernel) (by decide +kernel)
  obtain ⟨u3, e11, m10, z8, z9⟩ := mul_nn m9 n4 z6 z7 x0 x1 2 (2 / 1024) (by omega) rfl (by decide +kernel) (by decide +kernel)
  obtain ⟨u4, e12, m11, w0, w1⟩ := add_nn m10 c2 z8 z9 c20 c21 412 (412 / 1024) (by omega) rfl (by decide +kernel) (by decide +kernel)
  obtain ⟨t2, e13, m12, w2, w3⟩ := mul_nn n4 m11 x0 x1 w0 w1 3 (3 / 1024) (by omega) rfl (by decide +kernel) (by decide +kernel)
  obtain ⟨R, e14, m13, w4, w5⟩ := add_nn m7 m12 z2 z3 w2 w3 51 (51 / 1024) (by omega) rfl (by decide +kernel) (by decide +kernel)
  obtain ⟨rh, e15, m14, w6, w7⟩ := add_nn m13 nh w4 w5 h0 h1 140 (140 / 1024) (by omega) rfl (by decide +kernel) (by decide +kernel)
  exact ⟨s4, p1, p2, p3, p4, p5, p6, t1, u1, u2, u3, u4, t2, R, rh, e1, e2, e3, e4, e5, e6, e7, e8, e9, e10, e11, e12, e13, e14, e15, m14, w6, w7⟩

/-- The products of k with the two parts of ln 2. -/
theorem k_part {k : Nat} (nk : Num k) (K : Int) (hK : val k = (K : Rat)) (hb : K.natAbs ≤ 1100) : ∃ kl kh, double.mul 4461442080421002358 k = some kl ∧ double.mul k 4604418534311723008 = some kh ∧ double.mul k 4461442080421002358 = some kl ∧ Num kl ∧ Num kh ∧ ab (val kl) ≤ 1 / 1024 ∧ ab (val kh) ≤ 1000 ∧
    (1 ≤ K → 709 / 1024 ≤ val kh) ∧ (K ≤ -1 → val kh ≤ -(709 / 1024)) ∧ (-1 ≤ K → -(710 / 1024) ≤ val kh) ∧ (K = 0 → val kh = 0 ∧ val kl = 0) := by
  obtain ⟨nl, l0, l1⟩ := c_lo
  obtain ⟨nh, h0, h1⟩ := c_hi
  have hk1 : ab (val k) ≤ 1100 := by
    rw [hK, ab_le]
    have a1 : (K : Rat) ≤ ((1100 : Int) : Rat) := Rat.intCast_le_intCast.2 (by omega)
    have a2 : ((-1100 : Int) : Rat) ≤ (K : Rat) := Rat.intCast_le_intCast.2 (by omega)
    rw [show (((1100 : Int)) : Rat) = 1100 from rfl] at a1
    rw [show ((((-1100 : Int))) : Rat) = -1100 by rfl] at a2
    exact ⟨a2, a1⟩
  have q1 := mul_bound (show ab (val 4461442080421002358) ≤ 1 / 1000000000 by rw [ab_le]; grind) hk1
  have q2 := mul_bound hk1 (show ab (val 4604418534311723008) ≤ 710 / 1024 by rw [ab_le]; grind)
  obtain ⟨kl, e1, r1⟩ := mul_r nl nk (by grind)
  obtain ⟨kh, e2, r2⟩ := mul_r nk nh (by grind)
  have e3 : double.mul k 4461442080421002358 = some kl := by
    obtain ⟨m, i, a1, _⟩ := read_fin nk
    obtain ⟨n, j, a2, _⟩ := read_fin nl
    rw [← e1]; unfold Format.mul; rw [a1, a2]
    simp only [Datum.product]
    rw [Bool.xor_comm, Nat.mul_comm m n, Int.add_comm i j]
  refine ⟨kl, kh, e1, e2, e3, r1.fin, r2.fin, r1.abk 1 (1 / 1024) (by omega) (by decide +kernel) (by grind), ?_, fun c => ?_, fun c => ?_, fun c => ?_, fun c => ?_⟩
  · exact r2.abk 1024000 1000 (by omega) (by decide +kernel) (by grind)
  · refine r2.lok 709 (709 / 1024) (by omega) (by decide +kernel) ?_
    have a1 : (1 : Rat) ≤ (K : Rat) := by exact_mod_cast c
    rw [hK]
    have := Rat.mul_le_mul_of_nonneg_right a1 (show 0 ≤ val 4604418534311723008 by grind); grind
  · refine r2.hik (-709) (-(709 / 1024)) (by omega) (by decide +kernel) ?_
    have a1 : (K : Rat) ≤ ((-1 : Int) : Rat) := by exact_mod_cast c
    rw [show (((-1 : Int)) : Rat) = -1 by rfl] at a1
    rw [hK]
    have := Rat.mul_le_mul_of_nonneg_right a1 (show 0 ≤ val 4604418534311723008 by grind); grind
  · refine r2.lok (-710) (-(710 / 1024)) (by omega) (by decide +kernel) ?_
    have a1 : ((-1 : Int) : Rat) ≤ (K : Rat) := by exact_mod_cast c
    rw [show (((-1 : Int)) : Rat) = -1 by rfl] at a1
    rw [hK]
    have := Rat.mul_le_mul_of_nonneg_right a1 (show 0 ≤ val 4604418534311723008 by grind); grind
  · have : val k = 0 := by rw [hK, c]; rfl
    exact ⟨r2.zero (by rw [this]; simp), r1.zero (by rw [this]; simp)⟩

/-- A whole number as a float is itself. -/
theorem ofInt_val (n : Int) (h : n.natAbs ≤ 2 ^ 53) : Num (FloatKind.f64.nearest n) ∧ val (FloatKind.f64.nearest n) = (n : Rat) := by
  show Num (double.write (.number (n < 0) n.natAbs 0)) ∧ val (double.write (.number (n < 0) n.natAbs 0)) = (n : Rat)
  have hq : (n.natAbs : Rat) * pw 0 = ab (n : Rat) := by rw [pw_zero, Rat.mul_one, natAbs_rat]
  obtain ⟨w1, _, _⟩ := write_spec (decide (n < 0)) n.natAbs 0 (n : Rat) (fun h => by
      have : n = 0 := by omega
      rw [this]; rfl) (.inl (by rw [hq]; exact Sticky.refl _ _))
    (fun h => by
      have : 0 < n := by exact_mod_cast h
      simp; omega)
    (fun h => by
      have : n < 0 := by exact_mod_cast h
      simp [this])
  have hr := w1.rnd (by
    have h1 : (n.natAbs : Rat) ≤ ((2 ^ 53 : Nat) : Rat) := by exact_mod_cast h
    rw [← natAbs_rat]
    have h2 := pw_mono (show ((53 : Nat) : Int) ≤ 1023 by omega)
    rw [pw_nat] at h2; grind)
  refine ⟨hr.fin, hr.exact ?_⟩
  have := rep_int n 0 h (by omega) (by omega)
  rwa [pw_zero, Rat.mul_one] at this

/-- The reduction: x = (1 + f) 2 ^ K. -/
theorem reduce {x : Nat} (h0 : 0 < x) (hx : x < infR) : ∃ c k a g f, (if double.order 4604544271217802189 (x % 2 ^ 52 + 4602678819172646912) = some .lt then 0 else 4607182418800017408) = c ∧
    double.sub (FloatKind.f64.nearest (Int.ofNat (x / 2 ^ 52) - 1022)) c = some k ∧ double.add c 4607182418800017408 = some a ∧ double.mul (x % 2 ^ 52 + 4602678819172646912) a = some g ∧ double.sub g 4607182418800017408 = some f ∧
    Num k ∧ Num f ∧ ab (val f) ≤ 425 / 1024 ∧ ∃ K : Int, val k = (K : Rat) ∧ K.natAbs ≤ 1100 ∧ (K = 0 → val f = val x - 1 ∧ (0 < val f → pw (-1000) ≤ val f)) ∧ (K = 0 ∨ (1 ≤ K ∧ 1 < val x) ∨ (K ≤ -1 ∧ val x < 1)) ∧
      (1024 * 2 ^ 52 ≤ x → 1 ≤ K) ∧ (x ≤ 1022 * 2 ^ 52 → K ≤ -1) ∧ (1022 * 2 ^ 52 ≤ x → -1 ≤ K) := by
  obtain ⟨m, hm⟩ : ∃ m, m = x % 2 ^ 52 := ⟨_, rfl⟩
  obtain ⟨E, hE⟩ : ∃ E, E = x / 2 ^ 52 := ⟨_, rfl⟩
  have hxE : x = E * 2 ^ 52 + m := by omega
  have hm1 : m < 2 ^ 52 := by omega
  have hE1 : E ≤ 2046 := by unfold infR at hx; omega
  rw [← hm, ← hE, show Int.ofNat E = (E : Int) from rfl]
  obtain ⟨n1, v1⟩ := c_one
  -- f1
  have f1n := cst (w := m + 4602678819172646912) 1021 (2 ^ 52 + m) (by omega) (by omega) (by omega) (by unfold infR; omega)
  rw [show ((1021 : Nat) : Int) - 1074 = -53 by omega, uu_eq] at f1n
  obtain ⟨f1n, f1v⟩ := f1n
  obtain ⟨hn, hv⟩ := cst (w := 4604544271217802189) 1021 6369051672525773 (by decide) (by decide) (by decide) (by decide)
  rw [show ((1021 : Nat) : Int) - 1074 = -53 by omega, uu_eq] at hv
  have u0 := uu_pos
  have hlt : double.order 4604544271217802189 (m + 4602678819172646912) = some .lt ↔ 6369051672525773 < 2 ^ 52 + m := by
    rw [order_spec hn f1n, hv, f1v]
    unfold cmp
    have key : ((6369051672525773 : Nat) : Rat) * uu < ((2 ^ 52 + m : Nat) : Rat) * uu ↔ 6369051672525773 < 2 ^ 52 + m := by
      rw [Rat.mul_lt_mul_right u0]; exact Rat.natCast_lt_natCast
    by_cases c : 6369051672525773 < 2 ^ 52 + m
    · rw [if_pos (key.2 c)]; simp [c]
    · rw [if_neg (fun d => c (key.1 d))]
      simp only [c, iff_false]; split <;> simp
  -- k0
  obtain ⟨k0n, k0v⟩ := ofInt_val ((E : Int) - 1022) (by omega)
  have ki : ((E : Int) - 1022).natAbs ≤ 1024 := by omega
  have xv : val x = rv x := (word_pos hx).2
  by_cases hs : 6369051672525773 < 2 ^ 52 + m
  · -- f1 is above: k as it is
    rw [if_pos (hlt.2 hs)]
    obtain ⟨zn, zv⟩ : Num 0 ∧ val 0 = 0 := ⟨⟨by decide, by decide⟩, by unfold val; rw [if_neg (by decide)]; exact rv_zero⟩
    obtain ⟨k, ke, kr, _⟩ := sub_spec k0n zn
    rw [zv, k0v, show (((E : Int) - 1022 : Int) : Rat) - 0 = (((E : Int) - 1022 : Int) : Rat) by grind] at kr
    have kab : ab (((E : Int) - 1022 : Int) : Rat) ≤ 2000 := by
      rw [← natAbs_rat]
      have : (((E : Int) - 1022).natAbs : Rat) ≤ ((1024 : Nat) : Rat) := Rat.natCast_le_natCast.2 ki
      rw [show ((1024 : Nat) : Rat) = 1024 from rfl] at this; grind
    have krr := kr.rnd (big_ok kab)
    have kv := krr.exact (by have := rep_int ((E : Int) - 1022) 0 (by omega) (by omega) (by omega); rwa [pw_zero, Rat.mul_one] at this)
    obtain ⟨a, ae, ar⟩ := add_r zn n1 (by rw [zv, v1, ab_le]; grind)
    rw [zv, v1, Rat.zero_add] at ar
    have av := ar.exact rep1
    obtain ⟨g, ge, gr⟩ := mul_r f1n ar.fin (by
      rw [av, Rat.mul_one, f1v]
      have : ((2 ^ 52 + m : Nat) : Rat) ≤ ((2 ^ 53 : Nat) : Rat) := by exact_mod_cast (show 2 ^ 52 + m ≤ 2 ^ 53 by omega)
      rw [show ((2 ^ 53 : Nat) : Rat) = 9007199254740992 from rfl] at this
      have h2 : (0 : Rat) ≤ ((2 ^ 52 + m : Nat) : Rat) := by exact_mod_cast Nat.zero_le _
      rw [ab_le]; unfold uu; grind)
    rw [av, Rat.mul_one] at gr
    have gv := gr.exact f1n.rep
    -- f
    have hM : ((2 ^ 52 + m : Nat) : Rat) = 4503599627370496 + (m : Rat) := by rw [Rat.natCast_add]; rfl
    have hm2 : (m : Rat) ≤ 4503599627370495 := by exact_mod_cast (show m ≤ 4503599627370495 by omega)
    have hm3 : (1865452045155278 : Rat) ≤ (m : Rat) := by exact_mod_cast (show 1865452045155278 ≤ m by omega)
    have hq : val g - 1 = ((m : Rat) - 4503599627370496) * uu := by rw [gv, f1v, hM]; unfold uu; grind
    obtain ⟨f, fe, fr⟩ := sub_r gr.fin n1 (by rw [v1, hq, ab_le]; unfold uu; grind)
    rw [v1] at fr
    have frep : Rep (val g - 1) := by
      rw [hq, ← uu_eq]
      have := rep_int ((m : Int) - 4503599627370496) (-53) (by omega) (by omega) (by omega)
      rw [Rat.intCast_sub, Rat.intCast_natCast] at this
      exact this
    have fv := fr.exact frep
    have fb : ab (val f) ≤ 425 / 1024 := by rw [fv, hq, ab_le]; unfold uu; grind
    have fneg : val f < 0 := by rw [fv, hq]; unfold uu; grind
    refine ⟨0, k, a, g, f, rfl, ke, ae, ge, fe, krr.fin, fr.fin, fb, (E : Int) - 1022, kv, by omega, fun c => ⟨?_, fun d => by grind⟩, ?_, fun c => ?_, fun c => ?_, fun c => ?_⟩
    · have hE2 : E = 1022 := by omega
      have : rv x = ((2 ^ 52 + m : Nat) : Rat) * uu := by
        have := rv_unit 1021 (2 ^ 52 + m) (by omega) (.inr (by omega))
        rw [show 1021 * 2 ^ 52 + (2 ^ 52 + m) = x by omega, show ((1021 : Nat) : Int) - 1074 = -53 by omega, uu_eq] at this
        exact this
      rw [fv, gv, f1v, xv, this]
    · rcases Nat.lt_trichotomy E 1022 with c | c | c
      · right; right; refine ⟨by omega, ?_⟩
        rw [xv, ← rv_one, rv_lt_iff]; omega
      · left; omega
      · right; left; refine ⟨by omega, ?_⟩
        rw [xv, ← rv_one, rv_lt_iff]; omega
    · omega
    · omega
    · omega
  · -- f1 is doubled: k is one less
    rw [if_neg (fun c => hs (hlt.1 c))]
    obtain ⟨k, ke, kr, _⟩ := sub_spec k0n n1
    rw [v1, k0v, show (((E : Int) - 1022 : Int) : Rat) - 1 = (((E : Int) - 1023 : Int) : Rat) by
      rw [show ((E : Int) - 1023 : Int) = ((E : Int) - 1022) - 1 by omega, Rat.intCast_sub ((E : Int) - 1022) 1]; rfl] at kr
    have kab : ab (((E : Int) - 1023 : Int) : Rat) ≤ 2000 := by
      rw [← natAbs_rat]
      have : (((E : Int) - 1023).natAbs : Rat) ≤ ((1025 : Nat) : Rat) := Rat.natCast_le_natCast.2 (by omega)
      rw [show ((1025 : Nat) : Rat) = 1025 from rfl] at this; grind
    have krr := kr.rnd (big_ok kab)
    have kv := krr.exact (by have := rep_int ((E : Int) - 1023) 0 (by omega) (by omega) (by omega); rwa [pw_zero, Rat.mul_one] at this)
    obtain ⟨a, ae, ar⟩ := add_r n1 n1 (by rw [v1, ab_le]; grind)
    rw [v1, show (1 : Rat) + 1 = 2 by grind] at ar
    have av := ar.exact ⟨_, c_two.1, c_two.2⟩
    have hM : ((2 ^ 52 + m : Nat) : Rat) = 4503599627370496 + (m : Rat) := by rw [Rat.natCast_add]; rfl
    have hm0 : (0 : Rat) ≤ (m : Rat) := by exact_mod_cast Nat.zero_le m
    have hm3 : (m : Rat) ≤ 1865452045155277 := by exact_mod_cast (show m ≤ 1865452045155277 by omega)
    have hgq : val (m + 4602678819172646912) * 2 = ((2 ^ 52 + m : Nat) : Rat) * pw (-52) := by rw [f1v, pwm52]; grind
    obtain ⟨g, ge, gr⟩ := mul_r f1n ar.fin (by rw [av, hgq, hM, pwm52, ab_le]; unfold uu; grind)
    rw [av, hgq] at gr
    have gv := gr.exact (rep_nat _ _ (by omega) (by omega) (by omega))
    have hq : val g - 1 = (m : Rat) * pw (-52) := by rw [gv, hM, pwm52]; unfold uu; grind
    obtain ⟨f, fe, fr⟩ := sub_r gr.fin n1 (by rw [v1, hq, pwm52, ab_le]; unfold uu; grind)
    rw [v1] at fr
    have fv := fr.exact (by rw [hq]; exact rep_nat _ _ (by omega) (by omega) (by omega))
    have fb : ab (val f) ≤ 425 / 1024 := by rw [fv, hq, pwm52, ab_le]; unfold uu; grind
    refine ⟨4607182418800017408, k, a, g, f, rfl, ke, ae, ge, fe, krr.fin, fr.fin, fb, (E : Int) - 1023, kv, by omega, fun c => ⟨?_, fun d => ?_⟩, ?_, fun c => ?_, fun c => ?_, fun c => ?_⟩
    · have hE2 : E = 1023 := by omega
      have : rv x = ((2 ^ 52 + m : Nat) : Rat) * pw (-52) := by
        have := rv_unit 1022 (2 ^ 52 + m) (by omega) (.inr (by omega))
        rw [show 1022 * 2 ^ 52 + (2 ^ 52 + m) = x by omega, show ((1022 : Nat) : Int) - 1074 = -52 by omega] at this
        exact this
      rw [fv, gv, xv, this]
    · rw [fv, hq] at d ⊢
      have hp := pw_pos (-52)
      have d1 : (0 : Rat) < (m : Rat) := (Rat.mul_pos_iff_of_pos_right hp).1 d
      have d2 : 0 < m := by exact_mod_cast d1
      have d3 : (1 : Rat) ≤ (m : Rat) := by exact_mod_cast d2
      have d4 := Rat.mul_le_mul_of_nonneg_right d3 (Rat.le_of_lt hp)
      have d5 := pw_mono (show (-1000 : Int) ≤ -52 by omega)
      grind
    · rcases Nat.lt_trichotomy E 1023 with c | c | c
      · right; right; refine ⟨by omega, ?_⟩
        rw [xv, ← rv_one, rv_lt_iff]; omega
      · left; omega
      · right; left; refine ⟨by omega, ?_⟩
        rw [xv, ← rv_one, rv_lt_iff]; omega
    · omega
    · omega
    · omega
end Go.Proofs.Ytffflefdmhdhnaa.Flo
