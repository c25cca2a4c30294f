/- Log1p at a number greater than -1 that is not zero: by each way through its text the result is a number with the sign of the argument. -/
import Derived.Test.YtffflefdmhdhnaaLpW0
import Derived.Test.YtffflefdmhdhnaaLpW1
import Derived.Test.YtffflefdmhdhnaaLpW2
import Derived.Test.YtffflefdmhdhnaaLpW3
import Derived.Test.YtffflefdmhdhnaaLpW4
namespace Go.Proofs.Ytffflefdmhdhnaa
open Go.RowKit Flo Ieee

theorem lp_wrap {E : Nat} (h : E ≤ 2047) : IntKind.i64.wrap (IntKind.u64.wrap ((E : Int) - 1023)) = (E : Int) - 1023 := by
  rw [IntKind.wrap_i64]
  simp only [IntKind.wrap, IntKind.bits, IntKind.signed]
  simp
  omega
theorem lp_and {u : Nat} (h : u < 18446744073709551616) : bits .and .u64 (u : Int) 4503599627370495 = ((u % 4503599627370496 : Nat) : Int) := by
  have h3 := bits_and_u64_nat u 4503599627370495 h (by decide)
  rw [show ((4503599627370495 : Nat) : Int) = 4503599627370495 by rfl] at h3
  rw [h3, show (4503599627370495 : Nat) = 2 ^ 52 - 1 by decide, Nat.and_two_pow_sub_one_eq_mod, show (2 ^ 52 : Nat) = 4503599627370496 by decide]
theorem lp_or1 {m : Nat} (hm : m < 4503599627370496) : bits .or .u64 (m : Int) 4607182418800017408 = ((m + 4607182418800017408 : Nat) : Int) := by
  have h1 := u64_or_nat m 4607182418800017408 (by omega) (by decide)
  rw [show ((4607182418800017408 : Nat) : Int) = 4607182418800017408 by rfl] at h1
  have h2 : m ||| 4607182418800017408 = m + 4607182418800017408 := by
    have e4 : m < 2 ^ 52 := by omega
    rw [Nat.or_comm, show (4607182418800017408 : Nat) = 2 ^ 52 * 1023 by decide, ← Nat.two_pow_add_eq_or_of_lt e4, Nat.add_comm]
  rw [h1, h2]
theorem lp_or2 {m : Nat} (hm : m < 4503599627370496) : bits .or .u64 (m : Int) 4602678819172646912 = ((m + 4602678819172646912 : Nat) : Int) := by
  have h1 := u64_or_nat m 4602678819172646912 (by omega) (by decide)
  rw [show ((4602678819172646912 : Nat) : Int) = 4602678819172646912 by rfl] at h1
  have h2 : m ||| 4602678819172646912 = m + 4602678819172646912 := by
    have e4 : m < 2 ^ 52 := by omega
    rw [Nat.or_comm, show (4602678819172646912 : Nat) = 2 ^ 52 * 1022 by decide, ← Nat.two_pow_add_eq_or_of_lt e4, Nat.add_comm]
  rw [h1, h2]

set_option maxHeartbeats 1000000 in
theorem lp_N1F1 {x u d e c : Nat} (hx : Num x) (h0 : FloatKind.f64.format.order x 13830554455654793216 = some .gt)
    (hs : (FloatKind.f64.format.order (x % 9223372036854775808) 4601133428098527026 == some .lt) = false)
    (h5 : FloatKind.f64.format.order (x % 9223372036854775808) 4845873199050653696 = some .lt)
    (e0 : floatBits .add .f64 4607182418800017408 x = some u)
    (e1 : floatBits .sub .f64 u x = some d)
    (e2 : floatBits .sub .f64 4607182418800017408 d = some e)
    (e3 : floatBits .quo .f64 e u = some c)
    (nc : Num c) (bc : ab (val c) ≤ 1 / 1024)
    (hu0 : 4503599627370496 ≤ u) (hu : u < 9218868437227405312) (hk : 4611686018427387904 ≤ u) (_hp : 4608308318706860032 ≤ u ∨ u ≤ 4604930618986332160) :
    ∃ res, Num res ∧ (4608308318706860032 ≤ u → 0 < val res) ∧ (u ≤ 4604930618986332160 → val res < 0) ∧ ∀ w, Calls Try.prog 39 #[.float .f64 x] w (Ret (.float .f64 res) w) := by
  obtain ⟨f, nf, bf, hM⟩ := reduce1 u
  rw [show (2 ^ 52 : Nat) = 4503599627370496 by decide] at hM
  obtain ⟨h1, h, eh1, eh, nh, hh0, hh1, hh2, hh3⟩ := hf_part nf bf
  have hE : (u : Int) / 4503599627370496 = ((u / 4503599627370496 : Nat) : Int) := by omega
  have hw := lp_wrap (E := u / 4503599627370496) (by omega)
  have hand := lp_and (u := u) (by omega)
  have hml : u % 4503599627370496 < 4503599627370496 := by omega
  obtain ⟨tf, s, es1, es2, ns, bs, s0, s1⟩ := s_part nf bf
  obtain ⟨z, ez, nz, z0, z1⟩ := sq_part ns bs
  obtain ⟨q1, q2, q3, q4, q5, q6, q7, q8, q9, q10, q11, q12, R, rh, r1, r2, r3, r4, r5, r6, r7, r8, r9, r10, r11, r12, r13, r14, nrh, rh0, rh1⟩ := r1p_part nz z0 z1 nh hh0 hh1
  obtain ⟨mm, em, nm, bm, m0, m1⟩ := m_part ns bs nrh rh0 rh1
  rcases hM with ⟨hm, ef, fv⟩ | ⟨hm, ef, fn⟩
  · obtain ⟨kn, kv⟩ := ofInt_val (((u / 4503599627370496 : Nat) : Int) - 1023) (by omega)
    obtain ⟨kl, kh, _, ekh, ekl, nkl, nkh, bkl, bkh, k1, k2, _, _⟩ := k_part kn _ kv (by omega)
    obtain ⟨l, l', el, el', nl, nl', bl, bl'⟩ := low_part nkl bkl nc bc
    by_cases hz : u % 4503599627370496 = 0
    · have f0 : val f = 0 := by rw [fv, hz]; simp
      obtain ⟨res, er, nr, t1, t2⟩ := tailA nl' bl' nkh bkh
      refine ⟨res, nr, fun c => t1 (k1 (by omega)), fun c => t2 (k2 (by omega)), fun w => ?_⟩
      exact lpw_N1F1_M1_Ta _ _ _ _ _ _ _ _ _ _ _ _ _ _ _ _ _ _ _ w hx rfl h0 hs h5 (by omega)  hE rfl hw (by omega) (by omega) hand (by omega) (by omega) (by omega) (lp_or1 hml) (by simp; omega) (ord_eq nf fin_zero (by rw [f0, val_zero])) rfl (by simp; omega) e0 e1 e2 e3 ef eh1 eh ekl ekh el' er
    · obtain ⟨inner, d2, a2, res, ei, ed2, ea2, er, nr, _, t1, t2, _, _⟩ := fin_part nm bm nl (by grind) nh hh0 hh1 nf bf nkh bkh
      refine ⟨res, nr, fun c => by have := t1 (k1 (by omega)); grind, fun c => by have := t2 (k2 (by omega)); grind, fun w => ?_⟩
      exact lpw_N1F1_M1_TcK _ _ _ _ _ _ _ _ _ _ _ _ _ _ _ _ _ _ _ _ _ _ _ _ _ _ _ _ _ _ _ _ _ _ _ _ _ _ _ _ w hx rfl h0 hs h5 (by omega)  hE rfl hw (by omega) (by omega) hand (by omega) (by omega) (by omega) (lp_or1 hml) (by simp; omega) rfl (by simp; omega) e0 e1 e2 e3 ef eh1 eh ekl ekh es1 es2 ez r1 r2 r3 r4 r5 r6 r7 r8 r9 r10 r11 r12 r13 r14 em el ei ed2 ea2 er
  · obtain ⟨kn, kv⟩ := ofInt_val (((u / 4503599627370496 : Nat) : Int) - 1023 + 1) (by omega)
    obtain ⟨kl, kh, _, ekh, ekl, nkl, nkh, bkl, bkh, k1, k2, _, _⟩ := k_part kn _ kv (by omega)
    obtain ⟨l, l', el, el', nl, nl', bl, bl'⟩ := low_part nkl bkl nc bc
    by_cases hz : (4503599627370496 - ((u % 4503599627370496 : Nat) : Int)) / 4 = 0
    · obtain ⟨t, o, R', d2, a2, res, et, eo, eR, ed2, ea2, er, nr, t1, t2⟩ := tailB nl bl nh hh0 hh1 nf bf nkh bkh
      refine ⟨res, nr, fun c => t1 (k1 (by omega)), fun c => t2 (k2 (by omega)), fun w => ?_⟩
      exact lpw_N1F1_M2_Tb _ _ _ _ _ _ _ _ _ _ _ _ _ _ _ _ _ _ _ _ _ _ _ _ w hx rfl h0 hs h5 (by omega)  hE rfl hw (by omega) (by omega) hand (by omega) (by omega) (by omega) (lp_or2 hml) (by rw [hz]; rfl) (ord_ne' nf fin_zero (by rw [val_zero]; grind)) rfl (by simp; omega) e0 e1 e2 e3 ef eh1 eh ekl ekh et eo eR el ed2 ea2 er
    · obtain ⟨inner, d2, a2, res, ei, ed2, ea2, er, nr, _, t1, t2, _, _⟩ := fin_part nm bm nl (by grind) nh hh0 hh1 nf bf nkh bkh
      refine ⟨res, nr, fun c => by have := t1 (k1 (by omega)); grind, fun c => by have := t2 (k2 (by omega)); grind, fun w => ?_⟩
      exact lpw_N1F1_M2_TcK _ _ _ _ _ _ _ _ _ _ _ _ _ _ _ _ _ _ _ _ _ _ _ _ _ _ _ _ _ _ _ _ _ _ _ _ _ _ _ _ w hx rfl h0 hs h5 (by omega)  hE rfl hw (by omega) (by omega) hand (by omega) (by omega) (by omega) (lp_or2 hml) (by simp; exact hz) rfl (by simp; omega) e0 e1 e2 e3 ef eh1 eh ekl ekh es1 es2 ez r1 r2 r3 r4 r5 r6 r7 r8 r9 r10 r11 r12 r13 r14 em el ei ed2 ea2 er

set_option maxHeartbeats 1000000 in
theorem lp_N1F2 {x u d e c : Nat} (hx : Num x) (h0 : FloatKind.f64.format.order x 13830554455654793216 = some .gt)
    (hs : (FloatKind.f64.format.order (x % 9223372036854775808) 4601133428098527026 == some .lt) = false)
    (h5 : FloatKind.f64.format.order (x % 9223372036854775808) 4845873199050653696 = some .lt)
    (e0 : floatBits .add .f64 4607182418800017408 x = some u)
    (e1 : floatBits .sub .f64 u 4607182418800017408 = some d)
    (e2 : floatBits .sub .f64 x d = some e)
    (e3 : floatBits .quo .f64 e u = some c)
    (nc : Num c) (bc : ab (val c) ≤ 1 / 1024)
    (hu0 : 4503599627370496 ≤ u) (hu : u < 9218868437227405312) (hk : u < 4611686018427387904) (hp : 4608308318706860032 ≤ u ∨ u ≤ 4604930618986332160) :
    ∃ res, Num res ∧ (4608308318706860032 ≤ u → 0 < val res) ∧ (u ≤ 4604930618986332160 → val res < 0) ∧ ∀ w, Calls Try.prog 39 #[.float .f64 x] w (Ret (.float .f64 res) w) := by
  obtain ⟨f, nf, bf, hM⟩ := reduce1 u
  rw [show (2 ^ 52 : Nat) = 4503599627370496 by decide] at hM
  obtain ⟨h1, h, eh1, eh, nh, hh0, hh1, hh2, hh3⟩ := hf_part nf bf
  have hE : (u : Int) / 4503599627370496 = ((u / 4503599627370496 : Nat) : Int) := by omega
  have hw := lp_wrap (E := u / 4503599627370496) (by omega)
  have hand := lp_and (u := u) (by omega)
  have hml : u % 4503599627370496 < 4503599627370496 := by omega
  obtain ⟨tf, s, es1, es2, ns, bs, s0, s1⟩ := s_part nf bf
  obtain ⟨z, ez, nz, z0, z1⟩ := sq_part ns bs
  obtain ⟨q1, q2, q3, q4, q5, q6, q7, q8, q9, q10, q11, q12, R, rh, r1, r2, r3, r4, r5, r6, r7, r8, r9, r10, r11, r12, r13, r14, nrh, rh0, rh1⟩ := r1p_part nz z0 z1 nh hh0 hh1
  obtain ⟨mm, em, nm, bm, m0, m1⟩ := m_part ns bs nrh rh0 rh1
  rcases hM with ⟨hm, ef, fv⟩ | ⟨hm, ef, fn⟩
  · obtain ⟨kn, kv⟩ := ofInt_val (((u / 4503599627370496 : Nat) : Int) - 1023) (by omega)
    obtain ⟨kl, kh, _, ekh, ekl, nkl, nkh, bkl, bkh, k1, k2, _, _⟩ := k_part kn _ kv (by omega)
    obtain ⟨l, l', el, el', nl, nl', bl, bl'⟩ := low_part nkl bkl nc bc
    by_cases hz : u % 4503599627370496 = 0
    · have f0 : val f = 0 := by rw [fv, hz]; simp
      obtain ⟨res, er, nr, t1, t2⟩ := tailA nl' bl' nkh bkh
      refine ⟨res, nr, fun c => t1 (k1 (by omega)), fun c => t2 (k2 (by omega)), fun w => ?_⟩
      exact lpw_N1F2_M1_Ta _ _ _ _ _ _ _ _ _ _ _ _ _ _ _ _ _ _ _ w hx rfl h0 hs h5 (by omega)  hE rfl hw (by omega) (by omega) hand (by omega) (by omega) (by omega) (lp_or1 hml) (by simp; omega) (ord_eq nf fin_zero (by rw [f0, val_zero])) rfl (by simp; omega) e0 e1 e2 e3 ef eh1 eh ekl ekh el' er
    · by_cases hK : (((u / 4503599627370496 : Nat) : Int) - 1023) = 0
      · obtain ⟨d2, res, ed2, er, nr, t1, t2⟩ := tail0 nm bm nh hh0 hh1 nf bf
        have fp : 0 < val f := by rw [fv]; exact Rat.mul_pos (by exact_mod_cast (show 0 < u % 4503599627370496 by omega)) (pw_pos _)
        have fp2 : pw (-1000) ≤ val f := by
          have g1 : ((1 : Nat) : Rat) ≤ ((u % 4503599627370496 : Nat) : Rat) := Rat.natCast_le_natCast.2 (by omega)
          have g2 := Rat.mul_le_mul_of_nonneg_right g1 (Rat.le_of_lt (pw_pos (-52)))
          have g3 := pw_mono (show (-1000 : Int) ≤ -52 by omega)
          rw [← fv, show ((1 : Nat) : Rat) = 1 from rfl, Rat.one_mul] at g2
          exact Rat.le_trans g3 g2
        refine ⟨res, nr, fun c => t1 fp (m0 (s0 (Rat.le_of_lt fp))) (hh2 fp2), fun c => absurd hK (by omega), fun w => ?_⟩
        exact lpw_N1F2_M1_Tc0 _ _ _ _ _ _ _ _ _ _ _ _ _ _ _ _ _ _ _ _ _ _ _ _ _ _ _ _ _ _ _ _ _ _ w hx rfl h0 hs h5 (by omega)  hE rfl hw (by omega) (by omega) hand (by omega) (by omega) (by omega) (lp_or1 hml) (by simp; omega) (by rw [hK]; rfl) e0 e1 e2 e3 ef eh1 eh es1 es2 ez r1 r2 r3 r4 r5 r6 r7 r8 r9 r10 r11 r12 r13 r14 em ed2 er
      · obtain ⟨inner, d2, a2, res, ei, ed2, ea2, er, nr, _, t1, t2, _, _⟩ := fin_part nm bm nl (by grind) nh hh0 hh1 nf bf nkh bkh
        refine ⟨res, nr, fun c => by have := t1 (k1 (by omega)); grind, fun c => by have := t2 (k2 (by omega)); grind, fun w => ?_⟩
        exact lpw_N1F2_M1_TcK _ _ _ _ _ _ _ _ _ _ _ _ _ _ _ _ _ _ _ _ _ _ _ _ _ _ _ _ _ _ _ _ _ _ _ _ _ _ _ _ w hx rfl h0 hs h5 (by omega)  hE rfl hw (by omega) (by omega) hand (by omega) (by omega) (by omega) (lp_or1 hml) (by simp; omega) rfl (by simp; omega) e0 e1 e2 e3 ef eh1 eh ekl ekh es1 es2 ez r1 r2 r3 r4 r5 r6 r7 r8 r9 r10 r11 r12 r13 r14 em el ei ed2 ea2 er
  · obtain ⟨kn, kv⟩ := ofInt_val (((u / 4503599627370496 : Nat) : Int) - 1023 + 1) (by omega)
    obtain ⟨kl, kh, _, ekh, ekl, nkl, nkh, bkl, bkh, k1, k2, _, _⟩ := k_part kn _ kv (by omega)
    obtain ⟨l, l', el, el', nl, nl', bl, bl'⟩ := low_part nkl bkl nc bc
    by_cases hz : (4503599627370496 - ((u % 4503599627370496 : Nat) : Int)) / 4 = 0
    · obtain ⟨t, o, R', d2, a2, res, et, eo, eR, ed2, ea2, er, nr, t1, t2⟩ := tailB nl bl nh hh0 hh1 nf bf nkh bkh
      refine ⟨res, nr, fun c => t1 (k1 (by omega)), fun c => t2 (k2 (by omega)), fun w => ?_⟩
      exact lpw_N1F2_M2_Tb _ _ _ _ _ _ _ _ _ _ _ _ _ _ _ _ _ _ _ _ _ _ _ _ w hx rfl h0 hs h5 (by omega)  hE rfl hw (by omega) (by omega) hand (by omega) (by omega) (by omega) (lp_or2 hml) (by rw [hz]; rfl) (ord_ne' nf fin_zero (by rw [val_zero]; grind)) rfl (by simp; omega) e0 e1 e2 e3 ef eh1 eh ekl ekh et eo eR el ed2 ea2 er
    · by_cases hK : (((u / 4503599627370496 : Nat) : Int) - 1023 + 1) = 0
      · obtain ⟨d2, res, ed2, er, nr, t1, t2⟩ := tail0 nm bm nh hh0 hh1 nf bf
        refine ⟨res, nr, fun c => absurd hK (by omega), fun c => t2 fn (m1 (s1 (Rat.le_of_lt fn))), fun w => ?_⟩
        exact lpw_N1F2_M2_Tc0 _ _ _ _ _ _ _ _ _ _ _ _ _ _ _ _ _ _ _ _ _ _ _ _ _ _ _ _ _ _ _ _ _ _ w hx rfl h0 hs h5 (by omega)  hE rfl hw (by omega) (by omega) hand (by omega) (by omega) (by omega) (lp_or2 hml) (by simp; exact hz) (by rw [hK]; rfl) e0 e1 e2 e3 ef eh1 eh es1 es2 ez r1 r2 r3 r4 r5 r6 r7 r8 r9 r10 r11 r12 r13 r14 em ed2 er
      · obtain ⟨inner, d2, a2, res, ei, ed2, ea2, er, nr, _, t1, t2, _, _⟩ := fin_part nm bm nl (by grind) nh hh0 hh1 nf bf nkh bkh
        refine ⟨res, nr, fun c => by have := t1 (k1 (by omega)); grind, fun c => by have := t2 (k2 (by omega)); grind, fun w => ?_⟩
        exact lpw_N1F2_M2_TcK _ _ _ _ _ _ _ _ _ _ _ _ _ _ _ _ _ _ _ _ _ _ _ _ _ _ _ _ _ _ _ _ _ _ _ _ _ _ _ _ w hx rfl h0 hs h5 (by omega)  hE rfl hw (by omega) (by omega) hand (by omega) (by omega) (by omega) (lp_or2 hml) (by simp; exact hz) rfl (by simp; omega) e0 e1 e2 e3 ef eh1 eh ekl ekh es1 es2 ez r1 r2 r3 r4 r5 r6 r7 r8 r9 r10 r11 r12 r13 r14 em el ei ed2 ea2 er

set_option maxHeartbeats 1000000 in
theorem lp_N2F2 {x u d e c : Nat} (hx : Num x) (h0 : FloatKind.f64.format.order x 13830554455654793216 = some .gt)
    (hs : FloatKind.f64.format.order (x % 9223372036854775808) 4601133428098527026 = some .lt)
    (hs2 : (FloatKind.f64.format.order (x % 9223372036854775808) 4476578029606273024 == some .lt) = false)
    (hs3 : (FloatKind.f64.format.order x 13822319951937112167 == some .gt) = false)
    (h5 : FloatKind.f64.format.order (x % 9223372036854775808) 4845873199050653696 = some .lt)
    (e0 : floatBits .add .f64 4607182418800017408 x = some u)
    (e1 : floatBits .sub .f64 u 4607182418800017408 = some d)
    (e2 : floatBits .sub .f64 x d = some e)
    (e3 : floatBits .quo .f64 e u = some c)
    (nc : Num c) (bc : ab (val c) ≤ 1 / 1024)
    (hu0 : 4503599627370496 ≤ u) (hu : u < 9218868437227405312) (hk : u < 4611686018427387904) (hp : 4608308318706860032 ≤ u ∨ u ≤ 4604930618986332160) :
    ∃ res, Num res ∧ (4608308318706860032 ≤ u → 0 < val res) ∧ (u ≤ 4604930618986332160 → val res < 0) ∧ ∀ w, Calls Try.prog 39 #[.float .f64 x] w (Ret (.float .f64 res) w) := by
  obtain ⟨f, nf, bf, hM⟩ := reduce1 u
  rw [show (2 ^ 52 : Nat) = 4503599627370496 by decide] at hM
  obtain ⟨h1, h, eh1, eh, nh, hh0, hh1, hh2, hh3⟩ := hf_part nf bf
  have hE : (u : Int) / 4503599627370496 = ((u / 4503599627370496 : Nat) : Int) := by omega
  have hw := lp_wrap (E := u / 4503599627370496) (by omega)
  have hand := lp_and (u := u) (by omega)
  have hml : u % 4503599627370496 < 4503599627370496 := by omega
  obtain ⟨tf, s, es1, es2, ns, bs, s0, s1⟩ := s_part nf bf
  obtain ⟨z, ez, nz, z0, z1⟩ := sq_part ns bs
  obtain ⟨q1, q2, q3, q4, q5, q6, q7, q8, q9, q10, q11, q12, R, rh, r1, r2, r3, r4, r5, r6, r7, r8, r9, r10, r11, r12, r13, r14, nrh, rh0, rh1⟩ := r1p_part nz z0 z1 nh hh0 hh1
  obtain ⟨mm, em, nm, bm, m0, m1⟩ := m_part ns bs nrh rh0 rh1
  rcases hM with ⟨hm, ef, fv⟩ | ⟨hm, ef, fn⟩
  · obtain ⟨kn, kv⟩ := ofInt_val (((u / 4503599627370496 : Nat) : Int) - 1023) (by omega)
    obtain ⟨kl, kh, _, ekh, ekl, nkl, nkh, bkl, bkh, k1, k2, _, _⟩ := k_part kn _ kv (by omega)
    obtain ⟨l, l', el, el', nl, nl', bl, bl'⟩ := low_part nkl bkl nc bc
    by_cases hz : u % 4503599627370496 = 0
    · have f0 : val f = 0 := by rw [fv, hz]; simp
      obtain ⟨res, er, nr, t1, t2⟩ := tailA nl' bl' nkh bkh
      refine ⟨res, nr, fun c => t1 (k1 (by omega)), fun c => t2 (k2 (by omega)), fun w => ?_⟩
      exact lpw_N2F2_M1_Ta _ _ _ _ _ _ _ _ _ _ _ _ _ _ _ _ _ _ _ w hx rfl h0 hs hs2 hs3 h5 (by omega)  hE rfl hw (by omega) (by omega) hand (by omega) (by omega) (by omega) (lp_or1 hml) (by simp; omega) (ord_eq nf fin_zero (by rw [f0, val_zero])) rfl (by simp; omega) e0 e1 e2 e3 ef eh1 eh ekl ekh el' er
    · by_cases hK : (((u / 4503599627370496 : Nat) : Int) - 1023) = 0
      · obtain ⟨d2, res, ed2, er, nr, t1, t2⟩ := tail0 nm bm nh hh0 hh1 nf bf
        have fp : 0 < val f := by rw [fv]; exact Rat.mul_pos (by exact_mod_cast (show 0 < u % 4503599627370496 by omega)) (pw_pos _)
        have fp2 : pw (-1000) ≤ val f := by
          have g1 : ((1 : Nat) : Rat) ≤ ((u % 4503599627370496 : Nat) : Rat) := Rat.natCast_le_natCast.2 (by omega)
          have g2 := Rat.mul_le_mul_of_nonneg_right g1 (Rat.le_of_lt (pw_pos (-52)))
          have g3 := pw_mono (show (-1000 : Int) ≤ -52 by omega)
          rw [← fv, show ((1 : Nat) : Rat) = 1 from rfl, Rat.one_mul] at g2
          exact Rat.le_trans g3 g2
        refine ⟨res, nr, fun c => t1 fp (m0 (s0 (Rat.le_of_lt fp))) (hh2 fp2), fun c => absurd hK (by omega), fun w => ?_⟩
        exact lpw_N2F2_M1_Tc0 _ _ _ _ _ _ _ _ _ _ _ _ _ _ _ _ _ _ _ _ _ _ _ _ _ _ _ _ _ _ _ _ _ _ w hx rfl h0 hs hs2 hs3 h5 (by omega)  hE rfl hw (by omega) (by omega) hand (by omega) (by omega) (by omega) (lp_or1 hml) (by simp; omega) (by rw [hK]; rfl) e0 e1 e2 e3 ef eh1 eh es1 es2 ez r1 r2 r3 r4 r5 r6 r7 r8 r9 r10 r11 r12 r13 r14 em ed2 er
      · obtain ⟨inner, d2, a2, res, ei, ed2, ea2, er, nr, _, t1, t2, _, _⟩ := fin_part nm bm nl (by grind) nh hh0 hh1 nf bf nkh bkh
        refine ⟨res, nr, fun c => by have := t1 (k1 (by omega)); grind, fun c => by have := t2 (k2 (by omega)); grind, fun w => ?_⟩
        exact lpw_N2F2_M1_TcK _ _ _ _ _ _ _ _ _ _ _ _ _ _ _ _ _ _ _ _ _ _ _ _ _ _ _ _ _ _ _ _ _ _ _ _ _ _ _ _ w hx rfl h0 hs hs2 hs3 h5 (by omega)  hE rfl hw (by omega) (by omega) hand (by omega) (by omega) (by omega) (lp_or1 hml) (by simp; omega) rfl (by simp; omega) e0 e1 e2 e3 ef eh1 eh ekl ekh es1 es2 ez r1 r2 r3 r4 r5 r6 r7 r8 r9 r10 r11 r12 r13 r14 em el ei ed2 ea2 er
  · obtain ⟨kn, kv⟩ := ofInt_val (((u / 4503599627370496 : Nat) : Int) - 1023 + 1) (by omega)
    obtain ⟨kl, kh, _, ekh, ekl, nkl, nkh, bkl, bkh, k1, k2, _, _⟩ := k_part kn _ kv (by omega)
    obtain ⟨l, l', el, el', nl, nl', bl, bl'⟩ := low_part nkl bkl nc bc
    by_cases hz : (4503599627370496 - ((u % 4503599627370496 : Nat) : Int)) / 4 = 0
    · obtain ⟨t, o, R', d2, a2, res, et, eo, eR, ed2, ea2, er, nr, t1, t2⟩ := tailB nl bl nh hh0 hh1 nf bf nkh bkh
      refine ⟨res, nr, fun c => t1 (k1 (by omega)), fun c => t2 (k2 (by omega)), fun w => ?_⟩
      exact lpw_N2F2_M2_Tb _ _ _ _ _ _ _ _ _ _ _ _ _ _ _ _ _ _ _ _ _ _ _ _ w hx rfl h0 hs hs2 hs3 h5 (by omega)  hE rfl hw (by omega) (by omega) hand (by omega) (by omega) (by omega) (lp_or2 hml) (by rw [hz]; rfl) (ord_ne' nf fin_zero (by rw [val_zero]; grind)) rfl (by simp; omega) e0 e1 e2 e3 ef eh1 eh ekl ekh et eo eR el ed2 ea2 er
    · by_cases hK : (((u / 4503599627370496 : Nat) : Int) - 1023 + 1) = 0
      · obtain ⟨d2, res, ed2, er, nr, t1, t2⟩ := tail0 nm bm nh hh0 hh1 nf bf
        refine ⟨res, nr, fun c => absurd hK (by omega), fun c => t2 fn (m1 (s1 (Rat.le_of_lt fn))), fun w => ?_⟩
        exact lpw_N2F2_M2_Tc0 _ _ _ _ _ _ _ _ _ _ _ _ _ _ _ _ _ _ _ _ _ _ _ _ _ _ _ _ _ _ _ _ _ _ w hx rfl h0 hs hs2 hs3 h5 (by omega)  hE rfl hw (by omega) (by omega) hand (by omega) (by omega) (by omega) (lp_or2 hml) (by simp; exact hz) (by rw [hK]; rfl) e0 e1 e2 e3 ef eh1 eh es1 es2 ez r1 r2 r3 r4 r5 r6 r7 r8 r9 r10 r11 r12 r13 r14 em ed2 er
      · obtain ⟨inner, d2, a2, res, ei, ed2, ea2, er, nr, _, t1, t2, _, _⟩ := fin_part nm bm nl (by grind) nh hh0 hh1 nf bf nkh bkh
        refine ⟨res, nr, fun c => by have := t1 (k1 (by omega)); grind, fun c => by have := t2 (k2 (by omega)); grind, fun w => ?_⟩
        exact lpw_N2F2_M2_TcK _ _ _ _ _ _ _ _ _ _ _ _ _ _ _ _ _ _ _ _ _ _ _ _ _ _ _ _ _ _ _ _ _ _ _ _ _ _ _ _ w hx rfl h0 hs hs2 hs3 h5 (by omega)  hE rfl hw (by omega) (by omega) hand (by omega) (by omega) (by omega) (lp_or2 hml) (by simp; exact hz) rfl (by simp; omega) e0 e1 e2 e3 ef eh1 eh ekl ekh es1 es2 ez r1 r2 r3 r4 r5 r6 r7 r8 r9 r10 r11 r12 r13 r14 em el ei ed2 ea2 er

set_option maxHeartbeats 1000000 in
theorem lp_N1F3 {x : Nat} (hx : Num x) (h0 : FloatKind.f64.format.order x 13830554455654793216 = some .gt)
    (hs : (FloatKind.f64.format.order (x % 9223372036854775808) 4601133428098527026 == some .lt) = false)
    (h5 : (FloatKind.f64.format.order (x % 9223372036854775808) 4845873199050653696 == some .lt) = false)
    (hu0 : 4503599627370496 ≤ x) (hu : x < 9218868437227405312) (hk : 4611686018427387904 ≤ x) (_hp : 4608308318706860032 ≤ x ∨ x ≤ 4604930618986332160) :
    ∃ res, Num res ∧ (4608308318706860032 ≤ x → 0 < val res) ∧ (x ≤ 4604930618986332160 → val res < 0) ∧ ∀ w, Calls Try.prog 39 #[.float .f64 x] w (Ret (.float .f64 res) w) := by
  have nc : Num 0 := fin_zero
  have bc : ab (val 0) ≤ 1 / 1024 := by rw [val_zero, ab_le]; exact ⟨by decide +kernel, by decide +kernel⟩
  obtain ⟨f, nf, bf, hM⟩ := reduce1 x
  rw [show (2 ^ 52 : Nat) = 4503599627370496 by decide] at hM
  obtain ⟨h1, h, eh1, eh, nh, hh0, hh1, hh2, hh3⟩ := hf_part nf bf
  have hE : (x : Int) / 4503599627370496 = ((x / 4503599627370496 : Nat) : Int) := by omega
  have hw := lp_wrap (E := x / 4503599627370496) (by omega)
  have hand := lp_and (u := x) (by omega)
  have hml : x % 4503599627370496 < 4503599627370496 := by omega
  obtain ⟨tf, s, es1, es2, ns, bs, s0, s1⟩ := s_part nf bf
  obtain ⟨z, ez, nz, z0, z1⟩ := sq_part ns bs
  obtain ⟨q1, q2, q3, q4, q5, q6, q7, q8, q9, q10, q11, q12, R, rh, r1, r2, r3, r4, r5, r6, r7, r8, r9, r10, r11, r12, r13, r14, nrh, rh0, rh1⟩ := r1p_part nz z0 z1 nh hh0 hh1
  obtain ⟨mm, em, nm, bm, m0, m1⟩ := m_part ns bs nrh rh0 rh1
  rcases hM with ⟨hm, ef, fv⟩ | ⟨hm, ef, fn⟩
  · obtain ⟨kn, kv⟩ := ofInt_val (((x / 4503599627370496 : Nat) : Int) - 1023) (by omega)
    obtain ⟨kl, kh, _, ekh, ekl, nkl, nkh, bkl, bkh, k1, k2, _, _⟩ := k_part kn _ kv (by omega)
    obtain ⟨l, l', el, el', nl, nl', bl, bl'⟩ := low_part nkl bkl nc bc
    by_cases hz : x % 4503599627370496 = 0
    · have f0 : val f = 0 := by rw [fv, hz]; simp
      obtain ⟨res, er, nr, t1, t2⟩ := tailA nl' bl' nkh bkh
      refine ⟨res, nr, fun c => t1 (k1 (by omega)), fun c => t2 (k2 (by omega)), fun w => ?_⟩
      exact lpw_N1F3_M1_Ta _ _ _ _ _ _ _ _ _ _ _ _ _ _ _ w hx rfl h0 hs h5 (by omega)  hE rfl hw (by omega) (by omega) hand (by omega) (by omega) (by omega) (lp_or1 hml) (by simp; omega) (ord_eq nf fin_zero (by rw [f0, val_zero])) rfl (by simp; omega)  ef eh1 eh ekl ekh el' er
    · obtain ⟨inner, d2, a2, res, ei, ed2, ea2, er, nr, _, t1, t2, _, _⟩ := fin_part nm bm nl (by grind) nh hh0 hh1 nf bf nkh bkh
      refine ⟨res, nr, fun c => by have := t1 (k1 (by omega)); grind, fun c => by have := t2 (k2 (by omega)); grind, fun w => ?_⟩
      exact lpw_N1F3_M1_TcK _ _ _ _ _ _ _ _ _ _ _ _ _ _ _ _ _ _ _ _ _ _ _ _ _ _ _ _ _ _ _ _ _ _ _ _ w hx rfl h0 hs h5 (by omega)  hE rfl hw (by omega) (by omega) hand (by omega) (by omega) (by omega) (lp_or1 hml) (by simp; omega) rfl (by simp; omega)  ef eh1 eh ekl ekh es1 es2 ez r1 r2 r3 r4 r5 r6 r7 r8 r9 r10 r11 r12 r13 r14 em el ei ed2 ea2 er
  · obtain ⟨kn, kv⟩ := ofInt_val (((x / 4503599627370496 : Nat) : Int) - 1023 + 1) (by omega)
    obtain ⟨kl, kh, _, ekh, ekl, nkl, nkh, bkl, bkh, k1, k2, _, _⟩ := k_part kn _ kv (by omega)
    obtain ⟨l, l', el, el', nl, nl', bl, bl'⟩ := low_part nkl bkl nc bc
    by_cases hz : (4503599627370496 - ((x % 4503599627370496 : Nat) : Int)) / 4 = 0
    · obtain ⟨t, o, R', d2, a2, res, et, eo, eR, ed2, ea2, er, nr, t1, t2⟩ := tailB nl bl nh hh0 hh1 nf bf nkh bkh
      refine ⟨res, nr, fun c => t1 (k1 (by omega)), fun c => t2 (k2 (by omega)), fun w => ?_⟩
      exact lpw_N1F3_M2_Tb _ _ _ _ _ _ _ _ _ _ _ _ _ _ _ _ _ _ _ _ w hx rfl h0 hs h5 (by omega)  hE rfl hw (by omega) (by omega) hand (by omega) (by omega) (by omega) (lp_or2 hml) (by rw [hz]; rfl) (ord_ne' nf fin_zero (by rw [val_zero]; grind)) rfl (by simp; omega)  ef eh1 eh ekl ekh et eo eR el ed2 ea2 er
    · obtain ⟨inner, d2, a2, res, ei, ed2, ea2, er, nr, _, t1, t2, _, _⟩ := fin_part nm bm nl (by grind) nh hh0 hh1 nf bf nkh bkh
      refine ⟨res, nr, fun c => by have := t1 (k1 (by omega)); grind, fun c => by have := t2 (k2 (by omega)); grind, fun w => ?_⟩
      exact lpw_N1F3_M2_TcK _ _ _ _ _ _ _ _ _ _ _ _ _ _ _ _ _ _ _ _ _ _ _ _ _ _ _ _ _ _ _ _ _ _ _ _ w hx rfl h0 hs h5 (by omega)  hE rfl hw (by omega) (by omega) hand (by omega) (by omega) (by omega) (lp_or2 hml) (by simp; exact hz) rfl (by simp; omega)  ef eh1 eh ekl ekh es1 es2 ez r1 r2 r3 r4 r5 r6 r7 r8 r9 r10 r11 r12 r13 r14 em el ei ed2 ea2 er
end Go.Proofs.Ytffflefdmhdhnaa
