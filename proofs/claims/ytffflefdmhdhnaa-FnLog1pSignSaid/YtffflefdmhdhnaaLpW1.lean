/- The walk of math.log1p at a number: by the way N1F1. -/
import Derived.Test.YtffflefdmhdhnaaLpC
namespace Go.Proofs.Ytffflefdmhdhnaa
open Go.RowKit Flo Ieee

set_option maxRecDepth 100000 in
set_option maxHeartbeats 8000000 in
theorem lpw_N1F1_M1_Ta (x ax u d e c u1 f h1 h kf kl kh l res : Nat) (E kw k m : Int) (w : World) (hx : Num x) (ha : x % 9223372036854775808 = ax) (h0 : FloatKind.f64.format.order x 13830554455654793216 = some .gt)
    (hs : (FloatKind.f64.format.order ax 4601133428098527026 == some .lt) = false)
    (h5 : FloatKind.f64.format.order ax 4845873199050653696 = some .lt)
    (_hk0 : 0 < k)
    (hE : (u : Int) / 4503599627370496 = E)
    (hkw : IntKind.u64.wrap (E - 1023) = kw)
    (hkk : IntKind.i64.wrap kw = k)
    (_hk1 : -1100 ≤ k)
    (_hk2 : k ≤ 1100)
    (hm : bits .and .u64 (u : Int) 4503599627370495 = m)
    (_hm0 : 0 ≤ m)
    (_hm4 : m ≤ 4503599627370495)
    (_hm1 : m < 1865452045155277)
    (ho : bits .or .u64 m 4607182418800017408 = (u1 : Int))
    (hiu : (m == 0) = true)
    (hfz : FloatKind.f64.format.order f 0 = some .eq)
    (hkf : floatOfInt .f64 k = kf)
    (hkz : (k == 0) = false)
    (e0 : floatBits .add .f64 4607182418800017408 x = some u)
    (e1 : floatBits .sub .f64 u x = some d)
    (e2 : floatBits .sub .f64 4607182418800017408 d = some e)
    (e3 : floatBits .quo .f64 e u = some c)
    (e4 : floatBits .sub .f64 u1 4607182418800017408 = some f)
    (e5 : floatBits .mul .f64 4602678819172646912 f = some h1)
    (e6 : floatBits .mul .f64 h1 f = some h)
    (e7 : floatBits .mul .f64 kf 4461442080421002358 = some kl)
    (e8 : floatBits .mul .f64 kf 4604418534311723008 = some kh)
    (e9 : floatBits .add .f64 c kl = some l)
    (e10 : floatBits .add .f64 kh l = some res)
    : Calls Try.prog 39 #[.float .f64 x] w (Ret (.float .f64 res) w) := by
  have HN := Lib.hid (isNaN_not x · hx.1 (fin_not_nan hx))
  have HI := Lib.hid (fun w => mathIsInf1 x w false (ord_max hx))
  have HA := Lib.hid (abs_any x · hx.1)
  rw [ha] at HA
  clear hx ha
  have hb := bits_run
  have hf := frombits_run
  have o0 := fun t w => run_float_arith (P := Try.prog) w .add t .f64 _ _ _ e0
  have o1 := fun t w => run_float_arith (P := Try.prog) w .sub t .f64 _ _ _ e1
  have o2 := fun t w => run_float_arith (P := Try.prog) w .sub t .f64 _ _ _ e2
  have o3 := fun t w => run_float_arith (P := Try.prog) w .quo t .f64 _ _ _ e3
  have o4 := fun t w => run_float_arith (P := Try.prog) w .sub t .f64 _ _ _ e4
  have o5 := fun t w => run_float_arith (P := Try.prog) w .mul t .f64 _ _ _ e5
  have o6 := fun t w => run_float_arith (P := Try.prog) w .mul t .f64 _ _ _ e6
  have o7 := fun t w => run_float_arith (P := Try.prog) w .mul t .f64 _ _ _ e7
  have o8 := fun t w => run_float_arith (P := Try.prog) w .mul t .f64 _ _ _ e8
  have o9 := fun t w => run_float_arith (P := Try.prog) w .add t .f64 _ _ _ e9
  have o10 := fun t w => run_float_arith (P := Try.prog) w .add t .f64 _ _ _ e10
  clear e0 e1 e2 e3 e4 e5 e6 e7 e8 e9 e10
  go_enter Try.func39, Try.ntmps39
  go_wp2_with (first | (go_at_call 46; refine (HN.out _).mono ?_; rintro e w' ⟨rfl, q, rfl⟩) | (go_at_call 48; refine (HI.out _).mono ?_; rintro e w' ⟨rfl, q, rfl⟩) | (go_at_call 49; refine (HA.out _).mono ?_; rintro e w' ⟨rfl, q, rfl⟩))
  go_ret
  exact ⟨rfl, _, rfl⟩

set_option maxRecDepth 100000 in
set_option maxHeartbeats 8000000 in
theorem lpw_N1F1_M1_TcK (x ax u d e c u1 f h1 h kf kl kh tf s z q1 q2 q3 q4 q5 q6 q7 q8 q9 q10 q11 q12 R rh mm l inner d2 a2 res : Nat) (E kw k m : Int) (w : World) (hx : Num x) (ha : x % 9223372036854775808 = ax) (h0 : FloatKind.f64.format.order x 13830554455654793216 = some .gt)
    (hs : (FloatKind.f64.format.order ax 4601133428098527026 == some .lt) = false)
    (h5 : FloatKind.f64.format.order ax 4845873199050653696 = some .lt)
    (_hk0 : 0 < k)
    (hE : (u : Int) / 4503599627370496 = E)
    (hkw : IntKind.u64.wrap (E - 1023) = kw)
    (hkk : IntKind.i64.wrap kw = k)
    (_hk1 : -1100 ≤ k)
    (_hk2 : k ≤ 1100)
    (hm : bits .and .u64 (u : Int) 4503599627370495 = m)
    (_hm0 : 0 ≤ m)
    (_hm4 : m ≤ 4503599627370495)
    (_hm1 : m < 1865452045155277)
    (ho : bits .or .u64 m 4607182418800017408 = (u1 : Int))
    (hiu : (m == 0) = false)
    (hkf : floatOfInt .f64 k = kf)
    (hkz : (k == 0) = false)
    (e0 : floatBits .add .f64 4607182418800017408 x = some u)
    (e1 : floatBits .sub .f64 u x = some d)
    (e2 : floatBits .sub .f64 4607182418800017408 d = some e)
    (e3 : floatBits .quo .f64 e u = some c)
    (e4 : floatBits .sub .f64 u1 4607182418800017408 = some f)
    (e5 : floatBits .mul .f64 4602678819172646912 f = some h1)
    (e6 : floatBits .mul .f64 h1 f = some h)
    (e7 : floatBits .mul .f64 kf 4461442080421002358 = some kl)
    (e8 : floatBits .mul .f64 kf 4604418534311723008 = some kh)
    (e9 : floatBits .add .f64 4611686018427387904 f = some tf)
    (e10 : floatBits .quo .f64 f tf = some s)
    (e11 : floatBits .mul .f64 s s = some z)
    (e12 : floatBits .mul .f64 z 4594499633228436036 = some q1)
    (e13 : floatBits .add .f64 4594685411790997151 q1 = some q2)
    (e14 : floatBits .mul .f64 z q2 = some q3)
    (e15 : floatBits .add .f64 4595719342595441630 q3 = some q4)
    (e16 : floatBits .mul .f64 z q4 = some q5)
    (e17 : floatBits .add .f64 4597174411056806063 q5 = some q6)
    (e18 : floatBits .mul .f64 z q6 = some q7)
    (e19 : floatBits .add .f64 4598818590951641945 q7 = some q8)
    (e20 : floatBits .mul .f64 z q8 = some q9)
    (e21 : floatBits .add .f64 4600877379321592324 q9 = some q10)
    (e22 : floatBits .mul .f64 z q10 = some q11)
    (e23 : floatBits .add .f64 4604180019048437139 q11 = some q12)
    (e24 : floatBits .mul .f64 z q12 = some R)
    (e25 : floatBits .add .f64 h R = some rh)
    (e26 : floatBits .mul .f64 s rh = some mm)
    (e27 : floatBits .add .f64 kl c = some l)
    (e28 : floatBits .add .f64 mm l = some inner)
    (e29 : floatBits .sub .f64 h inner = some d2)
    (e30 : floatBits .sub .f64 d2 f = some a2)
    (e31 : floatBits .sub .f64 kh a2 = some res)
    : Calls Try.prog 39 #[.float .f64 x] w (Ret (.float .f64 res) w) := by
  have HN := Lib.hid (isNaN_not x · hx.1 (fin_not_nan hx))
  have HI := Lib.hid (fun w => mathIsInf1 x w false (ord_max hx))
  have HA := Lib.hid (abs_any x · hx.1)
  rw [ha] at HA
  clear hx ha
  have hb := bits_run
  have hf := frombits_run
  have o0 := fun t w => run_float_arith (P := Try.prog) w .add t .f64 _ _ _ e0
  have o1 := fun t w => run_float_arith (P := Try.prog) w .sub t .f64 _ _ _ e1
  have o2 := fun t w => run_float_arith (P := Try.prog) w .sub t .f64 _ _ _ e2
  have o3 := fun t w => run_float_arith (P := Try.prog) w .quo t .f64 _ _ _ e3
  have o4 := fun t w => run_float_arith (P := Try.prog) w .sub t .f64 _ _ _ e4
  have o5 := fun t w => run_float_arith (P := Try.prog) w .mul t .f64 _ _ _ e5
  have o6 := fun t w => run_float_arith (P := Try.prog) w .mul t .f64 _ _ _ e6
  have o7 := fun t w => run_float_arith (P := Try.prog) w .mul t .f64 _ _ _ e7
  have o8 := fun t w => run_float_arith (P := Try.prog) w .mul t .f64 _ _ _ e8
  have o9 := fun t w => run_float_arith (P := Try.prog) w .add t .f64 _ _ _ e9
  have o10 := fun t w => run_float_arith (P := Try.prog) w .quo t .f64 _ _ _ e10
  have o11 := fun t w => run_float_arith (P := Try.prog) w .mul t .f64 _ _ _ e11
  have o12 := fun t w => run_float_arith (P := Try.prog) w .mul t .f64 _ _ _ e12
  have o13 := fun t w => run_float_arith (P := Try.prog) w .add t .f64 _ _ _ e13
  have o14 := fun t w => run_float_arith (P := Try.prog) w .mul t .f64 _ _ _ e14
  have o15 := fun t w => run_float_arith (P := Try.prog) w .add t .f64 _ _ _ e15
  have o16 := fun t w => run_float_arith (P := Try.prog) w .mul t .f64 _ _ _ e16
  have o17 := fun t w => run_float_arith (P := Try.prog) w .add t .f64 _ _ _ e17
  have o18 := fun t w => run_float_arith (P := Try.prog) w .mul t .f64 _ _ _ e18
  have o19 := fun t w => run_float_arith (P := Try.prog) w .add t .f64 _ _ _ e19
  have o20 := fun t w => run_float_arith (P := Try.prog) w .mul t .f64 _ _ _ e20
  have o21 := fun t w => run_float_arith (P := Try.prog) w .add t .f64 _ _ _ e21
  have o22 := fun t w => run_float_arith (P := Try.prog) w .mul t .f64 _ _ _ e22
  have o23 := fun t w => run_float_arith (P := Try.prog) w .add t .f64 _ _ _ e23
  have o24 := fun t w => run_float_arith (P := Try.prog) w .mul t .f64 _ _ _ e24
  have o25 := fun t w => run_float_arith (P := Try.prog) w .add t .f64 _ _ _ e25
  have o26 := fun t w => run_float_arith (P := Try.prog) w .mul t .f64 _ _ _ e26
  have o27 := fun t w => run_float_arith (P := Try.prog) w .add t .f64 _ _ _ e27
  have o28 := fun t w => run_float_arith (P := Try.prog) w .add t .f64 _ _ _ e28
  have o29 := fun t w => run_float_arith (P := Try.prog) w .sub t .f64 _ _ _ e29
  have o30 := fun t w => run_float_arith (P := Try.prog) w .sub t .f64 _ _ _ e30
  have o31 := fun t w => run_float_arith (P := Try.prog) w .sub t .f64 _ _ _ e31
  clear e0 e1 e2 e3 e4 e5 e6 e7 e8 e9 e10 e11 e12 e13 e14 e15 e16 e17 e18 e19 e20 e21 e22 e23 e24 e25 e26 e27 e28 e29 e30 e31
  go_enter Try.func39, Try.ntmps39
  go_wp2_with (first | (go_at_call 46; refine (HN.out _).mono ?_; rintro e w' ⟨rfl, q, rfl⟩) | (go_at_call 48; refine (HI.out _).mono ?_; rintro e w' ⟨rfl, q, rfl⟩) | (go_at_call 49; refine (HA.out _).mono ?_; rintro e w' ⟨rfl, q, rfl⟩))
  go_ret
  exact ⟨rfl, _, rfl⟩

set_option maxRecDepth 100000 in
set_option maxHeartbeats 8000000 in
theorem lpw_N1F1_M2_Tb (x ax u d e c u1 f h1 h kf kl kh t o R l d2 a2 res : Nat) (E kw k m : Int) (w : World) (hx : Num x) (ha : x % 9223372036854775808 = ax) (h0 : FloatKind.f64.format.order x 13830554455654793216 = some .gt)
    (hs : (FloatKind.f64.format.order ax 4601133428098527026 == some .lt) = false)
    (h5 : FloatKind.f64.format.order ax 4845873199050653696 = some .lt)
    (_hk0 : 0 < k)
    (hE : (u : Int) / 4503599627370496 = E)
    (hkw : IntKind.u64.wrap (E - 1023) = kw)
    (hkk : IntKind.i64.wrap kw = k)
    (_hk1 : -1100 ≤ k)
    (_hk2 : k ≤ 1100)
    (hm : bits .and .u64 (u : Int) 4503599627370495 = m)
    (_hm0 : 0 ≤ m)
    (_hm4 : m ≤ 4503599627370495)
    (_hm1 : 1865452045155277 ≤ m)
    (ho : bits .or .u64 m 4602678819172646912 = (u1 : Int))
    (hiu : ((4503599627370496 - m) / 4 == 0) = true)
    (hfz : (FloatKind.f64.format.order f 0 == some .eq) = false)
    (hkf : floatOfInt .f64 (k + 1) = kf)
    (hkz : (k + 1 == 0) = false)
    (e0 : floatBits .add .f64 4607182418800017408 x = some u)
    (e1 : floatBits .sub .f64 u x = some d)
    (e2 : floatBits .sub .f64 4607182418800017408 d = some e)
    (e3 : floatBits .quo .f64 e u = some c)
    (e4 : floatBits .sub .f64 u1 4607182418800017408 = some f)
    (e5 : floatBits .mul .f64 4602678819172646912 f = some h1)
    (e6 : floatBits .mul .f64 h1 f = some h)
    (e7 : floatBits .mul .f64 kf 4461442080421002358 = some kl)
    (e8 : floatBits .mul .f64 kf 4604418534311723008 = some kh)
    (e9 : floatBits .mul .f64 4604180019048437077 f = some t)
    (e10 : floatBits .sub .f64 4607182418800017408 t = some o)
    (e11 : floatBits .mul .f64 h o = some R)
    (e12 : floatBits .add .f64 kl c = some l)
    (e13 : floatBits .sub .f64 R l = some d2)
    (e14 : floatBits .sub .f64 d2 f = some a2)
    (e15 : floatBits .sub .f64 kh a2 = some res)
    : Calls Try.prog 39 #[.float .f64 x] w (Ret (.float .f64 res) w) := by
  have HN := Lib.hid (isNaN_not x · hx.1 (fin_not_nan hx))
  have HI := Lib.hid (fun w => mathIsInf1 x w false (ord_max hx))
  have HA := Lib.hid (abs_any x · hx.1)
  rw [ha] at HA
  clear hx ha
  have hb := bits_run
  have hf := frombits_run
  have o0 := fun t w => run_float_arith (P := Try.prog) w .add t .f64 _ _ _ e0
  have o1 := fun t w => run_float_arith (P := Try.prog) w .sub t .f64 _ _ _ e1
  have o2 := fun t w => run_float_arith (P := Try.prog) w .sub t .f64 _ _ _ e2
  have o3 := fun t w => run_float_arith (P := Try.prog) w .quo t .f64 _ _ _ e3
  have o4 := fun t w => run_float_arith (P := Try.prog) w .sub t .f64 _ _ _ e4
  have o5 := fun t w => run_float_arith (P := Try.prog) w .mul t .f64 _ _ _ e5
  have o6 := fun t w => run_float_arith (P := Try.prog) w .mul t .f64 _ _ _ e6
  have o7 := fun t w => run_float_arith (P := Try.prog) w .mul t .f64 _ _ _ e7
  have o8 := fun t w => run_float_arith (P := Try.prog) w .mul t .f64 _ _ _ e8
  have o9 := fun t w => run_float_arith (P := Try.prog) w .mul t .f64 _ _ _ e9
  have o10 := fun t w => run_float_arith (P := Try.prog) w .sub t .f64 _ _ _ e10
  have o11 := fun t w => run_float_arith (P := Try.prog) w .mul t .f64 _ _ _ e11
  have o12 := fun t w => run_float_arith (P := Try.prog) w .add t .f64 _ _ _ e12
  have o13 := fun t w => run_float_arith (P := Try.prog) w .sub t .f64 _ _ _ e13
  have o14 := fun t w => run_float_arith (P := Try.prog) w .sub t .f64 _ _ _ e14
  have o15 := fun t w => run_float_arith (P := Try.prog) w .sub t .f64 _ _ _ e15
  clear e0 e1 e2 e3 e4 e5 e6 e7 e8 e9 e10 e11 e12 e13 e14 e15
  go_enter Try.func39, Try.ntmps39
  go_wp2_with (first | (go_at_call 46; refine (HN.out _).mono ?_; rintro e w' ⟨rfl, q, rfl⟩) | (go_at_call 48; refine (HI.out _).mono ?_; rintro e w' ⟨rfl, q, rfl⟩) | (go_at_call 49; refine (HA.out _).mono ?_; rintro e w' ⟨rfl, q, rfl⟩))
  go_ret
  exact ⟨rfl, _, rfl⟩

set_option maxRecDepth 100000 in
set_option maxHeartbeats 8000000 in
theorem lpw_N1F1_M2_TcK (x ax u d e c u1 f h1 h kf kl kh tf s z q1 q2 q3 q4 q5 q6 q7 q8 q9 q10 q11 q12 R rh mm l inner d2 a2 res : Nat) (E kw k m : Int) (w : World) (hx : Num x) (ha : x % 9223372036854775808 = ax) (h0 : FloatKind.f64.format.order x 13830554455654793216 = some .gt)
    (hs : (FloatKind.f64.format.order ax 4601133428098527026 == some .lt) = false)
    (h5 : FloatKind.f64.format.order ax 4845873199050653696 = some .lt)
    (_hk0 : 0 < k)
    (hE : (u : Int) / 4503599627370496 = E)
    (hkw : IntKind.u64.wrap (E - 1023) = kw)
    (hkk : IntKind.i64.wrap kw = k)
    (_hk1 : -1100 ≤ k)
    (_hk2 : k ≤ 1100)
    (hm : bits .and .u64 (u : Int) 4503599627370495 = m)
    (_hm0 : 0 ≤ m)
    (_hm4 : m ≤ 4503599627370495)
    (_hm1 : 1865452045155277 ≤ m)
    (ho : bits .or .u64 m 4602678819172646912 = (u1 : Int))
    (hiu : ((4503599627370496 - m) / 4 == 0) = false)
    (hkf : floatOfInt .f64 (k + 1) = kf)
    (hkz : (k + 1 == 0) = false)
    (e0 : floatBits .add .f64 4607182418800017408 x = some u)
    (e1 : floatBits .sub .f64 u x = some d)
    (e2 : floatBits .sub .f64 4607182418800017408 d = some e)
    (e3 : floatBits .quo .f64 e u = some c)
    (e4 : floatBits .sub .f64 u1 4607182418800017408 = some f)
    (e5 : floatBits .mul .f64 4602678819172646912 f = some h1)
    (e6 : floatBits .mul .f64 h1 f = some h)
    (e7 : floatBits .mul .f64 kf 4461442080421002358 = some kl)
    (e8 : floatBits .mul .f64 kf 4604418534311723008 = some kh)
    (e9 : floatBits .add .f64 4611686018427387904 f = some tf)
    (e10 : floatBits .quo .f64 f tf = some s)
    (e11 : floatBits .mul .f64 s s = some z)
    (e12 : floatBits .mul .f64 z 4594499633228436036 = some q1)
    (e13 : floatBits .add .f64 4594685411790997151 q1 = some q2)
    (e14 : floatBits .mul .f64 z q2 = some q3)
    (e15 : floatBits .add .f64 4595719342595441630 q3 = some q4)
    (e16 : floatBits .mul .f64 z q4 = some q5)
    (e17 : floatBits .add .f64 4597174411056806063 q5 = some q6)
    (e18 : floatBits .mul .f64 z q6 = some q7)
    (e19 : floatBits .add .f64 4598818590951641945 q7 = some q8)
    (e20 : floatBits .mul .f64 z q8 = some q9)
    (e21 : floatBits .add .f64 4600877379321592324 q9 = some q10)
    (e22 : floatBits .mul .f64 z q10 = some q11)
    (e23 : floatBits .add .f64 4604180019048437139 q11 = some q12)
    (e24 : floatBits .mul .f64 z q12 = some R)
    (e25 : floatBits .add .f64 h R = some rh)
    (e26 : floatBits .mul .f64 s rh = some mm)
    (e27 : floatBits .add .f64 kl c = some l)
    (e28 : floatBits .add .f64 mm l = some inner)
    (e29 : floatBits .sub .f64 h inner = some d2)
    (e30 : floatBits .sub .f64 d2 f = some a2)
    (e31 : floatBits .sub .f64 kh a2 = some res)
    : Calls Try.prog 39 #[.float .f64 x] w (Ret (.float .f64 res) w) := by
  have HN := Lib.hid (isNaN_not x · hx.1 (fin_not_nan hx))
  have HI := Lib.hid (fun w => mathIsInf1 x w false (ord_max hx))
  have HA := Lib.hid (abs_any x · hx.1)
  rw [ha] at HA
  clear hx ha
  have hb := bits_run
  have hf := frombits_run
  have o0 := fun t w => run_float_arith (P := Try.prog) w .add t .f64 _ _ _ e0
  have o1 := fun t w => run_float_arith (P := Try.prog) w .sub t .f64 _ _ _ e1
  have o2 := fun t w => run_float_arith (P := Try.prog) w .sub t .f64 _ _ _ e2
  have o3 := fun t w => run_float_arith (P := Try.prog) w .quo t .f64 _ _ _ e3
  have o4 := fun t w => run_float_arith (P := Try.prog) w .sub t .f64 _ _ _ e4
  have o5 := fun t w => run_float_arith (P := Try.prog) w .mul t .f64 _ _ _ e5
  have o6 := fun t w => run_float_arith (P := Try.prog) w .mul t .f64 _ _ _ e6
  have o7 := fun t w => run_float_arith (P := Try.prog) w .mul t .f64 _ _ _ e7
  have o8 := fun t w => run_float_arith (P := Try.prog) w .mul t .f64 _ _ _ e8
  have o9 := fun t w => run_float_arith (P := Try.prog) w .add t .f64 _ _ _ e9
  have o10 := fun t w => run_float_arith (P := Try.prog) w .quo t .f64 _ _ _ e10
  have o11 := fun t w => run_float_arith (P := Try.prog) w .mul t .f64 _ _ _ e11
  have o12 := fun t w => run_float_arith (P := Try.prog) w .mul t .f64 _ _ _ e12
  have o13 := fun t w => run_float_arith (P := Try.prog) w .add t .f64 _ _ _ e13
  have o14 := fun t w => run_float_arith (P := Try.prog) w .mul t .f64 _ _ _ e14
  have o15 := fun t w => run_float_arith (P := Try.prog) w .add t .f64 _ _ _ e15
  have o16 := fun t w => run_float_arith (P := Try.prog) w .mul t .f64 _ _ _ e16
  have o17 := fun t w => run_float_arith (P := Try.prog) w .add t .f64 _ _ _ e17
  have o18 := fun t w => run_float_arith (P := Try.prog) w .mul t .f64 _ _ _ e18
  have o19 := fun t w => run_float_arith (P := Try.prog) w .add t .f64 _ _ _ e19
  have o20 := fun t w => run_float_arith (P := Try.prog) w .mul t .f64 _ _ _ e20
  have o21 := fun t w => run_float_arith (P := Try.prog) w .add t .f64 _ _ _ e21
  have o22 := fun t w => run_float_arith (P := Try.prog) w .mul t .f64 _ _ _ e22
  have o23 := fun t w => run_float_arith (P := Try.prog) w .add t .f64 _ _ _ e23
  have o24 := fun t w => run_float_arith (P := Try.prog) w .mul t .f64 _ _ _ e24
  have o25 := fun t w => run_float_arith (P := Try.prog) w .add t .f64 _ _ _ e25
  have o26 := fun t w => run_float_arith (P := Try.prog) w .mul t .f64 _ _ _ e26
  have o27 := fun t w => run_float_arith (P := Try.prog) w .add t .f64 _ _ _ e27
  have o28 := fun t w => run_float_arith (P := Try.prog) w .add t .f64 _ _ _ e28
  have o29 := fun t w => run_float_arith (P := Try.prog) w .sub t .f64 _ _ _ e29
  have o30 := fun t w => run_float_arith (P := Try.prog) w .sub t .f64 _ _ _ e30
  have o31 := fun t w => run_float_arith (P := Try.prog) w .sub t .f64 _ _ _ e31
  clear e0 e1 e2 e3 e4 e5 e6 e7 e8 e9 e10 e11 e12 e13 e14 e15 e16 e17 e18 e19 e20 e21 e22 e23 e24 e25 e26 e27 e28 e29 e30 e31
  go_enter Try.func39, Try.ntmps39
  go_wp2_with (first | (go_at_call 46; refine (HN.out _).mono ?_; rintro e w' ⟨rfl, q, rfl⟩) | (go_at_call 48; refine (HI.out _).mono ?_; rintro e w' ⟨rfl, q, rfl⟩) | (go_at_call 49; refine (HA.out _).mono ?_; rintro e w' ⟨rfl, q, rfl⟩))
  go_ret
  exact ⟨rfl, _, rfl⟩
end Go.Proofs.Ytffflefdmhdhnaa
