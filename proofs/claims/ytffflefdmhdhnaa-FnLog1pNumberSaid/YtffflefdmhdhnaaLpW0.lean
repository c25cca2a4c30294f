/- The walk of math.log1p at a number: where it is small. -/
import Derived.Test.YtffflefdmhdhnaaLpC
namespace Go.Proofs.Ytffflefdmhdhnaa
open Go.RowKit Flo Ieee

set_option maxRecDepth 100000 in
set_option maxHeartbeats 8000000 in
theorem lpw_small (x ax t1 t2 res : Nat) (w : World) (hx : Num x) (ha : x % 9223372036854775808 = ax) (h0 : FloatKind.f64.format.order x 13830554455654793216 = some .gt)
    (hs : FloatKind.f64.format.order ax 4601133428098527026 = some .lt)
    (hs2 : FloatKind.f64.format.order ax 4476578029606273024 = some .lt)
    (hs3 : (FloatKind.f64.format.order ax 4363988038922010624 == some .lt) = false)
    (e0 : floatBits .mul .f64 x x = some t1)
    (e1 : floatBits .mul .f64 t1 4602678819172646912 = some t2)
    (e2 : floatBits .sub .f64 x t2 = some res)
    : Calls Try.prog 39 #[.float .f64 x] w (Ret (.float .f64 res) w) := by
  have HN := Lib.hid (isNaN_not x · hx.1 (fin_not_nan hx))
  have HI := Lib.hid (fun w => mathIsInf1 x w false (ord_max hx))
  have HA := Lib.hid (abs_any x · hx.1)
  rw [ha] at HA
  clear hx ha
  have hb := bits_run
  have hf := frombits_run
  have o0 := fun t w => run_float_arith (P := Try.prog) w .mul t .f64 _ _ _ e0
  have o1 := fun t w => run_float_arith (P := Try.prog) w .mul t .f64 _ _ _ e1
  have o2 := fun t w => run_float_arith (P := Try.prog) w .sub t .f64 _ _ _ e2
  clear e0 e1 e2
  go_enter Try.func39, Try.ntmps39
  go_wp2_with (first | (go_at_call 46; refine (HN.out _).mono ?_; rintro e w' ⟨rfl, q, rfl⟩) | (go_at_call 48; refine (HI.out _).mono ?_; rintro e w' ⟨rfl, q, rfl⟩) | (go_at_call 49; refine (HA.out _).mono ?_; rintro e w' ⟨rfl, q, rfl⟩))
  go_ret
  exact ⟨rfl, _, rfl⟩

set_option maxRecDepth 100000 in
set_option maxHeartbeats 8000000 in
theorem lpw_mid (x ax h1 h tf s z q1 q2 q3 q4 q5 q6 q7 q8 q9 q10 q11 q12 R rh mm d2 res : Nat) (w : World) (hx : Num x) (ha : x % 9223372036854775808 = ax) (h0 : FloatKind.f64.format.order x 13830554455654793216 = some .gt)
    (hs : FloatKind.f64.format.order ax 4601133428098527026 = some .lt)
    (hs2 : (FloatKind.f64.format.order ax 4476578029606273024 == some .lt) = false)
    (hs3 : FloatKind.f64.format.order x 13822319951937112167 = some .gt)
    (e0 : floatBits .mul .f64 4602678819172646912 x = some h1)
    (e1 : floatBits .mul .f64 h1 x = some h)
    (e2 : floatBits .add .f64 4611686018427387904 x = some tf)
    (e3 : floatBits .quo .f64 x tf = some s)
    (e4 : floatBits .mul .f64 s s = some z)
    (e5 : floatBits .mul .f64 z 4594499633228436036 = some q1)
    (e6 : floatBits .add .f64 4594685411790997151 q1 = some q2)
    (e7 : floatBits .mul .f64 z q2 = some q3)
    (e8 : floatBits .add .f64 4595719342595441630 q3 = some q4)
    (e9 : floatBits .mul .f64 z q4 = some q5)
    (e10 : floatBits .add .f64 4597174411056806063 q5 = some q6)
    (e11 : floatBits .mul .f64 z q6 = some q7)
    (e12 : floatBits .add .f64 4598818590951641945 q7 = some q8)
    (e13 : floatBits .mul .f64 z q8 = some q9)
    (e14 : floatBits .add .f64 4600877379321592324 q9 = some q10)
    (e15 : floatBits .mul .f64 z q10 = some q11)
    (e16 : floatBits .add .f64 4604180019048437139 q11 = some q12)
    (e17 : floatBits .mul .f64 z q12 = some R)
    (e18 : floatBits .add .f64 h R = some rh)
    (e19 : floatBits .mul .f64 s rh = some mm)
    (e20 : floatBits .sub .f64 h mm = some d2)
    (e21 : floatBits .sub .f64 x d2 = some res)
    : Calls Try.prog 39 #[.float .f64 x] w (Ret (.float .f64 res) w) := by
  have HN := Lib.hid (isNaN_not x · hx.1 (fin_not_nan hx))
  have HI := Lib.hid (fun w => mathIsInf1 x w false (ord_max hx))
  have HA := Lib.hid (abs_any x · hx.1)
  rw [ha] at HA
  clear hx ha
  have hb := bits_run
  have hf := frombits_run
  have o0 := fun t w => run_float_arith (P := Try.prog) w .mul t .f64 _ _ _ e0
  have o1 := fun t w => run_float_arith (P := Try.prog) w .mul t .f64 _ _ _ e1
  have o2 := fun t w => run_float_arith (P := Try.prog) w .add t .f64 _ _ _ e2
  have o3 := fun t w => run_float_arith (P := Try.prog) w .quo t .f64 _ _ _ e3
  have o4 := fun t w => run_float_arith (P := Try.prog) w .mul t .f64 _ _ _ e4
  have o5 := fun t w => run_float_arith (P := Try.prog) w .mul t .f64 _ _ _ e5
  have o6 := fun t w => run_float_arith (P := Try.prog) w .add t .f64 _ _ _ e6
  have o7 := fun t w => run_float_arith (P := Try.prog) w .mul t .f64 _ _ _ e7
  have o8 := fun t w => run_float_arith (P := Try.prog) w .add t .f64 _ _ _ e8
  have o9 := fun t w => run_float_arith (P := Try.prog) w .mul t .f64 _ _ _ e9
  have o10 := fun t w => run_float_arith (P := Try.prog) w .add t .f64 _ _ _ e10
  have o11 := fun t w => run_float_arith (P := Try.prog) w .mul t .f64 _ _ _ e11
  have o12 := fun t w => run_float_arith (P := Try.prog) w .add t .f64 _ _ _ e12
  have o13 := fun t w => run_float_arith (P := Try.prog) w .mul t .f64 _ _ _ e13
  have o14 := fun t w => run_float_arith (P := Try.prog) w .add t .f64 _ _ _ e14
  have o15 := fun t w => run_float_arith (P := Try.prog) w .mul t .f64 _ _ _ e15
  have o16 := fun t w => run_float_arith (P := Try.prog) w .add t .f64 _ _ _ e16
  have o17 := fun t w => run_float_arith (P := Try.prog) w .mul t .f64 _ _ _ e17
  have o18 := fun t w => run_float_arith (P := Try.prog) w .add t .f64 _ _ _ e18
  have o19 := fun t w => run_float_arith (P := Try.prog) w .mul t .f64 _ _ _ e19
  have o20 := fun t w => run_float_arith (P := Try.prog) w .sub t .f64 _ _ _ e20
  have o21 := fun t w => run_float_arith (P := Try.prog) w .sub t .f64 _ _ _ e21
  clear e0 e1 e2 e3 e4 e5 e6 e7 e8 e9 e10 e11 e12 e13 e14 e15 e16 e17 e18 e19 e20 e21
  go_enter Try.func39, Try.ntmps39
  go_wp2_with (first | (go_at_call 46; refine (HN.out _).mono ?_; rintro e w' ⟨rfl, q, rfl⟩) | (go_at_call 48; refine (HI.out _).mono ?_; rintro e w' ⟨rfl, q, rfl⟩) | (go_at_call 49; refine (HA.out _).mono ?_; rintro e w' ⟨rfl, q, rfl⟩))
  go_ret
  exact ⟨rfl, _, rfl⟩
end Go.Proofs.Ytffflefdmhdhnaa
