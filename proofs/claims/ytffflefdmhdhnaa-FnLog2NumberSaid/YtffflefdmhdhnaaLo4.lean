/- What the model's archLog gives: at a positive number a number with the right sign. -/
import Derived.Test.YtffflefdmhdhnaaMath
import Derived.Test.YtffflefdmhdhnaaLo3
namespace Go.Proofs.Ytffflefdmhdhnaa
open Go.RowKit Flo Ieee

/-- The computation of archLog at a positive number, word by word. -/
structure LogRun (x res : Nat) : Prop where
  run : ∃ c k a g f tf s s2 s4 p1 p2 p3 p4 p5 p6 t1 u1 u2 u3 u4 t2 R h1 h rh m kl inner d b kh,
    (if double.order 4604544271217802189 (x % 2 ^ 52 + 4602678819172646912) = some .lt then 0 else 4607182418800017408) = c ∧ double.sub (FloatKind.f64.nearest (Int.ofNat (x / 2 ^ 52) - 1022)) c = some k ∧ double.add c 4607182418800017408 = some a ∧ double.mul (x % 2 ^ 52 + 4602678819172646912) a = some g ∧ double.sub g 4607182418800017408 = some f ∧
    double.add 4611686018427387904 f = some tf ∧ double.div f tf = some s ∧ double.mul s s = some s2 ∧ double.mul s2 s2 = some s4 ∧
    double.mul 4594499633228436036 s4 = some p1 ∧ double.add p1 4595719342595441630 = some p2 ∧ double.mul p2 s4 = some p3 ∧ double.add p3 4598818590951641945 = some p4 ∧ double.mul p4 s4 = some p5 ∧ double.add p5 4604180019048437139 = some p6 ∧ double.mul s2 p6 = some t1 ∧
    double.mul 4594685411790997151 s4 = some u1 ∧ double.add u1 4597174411056806063 = some u2 ∧ double.mul u2 s4 = some u3 ∧ double.add u3 4600877379321592324 = some u4 ∧ double.mul s4 u4 = some t2 ∧ double.add t1 t2 = some R ∧
    double.mul 4602678819172646912 f = some h1 ∧ double.mul h1 f = some h ∧ double.add R h = some rh ∧ double.mul s rh = some m ∧ double.mul 4461442080421002358 k = some kl ∧ double.add m kl = some inner ∧ double.mul k 4604418534311723008 = some kh ∧ double.sub h inner = some d ∧ double.sub d f = some b ∧ double.sub kh b = some res

theorem log_run {x : Nat} (h0 : 0 < x) (hx : x < infR) : ∃ res, LogRun x res ∧ Num res ∧ ab (val res) ≤ 1001 ∧ (1 < val x → 0 < val res) ∧ (val x = 1 → val res = 0) ∧ (val x < 1 → val res < 0) ∧
    (1024 * 2 ^ 52 ≤ x → 154 / 1024 ≤ val res) ∧ (x ≤ 1022 * 2 ^ 52 → val res ≤ -(243 / 1024)) ∧ (1022 * 2 ^ 52 ≤ x → -(1265 / 1024) ≤ val res) := by
  obtain ⟨c, k, a, g, f, e1, e2, e3, e4, e5, nk, nf, bf, K, kv, kb, k0, kc, kx1, kx2, kx3⟩ := reduce h0 hx
  obtain ⟨tf, s, e6, e7, ns, bs, s0, s1⟩ := s_part nf bf
  obtain ⟨s2, e8, n2, s20, s21⟩ := sq_part ns bs
  obtain ⟨h1, h, e22, e23, nh, hh0, hh1, hh2, hh3⟩ := hf_part nf bf
  obtain ⟨s4, p1, p2, p3, p4, p5, p6, t1, u1, u2, u3, u4, t2, R, rh, e9, e10, e11, e12, e13, e14, e15, e16, e17, e18, e19, e20, e21, e21b, e24, nrh, r0, r1⟩ := r_part n2 s20 s21 nh hh0 hh1
  obtain ⟨m, e25, nm, bm, m0, m1⟩ := m_part ns bs nrh r0 r1
  obtain ⟨kl, kh, e26, e27, _, nkl, nkh, bkl, bkh, q1, q2, q3, q4⟩ := k_part nk K kv kb
  obtain ⟨inner, d, b, res, e28, e29, e30, e31, nres, bres, f1, f2, f3, f4⟩ := fin_part nm bm nkl (by grind) nh hh0 hh1 nf bf nkh bkh
  refine ⟨res, ⟨c, k, a, g, f, tf, s, s2, s4, p1, p2, p3, p4, p5, p6, t1, u1, u2, u3, u4, t2, R, h1, h, rh, m, kl, inner, d, b, kh, e1, e2, e3, e4, e5, e6, e7, e8, e9, e10, e11, e12, e13, e14, e15, e16, e17, e18, e19, e20, e21, e21b, e22, e23, e24, e25, e26, e28, e27, e29, e30, e31⟩, nres, bres, ?_, ?_, ?_, fun c => f1 (q1 (kx1 c)), fun c => f2 (q2 (kx2 c)), fun c => f3 (q3 (kx3 c))⟩
  · intro hv
    rcases kc with kc | ⟨kc, _⟩ | ⟨kc, kd⟩
    · obtain ⟨a1, a2⟩ := q4 kc
      obtain ⟨b1, b2⟩ := k0 kc
      have hfp : 0 < val f := by grind
      exact (f4 a1 a2).1 hfp (m0 (s0 (by grind))) (hh2 (b2 hfp))
    · have := f1 (q1 kc); grind
    · grind
  · intro hv
    rcases kc with kc | ⟨kc, kd⟩ | ⟨kc, kd⟩
    · obtain ⟨a1, a2⟩ := q4 kc
      obtain ⟨b1, b2⟩ := k0 kc
      have hf0 : val f = 0 := by grind
      have hm0 : val m = 0 := by
        have := m0 (s0 (by grind)); have := m1 (s1 (by grind)); grind
      exact (f4 a1 a2).2.2 hf0 hm0 (hh3 hf0)
    · grind
    · grind
  · intro hv
    rcases kc with kc | ⟨kc, kd⟩ | ⟨kc, _⟩
    · obtain ⟨a1, a2⟩ := q4 kc
      obtain ⟨b1, b2⟩ := k0 kc
      have hfp : val f < 0 := by grind
      exact (f4 a1 a2).2.1 hfp (m1 (s1 (by grind)))
    · grind
    · have := f2 (q2 kc); grind

theorem sem_pure_bind {α β : Type} (a : α) (f : α → Sem β) : (pure a >>= f) = f a := rfl
theorem asm_add {x y z : Nat} (h : double.add x y = some z) : Extern.MathAsm.add x y = pure z := by
  show (match FloatKind.f64.format.add x y with | some r => _ | none => _ : Sem Value) >>= _ = _
  rw [format_double, h]; rfl
theorem asm_sub {x y z : Nat} (h : double.sub x y = some z) : Extern.MathAsm.sub x y = pure z := by
  show (match FloatKind.f64.format.sub x y with | some r => _ | none => _ : Sem Value) >>= _ = _
  rw [format_double, h]; rfl
theorem asm_mul {x y z : Nat} (h : double.mul x y = some z) : Extern.MathAsm.mul x y = pure z := by
  show (match FloatKind.f64.format.mul x y with | some r => _ | none => _ : Sem Value) >>= _ = _
  rw [format_double, h]; rfl
theorem asm_div {x y z : Nat} (h : double.div x y = some z) : Extern.MathAsm.div x y = pure z := by
  show (match FloatKind.f64.format.div x y with | some r => _ | none => _ : Sem Value) >>= _ = _
  rw [format_double, h]; rfl

/-- The match on the one argument. -/
theorem archLog_arg {x : Nat} {F : Nat → Sem Value} {G : Array Value → Sem Value} : Extern.MathLog.archLog.match_1 (fun _ => Sem Value) #[.float .f64 x] F G = F x := rfl

/-- archLog where it computes nothing. -/
theorem archLog_zero (P : Program) {x : Nat} (w : World) (h : x % 2 ^ 63 = 0) : (Extern.MathLog.archLog #[.float .f64 x]).run P w = .ok (.float .f64 18442240474082181120) w := by
  delta Extern.MathLog.archLog
  rw [archLog_arg, if_pos (by simp [h])]; rfl
theorem archLog_neg (P : Program) {x : Nat} (w : World) (h : x % 2 ^ 63 ≠ 0) (h1 : 2 ^ 63 ≤ x) : (Extern.MathLog.archLog #[.float .f64 x]).run P w = .ok (.float .f64 9221120237041090561) w := by
  delta Extern.MathLog.archLog
  rw [archLog_arg, if_neg (by simp [h]), if_pos h1]; rfl
theorem archLog_top (P : Program) {x : Nat} (w : World) (h : x % 2 ^ 63 ≠ 0) (h1 : ¬ 2 ^ 63 ≤ x) (h2 : 9218868437227405312 ≤ x) : (Extern.MathLog.archLog #[.float .f64 x]).run P w = .ok (.float .f64 x) w := by
  delta Extern.MathLog.archLog
  rw [archLog_arg, if_neg (by simp [h]), if_neg h1, if_pos (show x ≥ Extern.MathAsm.posInf from h2)]; rfl

theorem archLog_num (P : Program) {x res : Nat} (w : World) (h0 : 0 < x) (hx : x < infR) (hr : LogRun x res) : (Extern.MathLog.archLog #[.float .f64 x]).run P w = .ok (.float .f64 res) w := by
  obtain ⟨c, k, a, g, f, tf, s, s2, s4, p1, p2, p3, p4, p5, p6, t1, u1, u2, u3, u4, t2, R, h1, h, rh, m, kl, inner, d, b, kh, e1, e2, e3, e4, e5, e6, e7, e8, e9, e10, e11, e12, e13, e14, e15, e16, e17, e18, e19, e20, e21, e21b, e22, e23, e24, e25, e26, e28, e27, e29, e30, e31⟩ := hr
  unfold infR at hx
  have ec : (if (!Extern.MathAsm.lt 4604544271217802189 (x % 2 ^ 52 + Extern.MathAsm.half)) = true then Extern.MathAsm.one else 0) = c := by
    rw [← e1]
    unfold Extern.MathAsm.lt Extern.MathAsm.half Extern.MathAsm.one
    rw [format_double]
    by_cases o : double.order 4604544271217802189 (x % 2 ^ 52 + 4602678819172646912) = some .lt
    · rw [if_pos o, o]; rfl
    · rw [if_neg o, if_pos]; simp [o]
  have e2' : Extern.MathAsm.sub (Extern.MathAsm.ofInt32 (Int.ofNat (x / 2 ^ 52) - 1022)) c = pure k := asm_sub e2
  have e3' : Extern.MathAsm.add c Extern.MathAsm.one = pure a := asm_add e3
  have e4' : Extern.MathAsm.mul (x % 2 ^ 52 + Extern.MathAsm.half) a = pure g := asm_mul e4
  have e5' : Extern.MathAsm.sub g Extern.MathAsm.one = pure f := asm_sub e5
  have e6' : Extern.MathAsm.add Extern.MathAsm.two f = pure tf := asm_add e6
  have e22' : Extern.MathAsm.mul Extern.MathAsm.half f = pure h1 := asm_mul e22
  delta Extern.MathLog.archLog
  rw [archLog_arg, if_neg (by simp; omega), if_neg (by omega), if_neg (by show ¬ 9218868437227405312 ≤ x; omega)]
  dsimp only
  rw [ec, e2', sem_pure_bind, e3', sem_pure_bind, e4', sem_pure_bind, e5', sem_pure_bind, e6', sem_pure_bind, asm_div e7, sem_pure_bind, asm_mul e8, sem_pure_bind, asm_mul e9, sem_pure_bind, asm_mul e10, sem_pure_bind, asm_add e11, sem_pure_bind,
    asm_mul e12, sem_pure_bind, asm_add e13, sem_pure_bind, asm_mul e14, sem_pure_bind, asm_add e15, sem_pure_bind, asm_mul e16, sem_pure_bind, asm_mul e17, sem_pure_bind, asm_add e18, sem_pure_bind, asm_mul e19, sem_pure_bind, asm_add e20, sem_pure_bind,
    asm_mul e21, sem_pure_bind, asm_add e21b, sem_pure_bind, e22', sem_pure_bind, asm_mul e23, sem_pure_bind, asm_add e24, sem_pure_bind, asm_mul e25, sem_pure_bind, asm_mul e26, sem_pure_bind, asm_add e28, sem_pure_bind, asm_mul e27, sem_pure_bind,
    asm_sub e29, sem_pure_bind, asm_sub e30, sem_pure_bind, asm_sub e31, sem_pure_bind]
  rfl
end Go.Proofs.Ytffflefdmhdhnaa
