/- What the model's archHypot gives: a function of the two words without their signs; at numbers it is not less than each of them. -/
import Derived.Test.YtjdibagfompohaaMath
namespace Go.Proofs.Ytjdibagfompohaa
open Go.RowKit Flo Ieee

/-- archHypot, as a function of words. -/
def hypW (p q : Nat) : Option Nat :=
  if p % 2 ^ 63 = 9218868437227405312 ∨ q % 2 ^ 63 = 9218868437227405312 then some 9218868437227405312
  else if 9218868437227405312 < p % 2 ^ 63 ∨ 9218868437227405312 < q % 2 ^ 63 then some 9221120237041090561
  else if p % 2 ^ 63 = 0 ∧ q % 2 ^ 63 = 0 then some 0
  else
    (double.div (if double.order (p % 2 ^ 63) (q % 2 ^ 63) = some .lt then p % 2 ^ 63 else q % 2 ^ 63) (if double.order (p % 2 ^ 63) (q % 2 ^ 63) = some .lt then q % 2 ^ 63 else p % 2 ^ 63)).bind fun r =>
    (double.mul r r).bind fun m => (double.add m 4607182418800017408).bind fun a => (double.sqrt a).bind fun s =>
    double.mul s (if double.order (p % 2 ^ 63) (q % 2 ^ 63) = some .lt then q % 2 ^ 63 else p % 2 ^ 63)

theorem archHypot_run (P : Program) (p q r : Nat) (w : World) (h : hypW p q = some r) : (Extern.MathHypot.archHypot #[.float .f64 p, .float .f64 q]).run P w = .ok (.float .f64 r) w := by
  unfold hypW at h
  have hdiv : ∀ x y z, double.div x y = some z → ∀ w, (Extern.MathAsm.div x y).run P w = .ok z w := fun x y z hz w => by simp [Extern.MathAsm.div, Extern.MathAsm.arith, Op.floatArith, format_double, hz]
  have hmul : ∀ x y z, double.mul x y = some z → ∀ w, (Extern.MathAsm.mul x y).run P w = .ok z w := fun x y z hz w => by simp [Extern.MathAsm.mul, Extern.MathAsm.arith, Op.floatArith, format_double, hz]
  have hadd : ∀ x y z, double.add x y = some z → ∀ w, (Extern.MathAsm.add x y).run P w = .ok z w := fun x y z hz w => by simp [Extern.MathAsm.add, Extern.MathAsm.arith, Op.floatArith, format_double, hz]
  have hsqrt : ∀ x z, double.sqrt x = some z → Extern.MathSqrt.sqrt #[.float .f64 x] = pure (Value.float .f64 z) := fun x z hz => by
    show (match FloatKind.f64.format.sqrt x with | some r => (pure (Value.float .f64 r) : Sem Value) | none => _) = _
    rw [format_double, hz]
  change Sem.run P (α := Value) (if (p % 2 ^ 63 == 9218868437227405312 || q % 2 ^ 63 == 9218868437227405312) = true then pure (Value.float .f64 9218868437227405312)
    else if (decide (p % 2 ^ 63 > 9218868437227405312) || decide (q % 2 ^ 63 > 9218868437227405312)) = true then pure (Value.float .f64 9221120237041090561)
    else if (p % 2 ^ 63 == 0 && q % 2 ^ 63 == 0) = true then pure (Value.float .f64 0)
    else match (if (double.order (p % 2 ^ 63) (q % 2 ^ 63) == some .lt) = true then (q % 2 ^ 63, p % 2 ^ 63) else (p % 2 ^ 63, q % 2 ^ 63)) with
      | (big, small) => Extern.MathAsm.div small big >>= fun r => Extern.MathAsm.mul r r >>= fun m => Extern.MathAsm.add m 4607182418800017408 >>= fun a =>
        Extern.MathSqrt.sqrt #[.float .f64 a] >>= fun v => match v with
          | Value.float _ s => Extern.MathAsm.mul s big >>= fun z => pure (Value.float .f64 z)
          | _ => stuck _) w = _
  by_cases h1 : p % 2 ^ 63 = 9218868437227405312 ∨ q % 2 ^ 63 = 9218868437227405312
  · rw [if_pos h1] at h; cases h
    rcases h1 with h1 | h1 <;> simp [h1]
  rw [if_neg h1] at h
  by_cases h2 : 9218868437227405312 < p % 2 ^ 63 ∨ 9218868437227405312 < q % 2 ^ 63
  · rw [if_pos h2] at h; cases h
    rcases h2 with h2 | h2 <;> simp [h1, h2]
  rw [if_neg h2] at h
  by_cases h3 : p % 2 ^ 63 = 0 ∧ q % 2 ^ 63 = 0
  · rw [if_pos h3] at h; cases h
    simp [h3]
  rw [if_neg h3] at h
  simp only [Option.bind_eq_some_iff] at h
  obtain ⟨d, hd, m, hm, a, ha, s, hs, hr⟩ := h
  have e1 : (p % 2 ^ 63 == 9218868437227405312 || q % 2 ^ 63 == 9218868437227405312) = false := by simp; omega
  have e2 : (decide (p % 2 ^ 63 > 9218868437227405312) || decide (q % 2 ^ 63 > 9218868437227405312)) = false := by simp; omega
  have e3 : (p % 2 ^ 63 == 0 && q % 2 ^ 63 == 0) = false := by simp; omega
  simp only [e1, e2, e3, Bool.false_eq_true, if_false]
  by_cases ho : double.order (p % 2 ^ 63) (q % 2 ^ 63) = some .lt
  · simp only [ho, if_true] at hd hr
    simp [ho, hdiv _ _ _ hd, hmul _ _ _ hm, hadd _ _ _ ha, hsqrt _ _ hs, hmul _ _ _ hr]
  · simp only [ho, if_false] at hd hr
    simp [ho, hdiv _ _ _ hd, hmul _ _ _ hm, hadd _ _ _ ha, hsqrt _ _ hs, hmul _ _ _ hr]
end Go.Proofs.Ytjdibagfompohaa
