/- What the model's archHypot gives: a function of the two words without their signs; at numbers it is not less than each of them. -/
import Derived.Test.YtjdibagfompohaaMath
namespace Go.Proofs.Ytjdibagfompohaa
open Go.RowKit Flo Ieee

/-- archHypot, as a function of words. -/
def hypW (p q : Nat) : Option Nat :=
  if p % 2 ^ 63 = 9218868437227405312 ∨ q % 2 ^ 63 = 9218868437227405312 then some 9218868437227405312
  else if 9218868437227405312 < p % 2 ^ 63 ∨ 9218868437227405312 < q % 2 ^ 63 then some 9221120237041090561
  else if p % 2 ^ 63 = 0 ∧ q % 2 ^ 63 = 0 then some 0
  else
    (double.div (if double.order (p % 2 ^ 63) (q % 2 ^ 63) = some .lt then p % 2 ^ 63 else q % 2 ^ 63) (if double.order (p % 2 ^ 63) (q % 2 ^ 63) = some .lt then q % 2 ^ 63 else p % 2 ^ 63)).bind fun r =>
    (double.mul r r).bind fun m => (double.add m 4607182418800017408).bind fun a => (double.sqrt a).bind fun s =>
    double.mul s (if double.order (p % 2 ^ 63) (q % 2 ^ 63) = some .lt then q % 2 ^ 63 else p % 2 ^ 63)

theorem sem_pure_bind {α β : Type} (a : α) (f : α → Sem β) : (pure a >>= f) = f a := rfl
theorem asm_op {op : BinOp} {x y z : Nat} (h : floatBits op .f64 x y = some z) : Extern.MathAsm.arith op x y = pure z := by
  unfold floatBits at h
  unfold Extern.MathAsm.arith Op.floatArith
  cases op <;> simp only at h <;> first | (cases h; done) | skip
  all_goals (simp only [sem_pure_bind, h])
/-- The match on the two arguments. -/
theorem hy_arg {p q : Nat} {F : Nat → Nat → Sem Value} {G : Array Value → Sem Value} : Extern.MathHypot.archHypot.match_3 (fun _ => Sem Value) #[.float .f64 p, .float .f64 q] F G = F p q := rfl
theorem sqrt_pure {x z : Nat} (h : double.sqrt x = some z) : Extern.MathSqrt.sqrt #[.float .f64 x] = pure (.float .f64 z) := by
  show (match FloatKind.f64.format.sqrt x with | some r => (pure (.float .f64 r) : Sem Value) | none => _) = _
  rw [format_double, h]

theorem archHypot_run (P : Program) (p q r : Nat) (w : World) (h : hypW p q = some r) : (Extern.MathHypot.archHypot #[.float .f64 p, .float .f64 q]).run P w = .ok (.float .f64 r) w := by
  unfold hypW at h
  delta Extern.MathHypot.archHypot
  rw [hy_arg]
  dsimp only
  by_cases h1 : p % 2 ^ 63 = 9218868437227405312 ∨ q % 2 ^ 63 = 9218868437227405312
  · rw [if_pos h1] at h; cases h
    rw [if_pos (by rcases h1 with h1 | h1 <;> simp [h1, Extern.MathAsm.posInf])]; rfl
  rw [if_neg h1] at h
  rw [if_neg (by simp [Extern.MathAsm.posInf]; omega)]
  by_cases h2 : 9218868437227405312 < p % 2 ^ 63 ∨ 9218868437227405312 < q % 2 ^ 63
  · rw [if_pos h2] at h; cases h
    rw [if_pos (by rcases h2 with h2 | h2 <;> simp [h2, Extern.MathAsm.posInf])]; rfl
  rw [if_neg h2] at h
  rw [if_neg (by simp [Extern.MathAsm.posInf]; omega)]
  by_cases h3 : p % 2 ^ 63 = 0 ∧ q % 2 ^ 63 = 0
  · rw [if_pos h3] at h; cases h
    rw [if_pos (by simp [h3])]; rfl
  rw [if_neg h3] at h
  rw [if_neg (by simp; omega)]
  simp only [Option.bind_eq_some_iff] at h
  obtain ⟨d, hd, m, hm, a, ha, s, hs, hr⟩ := h
  have e2 : Extern.MathAsm.mul d d = pure m := asm_op (op := .mul) hm
  have e3 : Extern.MathAsm.add m Extern.MathAsm.one = pure a := asm_op (op := .add) ha
  have elt : (Extern.MathAsm.lt (p % 2 ^ 63) (q % 2 ^ 63) = true) = (double.order (p % 2 ^ 63) (q % 2 ^ 63) = some .lt) := by
    unfold Extern.MathAsm.lt; rw [format_double]; simp
  by_cases ho : double.order (p % 2 ^ 63) (q % 2 ^ 63) = some .lt
  · simp only [ho, if_true] at hd hr
    have e1 : Extern.MathAsm.div (p % 2 ^ 63) (q % 2 ^ 63) = pure d := asm_op (op := .quo) hd
    have e4 : Extern.MathAsm.mul s (q % 2 ^ 63) = pure r := asm_op (op := .mul) hr
    rw [if_pos (elt ▸ ho)]
    dsimp only
    rw [e1, sem_pure_bind, e2, sem_pure_bind, e3, sem_pure_bind, sqrt_pure hs, sem_pure_bind]
    dsimp only
    rw [e4, sem_pure_bind]; rfl
  · simp only [ho, if_false] at hd hr
    have e1 : Extern.MathAsm.div (q % 2 ^ 63) (p % 2 ^ 63) = pure d := asm_op (op := .quo) hd
    have e4 : Extern.MathAsm.mul s (p % 2 ^ 63) = pure r := asm_op (op := .mul) hr
    rw [if_neg (fun c => ho (elt ▸ c))]
    dsimp only
    rw [e1, sem_pure_bind, e2, sem_pure_bind, e3, sem_pure_bind, sqrt_pure hs, sem_pure_bind]
    dsimp only
    rw [e4, sem_pure_bind]; rfl
end Go.Proofs.Ytjdibagfompohaa
