/- The walk's own words for floats: the bits of a float, a float made of bits, the other sign, and what an operation without an answer gives. -/
import Derived.Test.YtffflefdmhdhnaaRows
import Derived.Test.YtffflefdmhdhnaaFlo
import Derived.WalkKit
import Derived.WalkSpells
import Derived.WalkLawsBesides
import Derived.Laws.FloatArith
import Derived.Laws.Externs
import Derived.Lib.Hide
import Derived.ChangeAlike
import Derived.Deep.Draws
import Derived.ProofKit
import Derived.OpenShut
namespace Go.Proofs.Ytffflefdmhdhnaa
open Go.RowKit

/-- The word with the other sign. -/
def negW (b : Nat) : Nat := Op.negFloat .f64 b
@[go_sem] theorem unary_negF (b : Nat) : Op.unary .neg (.float .f64 b) = pure (.float .f64 (negW b)) := rfl

theorem bits_run (x : Nat) (w : World) : (callFunc 50 #[.float .f64 x]).run Try.prog w = .ok (.value (.int .u64 x)) w := by
  rw [run_callFunc_extern (e := Extern.MathFloatBits.float64bits) Try.func50 (by kernel_rfl) (by kernel_rfl) (by kernel_rfl) (by kernel_rfl)]
  rfl
theorem frombits_run (n : Int) (w : World) : (callFunc 37 #[.int .u64 n]).run Try.prog w = .ok (.value (.float .f64 n.toNat)) w := by
  rw [run_callFunc_extern (e := Extern.MathFloatBits.float64frombits) Try.func37 (by kernel_rfl) (by kernel_rfl) (by kernel_rfl) (by kernel_rfl)]
  rfl

/-- A not-a-number. -/
def NaNW (x : Nat) : Prop := x < 18446744073709551616 ∧ 9218868437227405312 < x % 9223372036854775808

/-- An operation without an answer gives a not-a-number of whatever bits. -/
theorem run_float_none (op : BinOp) (hop : op = .add ∨ op = .sub ∨ op = .mul ∨ op = .quo) (t : TypeId) (x y : Nat) (w : World) (h : floatBits op .f64 x y = none) :
    ∃ n, NaNW n ∧ (binOp op t (.float .f64 x) (.float .f64 y)).run Try.prog w = .ok (.float .f64 n) w.drew := by
  refine ⟨(Question.nanBits .f64 x y).cut (w.tape w.drawn (.nanBits .f64 x y)), ?_, ?_⟩
  · unfold Question.cut NaNW; simp only []
    generalize w.tape w.drawn (Question.nanBits .f64 x y) = t
    have h1 : t % 2 < 2 := Nat.mod_lt _ (by decide)
    have h2 : t / 2 % (2 ^ 52 - 1) < 2 ^ 52 - 1 := Nat.mod_lt _ (by decide)
    generalize t / 2 % (2 ^ 52 - 1) = b at *
    rcases (show t % 2 = 0 ∨ t % 2 = 1 by omega) with h | h <;> rw [h] <;> omega
  · unfold floatBits at h
    rcases hop with rfl | rfl | rfl | rfl <;> simp only at h <;> simp [binOp, Op.floatArith, h, Question.forced]

end Go.Proofs.Ytffflefdmhdhnaa
