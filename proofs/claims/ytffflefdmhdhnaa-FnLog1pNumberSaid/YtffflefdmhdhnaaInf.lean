/- The walk of laws.FnExactInf: it returns true for every sign. -/
import Derived.Test.YtffflefdmhdhnaaWk
namespace Go.Proofs.Ytffflefdmhdhnaa
open Go.RowKit

theorem inf_add (t : TypeId) (w : World) : (binOp .add t (.float .f64 9214364837600034816) (.float .f64 9214364837600034816)).run Try.prog w = .ok (.float .f64 9218868437227405312) w :=
  run_float_arith w .add t .f64 _ _ _ (by decide +kernel)

theorem negW_inf : negW 9218868437227405312 = 18442240474082181120 := by decide +kernel

set_option maxHeartbeats 400000 in
theorem specInf_pos (n : Int) (w : World) (h : 0 ≤ n) :
    Calls Try.prog 15 #[.int .i64 n] w fun e w' => e = .returned (.float .f64 9218868437227405312) ∧ w = w' := by
  have h' : ¬ n < 0 := by omega
  have hop := inf_add
  go_enter Try.func15, Try.ntmps15
  go_wp2_with (simp only [hop])
  go_ret
  exact ⟨rfl, rfl⟩

set_option maxHeartbeats 400000 in
theorem specInf_neg (n : Int) (w : World) (h : n < 0) :
    Calls Try.prog 15 #[.int .i64 n] w fun e w' => e = .returned (.float .f64 18442240474082181120) ∧ w = w' := by
  have hop := inf_add
  have hn := negW_inf
  go_enter Try.func15, Try.ntmps15
  go_wp2_with (simp only [hop])
  go_ret
  exact ⟨rfl, rfl⟩

set_option maxHeartbeats 400000 in
theorem mathInf_pos (n : Int) (w : World) (h : 0 ≤ n) :
    Calls Try.prog 30 #[.int .i64 n] w fun e w' => e = .returned (.float .f64 9218868437227405312) ∧ w = w' := by
  have hf := frombits_run
  go_enter Try.func30, Try.ntmps30
  go_wp2
  go_ret
  exact ⟨rfl, rfl⟩

set_option maxHeartbeats 400000 in
theorem mathInf_neg (n : Int) (w : World) (h : n < 0) :
    Calls Try.prog 30 #[.int .i64 n] w fun e w' => e = .returned (.float .f64 18442240474082181120) ∧ w = w' := by
  have h' : ¬ 0 ≤ n := by omega
  have hf := frombits_run
  go_enter Try.func30, Try.ntmps30
  go_wp2
  go_ret
  exact ⟨rfl, rfl⟩
end Go.Proofs.Ytffflefdmhdhnaa
