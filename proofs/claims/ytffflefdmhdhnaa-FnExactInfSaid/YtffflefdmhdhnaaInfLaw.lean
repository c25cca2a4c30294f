/- The walk of laws.FnExactInf: it returns true for every sign. -/
import Derived.Test.YtffflefdmhdhnaaInf
namespace Go.Proofs.Ytffflefdmhdhnaa
open Go.RowKit

set_option maxHeartbeats 400000 in
theorem same_inf (w : World) :
    Calls Try.prog 17 #[.float .f64 9218868437227405312, .float .f64 9218868437227405312] w fun e w' => e = .returned (.bool true) ∧ w = w' := by
  go_enter Try.func17, Try.ntmps17
  go_wp2
  go_ret
  exact ⟨rfl, rfl⟩
set_option maxHeartbeats 400000 in
theorem same_neginf (w : World) :
    Calls Try.prog 17 #[.float .f64 18442240474082181120, .float .f64 18442240474082181120] w fun e w' => e = .returned (.bool true) ∧ w = w' := by
  go_enter Try.func17, Try.ntmps17
  go_wp2
  go_ret
  exact ⟨rfl, rfl⟩

set_option maxHeartbeats 400000 in
theorem walk_FnExactInf (a0 : Int) (w : World) :
    Calls Try.prog 3 #[.int .i64 a0] w fun e w' => e = .returned (.bool true) ∧ Grown w w' := by
  by_cases h : 0 ≤ a0
  · go_enter Try.func3, Try.ntmps3
    go_wp2_with (first | (go_at_call 15; refine (specInf_pos _ _ h).mono ?_; rintro e w' ⟨rfl, rfl⟩) | (go_at_call 30; refine (mathInf_pos _ _ h).mono ?_; rintro e w' ⟨rfl, rfl⟩) | (go_at_call 17; refine (same_inf _).mono ?_; rintro e w' ⟨rfl, rfl⟩) | go_in)
    go_ret
    exact ⟨rfl, Grown.refl _⟩
  · have h' : a0 < 0 := by omega
    go_enter Try.func3, Try.ntmps3
    go_wp2_with (first | (go_at_call 15; refine (specInf_neg _ _ h').mono ?_; rintro e w' ⟨rfl, rfl⟩) | (go_at_call 30; refine (mathInf_neg _ _ h').mono ?_; rintro e w' ⟨rfl, rfl⟩) | (go_at_call 17; refine (same_neginf _).mono ?_; rintro e w' ⟨rfl, rfl⟩) | go_in)
    go_ret
    exact ⟨rfl, Grown.refl _⟩
end Go.Proofs.Ytffflefdmhdhnaa
