/- The walks of the laws on Hypot. -/
import Derived.Test.YtjdibagfompohaaHySp
namespace Go.Proofs.Ytjdibagfompohaa
open Go.RowKit Flo Ieee

/-- How a word compares with itself, and whether it is an infinity. -/
theorem kind {x : Nat} (h : x < 18446744073709551616) : (Num x ∧ infB x = false ∧ FloatKind.f64.format.order x x = some .eq) ∨ (InfW x ∧ infB x = true ∧ FloatKind.f64.format.order x x = some .eq) ∨ (NaNW x ∧ infB x = false ∧ FloatKind.f64.format.order x x = none) := by
  rcases cls h with h1 | h1 | h1
  · exact .inl ⟨h1, infB_false (fun c => inf_not_fin c h1), ord_eq h1 h1 rfl⟩
  · exact .inr (.inl ⟨h1, infB_true h1, ord_refl h (inf_not_nan h1)⟩)
  · exact .inr (.inr ⟨h1, infB_false (fun c => inf_not_nan c h1), ord_nan_l h1⟩)

set_option maxHeartbeats 400000 in
theorem hypotTold (p q : Nat) (w : World) (hp : p < 18446744073709551616) (hq : q < 18446744073709551616) (bp bq : Bool) (hbp : infB p = bp) (hbq : infB q = bq) (np nq : Bool)
    (hnp : (FloatKind.f64.format.order p p != some .eq) = np) (hnq : (FloatKind.f64.format.order q q != some .eq) = nq) :
    Calls Try.prog 21 #[.float .f64 p, .float .f64 q] w (Ret (.bool ((bp || bq) != (np || nq))) w) := by
  cases bp <;> cases np <;> cases bq <;> cases nq <;>
  · go_enter Try.func21, Try.ntmps21
    go_wp2_with (go_at_call 24; refine (isInf_any _ _ (by assumption)).mono ?_; rintro e w' ⟨rfl, m, rfl⟩)
    go_ret
    exact ⟨rfl, _, rfl⟩

set_option maxHeartbeats 400000 in
theorem specHypot_inf (p q : Nat) (w : World) (ht : ∀ w, Calls Try.prog 21 #[.float .f64 p, .float .f64 q] w (Ret (.bool true) w))
    (op : FloatKind.f64.format.order p p = some .eq) (oq : FloatKind.f64.format.order q q = some .eq) :
    Calls Try.prog 23 #[.float .f64 p, .float .f64 q] w (Ret (.float .f64 9218868437227405312) w) := by
  have H := Lib.hid ht; clear ht
  go_enter Try.func23, Try.ntmps23
  go_wp2_with (first | (go_at_call 21; refine (H.out _).mono ?_; rintro e w' ⟨rfl, m, rfl⟩) | (go_at_call 25; refine (specInf_pos _ _ (by omega)).mono ?_; rintro e w' ⟨rfl, rfl⟩))
  go_ret
  exact ⟨rfl, _, rfl⟩

set_option maxHeartbeats 400000 in
theorem specHypot_nan (p q : Nat) (w : World) (b : Bool) (ht : ∀ w, Calls Try.prog 21 #[.float .f64 p, .float .f64 q] w (Ret (.bool b) w))
    (o1 o2 : Bool) (op : (FloatKind.f64.format.order p p == some .eq) = o1) (oq : (FloatKind.f64.format.order q q == some .eq) = o2) (hb : (o1 && o2) = false) :
    Calls Try.prog 23 #[.float .f64 p, .float .f64 q] w (RetNaN w) := by
  have H := Lib.hid ht; clear ht
  cases b <;> cases o1 <;> cases o2 <;> cases hb <;>
  · go_enter Try.func23, Try.ntmps23
    go_wp2_with (first | (go_at_call 21; refine (H.out _).mono ?_; rintro e w' ⟨rfl, m, rfl⟩) | (go_at_call 27; refine (specNaN_any _).mono ?_; rintro e w' ⟨n, k, hn, rfl, rfl⟩))
    go_ret
    exact ⟨n, _, hn, rfl, rfl⟩

set_option maxHeartbeats 400000 in
theorem cases_untold (p q : Nat) (w : World) (ht : ∀ w, Calls Try.prog 21 #[.float .f64 p, .float .f64 q] w (Ret (.bool false) w)) :
    Calls Try.prog 7 #[.float .f64 p, .float .f64 q] w (Ret (.bool true) w) := by
  have H := Lib.hid ht; clear ht
  go_enter Try.func7, Try.ntmps7
  go_wp2_with (go_at_call 21; refine (H.out _).mono ?_; rintro e w' ⟨rfl, m, rfl⟩)
  go_ret
  exact ⟨rfl, _, rfl⟩
set_option maxHeartbeats 400000 in
theorem cases_inf (p q : Nat) (w : World) (ht : ∀ w, Calls Try.prog 21 #[.float .f64 p, .float .f64 q] w (Ret (.bool true) w)) (hy : hypW p q = some 9218868437227405312)
    (op : FloatKind.f64.format.order p p = some .eq) (oq : FloatKind.f64.format.order q q = some .eq) :
    Calls Try.prog 7 #[.float .f64 p, .float .f64 q] w (Ret (.bool true) w) := by
  have H := Lib.hid ht
  have H1 := Lib.hid (fun w => hypot_any p q _ w hy)
  have H2 := Lib.hid (fun w => specHypot_inf p q w ht op oq)
  clear ht hy op oq
  go_enter Try.func7, Try.ntmps7
  go_wp2_with (first | (go_at_call 21; refine (H.out _).mono ?_; rintro e w' ⟨rfl, m, rfl⟩) | (go_at_call 22; refine (H1.out _).mono ?_; rintro e w' ⟨rfl, m1, rfl⟩) | (go_at_call 23; refine (H2.out _).mono ?_; rintro e w' ⟨rfl, m2, rfl⟩) | (go_at_call 19; refine (same_self _ _ (by decide)).mono ?_; rintro e w' ⟨rfl, m3, rfl⟩))
  go_ret
  exact ⟨rfl, _, rfl⟩
theorem nan_const : NaNW 9221120237041090561 := ⟨by decide, by decide⟩
set_option maxHeartbeats 400000 in
theorem cases_nan (p q : Nat) (w : World) (ht : ∀ w, Calls Try.prog 21 #[.float .f64 p, .float .f64 q] w (Ret (.bool true) w)) (hy : hypW p q = some 9221120237041090561)
    (hs : ∀ w, Calls Try.prog 23 #[.float .f64 p, .float .f64 q] w (RetNaN w)) :
    Calls Try.prog 7 #[.float .f64 p, .float .f64 q] w (Ret (.bool true) w) := by
  have H := Lib.hid ht
  have H1 := Lib.hid (fun w => hypot_any p q _ w hy)
  have H2 := Lib.hid hs
  clear ht hy hs
  go_enter Try.func7, Try.ntmps7
  go_wp2_with (first | (go_at_call 21; refine (H.out _).mono ?_; rintro e w' ⟨rfl, m, rfl⟩) | (go_at_call 22; refine (H1.out _).mono ?_; rintro e w' ⟨rfl, m1, rfl⟩) | (go_at_call 23; refine (H2.out _).mono ?_; rintro e w' ⟨n, m2, hn, rfl, rfl⟩) | (go_at_call 19; refine (same_nan _ _ _ nan_const hn).mono ?_; rintro e w' ⟨rfl, m3, rfl⟩))
  go_ret
  exact ⟨rfl, _, rfl⟩

theorem walk_FnHypotCases (p : Nat) (hp : p < 18446744073709551616) (q : Nat) (hq : q < 18446744073709551616) (w : World) :
    Calls Try.prog 7 #[.float .f64 p, .float .f64 q] w fun e w' => e = .returned (.bool true) ∧ Grown w w' := by
  refine Calls.mono ?_ fun _ _ => Ret.grown
  rcases kind hp with ⟨h1, ip, op⟩ | ⟨h1, ip, op⟩ | ⟨h1, ip, op⟩ <;> rcases kind hq with ⟨h2, iq, oq⟩ | ⟨h2, iq, oq⟩ | ⟨h2, iq, oq⟩
  · exact cases_untold p q w (fun w => hypotTold p q w hp hq _ _ ip iq false false (by rw [op]; rfl) (by rw [oq]; rfl))
  · exact cases_inf p q w (fun w => hypotTold p q w hp hq _ _ ip iq false false (by rw [op]; rfl) (by rw [oq]; rfl)) (hyp_inf (.inr h2)) op oq
  · exact cases_nan p q w (fun w => hypotTold p q w hp hq _ _ ip iq false true (by rw [op]; rfl) (by rw [oq]; rfl)) (hyp_nan (fun c => inf_not_fin c h1) (fun c => inf_not_nan c h2) hp hq (.inr h2))
      (fun w => specHypot_nan p q w true (fun w => hypotTold p q w hp hq _ _ ip iq false true (by rw [op]; rfl) (by rw [oq]; rfl)) true false (by rw [op]; rfl) (by rw [oq]; rfl) rfl)
  · exact cases_inf p q w (fun w => hypotTold p q w hp hq _ _ ip iq false false (by rw [op]; rfl) (by rw [oq]; rfl)) (hyp_inf (.inl h1)) op oq
  · exact cases_inf p q w (fun w => hypotTold p q w hp hq _ _ ip iq false false (by rw [op]; rfl) (by rw [oq]; rfl)) (hyp_inf (.inl h1)) op oq
  · exact cases_untold p q w (fun w => hypotTold p q w hp hq _ _ ip iq false true (by rw [op]; rfl) (by rw [oq]; rfl))
  · exact cases_nan p q w (fun w => hypotTold p q w hp hq _ _ ip iq true false (by rw [op]; rfl) (by rw [oq]; rfl)) (hyp_nan (fun c => inf_not_nan c h1) (fun c => inf_not_fin c h2) hp hq (.inl h1))
      (fun w => specHypot_nan p q w true (fun w => hypotTold p q w hp hq _ _ ip iq true false (by rw [op]; rfl) (by rw [oq]; rfl)) false true (by rw [op]; rfl) (by rw [oq]; rfl) rfl)
  · exact cases_untold p q w (fun w => hypotTold p q w hp hq _ _ ip iq true false (by rw [op]; rfl) (by rw [oq]; rfl))
  · exact cases_nan p q w (fun w => hypotTold p q w hp hq _ _ ip iq true true (by rw [op]; rfl) (by rw [oq]; rfl)) (hyp_nan (fun c => inf_not_nan c h1) (fun c => inf_not_nan c h2) hp hq (.inl h1))
      (fun w => specHypot_nan p q w true (fun w => hypotTold p q w hp hq _ _ ip iq true true (by rw [op]; rfl) (by rw [oq]; rfl)) false false (by rw [op]; rfl) (by rw [oq]; rfl) rfl)
end Go.Proofs.Ytjdibagfompohaa
