/- The walks of the laws on Cbrt. -/
import Derived.Test.YtjdibagfompohaaCbLaw
namespace Go.Proofs.Ytjdibagfompohaa
open Go.RowKit Flo Ieee

set_option maxHeartbeats 1000000 in
theorem turned_walk (x r : Nat) (w : World) (h1 : ∀ w, Calls Try.prog 17 #[.float .f64 x] w (Ret (.float .f64 r) w)) (h2 : ∀ w, Calls Try.prog 17 #[.float .f64 (negW x)] w (Ret (.float .f64 (negW r)) w)) (hr : negW r < 18446744073709551616) :
    Calls Try.prog 6 #[.float .f64 x] w (Ret (.bool true) w) := by
  have H1 := Lib.hid h1; have H2 := Lib.hid h2; have H3 := Lib.hid hr
  clear h1 h2 hr
  go_enter Try.func6, Try.ntmps6
  go_wp2_with fail
  refine (H2.out _).mono ?_; rintro e w' ⟨rfl, m1, rfl⟩
  go_wp2_with fail
  refine (H1.out _).mono ?_; rintro e w' ⟨rfl, m2, rfl⟩
  go_wp2_with fail
  refine (same_self _ _ H3.out).mono ?_; rintro e w' ⟨rfl, m3, rfl⟩
  go_wp2
  go_ret
  exact ⟨rfl, _, rfl⟩
theorem walk_FnCbrtTurned (x : Nat) (hx : x < 18446744073709551616) (w : World) :
    Calls Try.prog 6 #[.float .f64 x] w fun e w' => e = .returned (.bool true) ∧ Grown w w' := by
  refine Calls.mono ?_ fun _ _ => Ret.grown
  obtain ⟨r, hr, h1, h2, _⟩ := cbrt_any hx
  exact turned_walk x r w h1 h2 (negW_rung hr).1

/-- What IsFinite returns, as a Bool. -/
def finB (x : Nat) : Bool := decide (x % 9223372036854775808 < 9218868437227405312)
theorem finB_true {x : Nat} (h : Num x) : finB x = true := by have := h.2; unfold infR at this; unfold finB; simpa using this
theorem finB_false {x : Nat} (h : x < 18446744073709551616) (hn : ¬ Num x) : finB x = false := by
  unfold finB; rw [decide_eq_false_iff_not]; exact fun c => hn ⟨h, c⟩
theorem num_dec {x : Nat} : Num x ∨ ¬ Num x := Classical.em _
theorem isFinite_any (x : Nat) (w : World) (h : x < 18446744073709551616) : Calls Try.prog 15 #[.float .f64 x] w (Ret (.bool (finB x)) w) := by
  rcases num_dec (x := x) with h1 | h1
  · rw [finB_true h1]; exact isFinite_fin x w h1
  · rw [finB_false h h1]; exact isFinite_not x w h h1

set_option maxHeartbeats 400000 in
theorem cbrtTold (x : Nat) (w : World) (h : x < 18446744073709551616) (bz bf : Bool) (hz : (FloatKind.f64.format.order x 0 == some .eq) = bz) (hf : finB x = bf) :
    Calls Try.prog 18 #[.float .f64 x] w (Ret (.bool (bz || !bf)) w) := by
  cases bz <;> cases bf <;>
  · go_enter Try.func18, Try.ntmps18
    go_wp2_with (go_at_call 15; refine (isFinite_any _ _ h).mono ?_; rintro e w' ⟨rfl, m, rfl⟩)
    go_ret
    first | exact ⟨rfl, 0, rfl⟩ | exact ⟨rfl, _, rfl⟩

set_option maxHeartbeats 400000 in
theorem specCbrt_told (x : Nat) (w : World) (ht : ∀ w, Calls Try.prog 18 #[.float .f64 x] w (Ret (.bool true) w)) : Calls Try.prog 20 #[.float .f64 x] w (Ret (.float .f64 x) w) := by
  have H := Lib.hid ht; clear ht
  go_enter Try.func20, Try.ntmps20
  go_wp2_with (go_at_call 18; refine (H.out _).mono ?_; rintro e w' ⟨rfl, m, rfl⟩)
  go_ret
  exact ⟨rfl, _, rfl⟩

set_option maxHeartbeats 400000 in
theorem ccases_untold (x : Nat) (w : World) (ht : ∀ w, Calls Try.prog 18 #[.float .f64 x] w (Ret (.bool false) w)) : Calls Try.prog 4 #[.float .f64 x] w (Ret (.bool true) w) := by
  have H := Lib.hid ht; clear ht
  go_enter Try.func4, Try.ntmps4
  go_wp2_with (go_at_call 18; refine (H.out _).mono ?_; rintro e w' ⟨rfl, m, rfl⟩)
  go_ret
  exact ⟨rfl, _, rfl⟩
set_option maxHeartbeats 400000 in
theorem ccases_told (x : Nat) (w : World) (hx : x < 18446744073709551616) (ht : ∀ w, Calls Try.prog 18 #[.float .f64 x] w (Ret (.bool true) w)) (h1 : ∀ w, Calls Try.prog 17 #[.float .f64 x] w (Ret (.float .f64 x) w)) :
    Calls Try.prog 4 #[.float .f64 x] w (Ret (.bool true) w) := by
  have H := Lib.hid ht; have H1 := Lib.hid h1; have H2 := Lib.hid (fun w => specCbrt_told x w ht); have H3 := Lib.hid hx
  clear ht h1 hx
  go_enter Try.func4, Try.ntmps4
  go_wp2_with (first | (go_at_call 18; refine (H.out _).mono ?_; rintro e w' ⟨rfl, m, rfl⟩) | (go_at_call 17; refine (H1.out _).mono ?_; rintro e w' ⟨rfl, m1, rfl⟩) | (go_at_call 20; refine (H2.out _).mono ?_; rintro e w' ⟨rfl, m2, rfl⟩) | (go_at_call 19; refine (same_self _ _ H3.out).mono ?_; rintro e w' ⟨rfl, m3, rfl⟩))
  go_ret
  exact ⟨rfl, _, rfl⟩
theorem zero_ord_num {x : Nat} (h : Num x) : (FloatKind.f64.format.order x 0 == some .eq) = decide (x % 9223372036854775808 = 0) := by
  by_cases hz : x % 9223372036854775808 = 0
  · have : val x = 0 := by rw [val_eq, hz, rv_zero]; simp
    rw [ord_eq h fin_zero (by rw [this, val_zero])]; simp [hz]
  · have hv := val_ne.2 hz
    rw [ord_fin h fin_zero, val_zero]; unfold cmp; rw [if_neg hv]
    split <;> simp [hz]
theorem walk_FnCbrtCases (x : Nat) (hx : x < 18446744073709551616) (w : World) :
    Calls Try.prog 4 #[.float .f64 x] w fun e w' => e = .returned (.bool true) ∧ Grown w w' := by
  refine Calls.mono ?_ fun _ _ => Ret.grown
  obtain ⟨r, hr, h1, h2, h3, h4⟩ := cbrt_any hx
  rcases num_dec (x := x) with hn | hn
  · by_cases hz : x % 9223372036854775808 = 0
    · have e := h3 (.inl hz)
      subst e
      exact ccases_told r w hx (fun w => cbrtTold r w hx true true (by rw [zero_ord_num hn]; simp [hz]) (finB_true hn)) h1
    · exact ccases_untold x w (fun w => cbrtTold x w hx false true (by rw [zero_ord_num hn]; simp [hz]) (finB_true hn))
  · have e := h3 (.inr hn)
    subst e
    cases hb : (FloatKind.f64.format.order r 0 == some .eq)
    · exact ccases_told r w hx (fun w => cbrtTold r w hx false false hb (finB_false hx hn)) h1
    · exact ccases_told r w hx (fun w => cbrtTold r w hx true false hb (finB_false hx hn)) h1

set_option maxHeartbeats 400000 in
theorem cnumber_skip (x : Nat) (w : World) (hx : x < 18446744073709551616) (bz bf : Bool) (hz : (FloatKind.f64.format.order x 0 == some .eq) = bz) (hf : finB x = bf) (hb : (!bf || bz) = true) :
    Calls Try.prog 5 #[.float .f64 x] w (Ret (.bool true) w) := by
  cases bz <;> cases bf <;> cases hb <;>
  · go_enter Try.func5, Try.ntmps5
    go_wp2_with (go_at_call 15; refine (isFinite_any _ _ hx).mono ?_; rintro e w' ⟨rfl, m, rfl⟩)
    go_ret
    exact ⟨rfl, _, rfl⟩
set_option maxHeartbeats 400000 in
theorem cnumber_at (x r : Nat) (w : World) (hx : Num x) (hr : Num r) (h1 : ∀ w, Calls Try.prog 17 #[.float .f64 x] w (Ret (.float .f64 r) w)) (o : Ordering)
    (ox : FloatKind.f64.format.order x 0 = some o) (orr : FloatKind.f64.format.order r 0 = some o) (ho : o = .lt ∨ o = .gt) :
    Calls Try.prog 5 #[.float .f64 x] w (Ret (.bool true) w) := by
  have H1 := Lib.hid h1; have H2 := Lib.hid (isFinite_fin x · hx); have H3 := Lib.hid (isFinite_fin r · hr)
  clear h1 hx hr
  rcases ho with rfl | rfl <;>
  · go_enter Try.func5, Try.ntmps5
    go_wp2_with fail
    refine (H2.out _).mono ?_; rintro e w' ⟨rfl, m1, rfl⟩
    go_wp2_with fail
    refine (H1.out _).mono ?_; rintro e w' ⟨rfl, m2, rfl⟩
    go_wp2_with fail
    refine (H3.out _).mono ?_; rintro e w' ⟨rfl, m3, rfl⟩
    go_wp2
    go_ret
    exact ⟨rfl, _, rfl⟩
/-- A number that is not zero lies below or above zero, by its sign. -/
theorem ord_sign {x : Nat} (h : Num x) (h0 : x % 9223372036854775808 ≠ 0) : FloatKind.f64.format.order x 0 = some (if sgn x then .lt else .gt) := by
  have hp := rv_pos h0
  cases hs : sgn x
  · exact ord_gt h fin_zero (by rw [val_zero, val_eq, hs]; simpa using hp)
  · exact ord_lt h fin_zero (by rw [val_zero, val_eq, hs]; simp; grind)
theorem walk_FnCbrtNumber (x : Nat) (hx : x < 18446744073709551616) (w : World) :
    Calls Try.prog 5 #[.float .f64 x] w fun e w' => e = .returned (.bool true) ∧ Grown w w' := by
  refine Calls.mono ?_ fun _ _ => Ret.grown
  obtain ⟨r, hr, h1, h2, h3, h4⟩ := cbrt_any hx
  rcases num_dec (x := x) with hn | hn
  · by_cases hz : x % 9223372036854775808 = 0
    · exact cnumber_skip x w hx true true (by rw [zero_ord_num hn]; simp [hz]) (finB_true hn) rfl
    · obtain ⟨rn, r0, rs, _⟩ := h4 hn hz
      have hrz : r % 9223372036854775808 ≠ 0 := by
        intro c; rw [c] at r0; exact r0 val_zero
      refine cnumber_at x r w hn rn h1 _ (ord_sign hn hz) (by rw [← rs]; exact ord_sign rn hrz) ?_
      cases sgn x <;> simp
  · cases hb : (FloatKind.f64.format.order x 0 == some .eq)
    · exact cnumber_skip x w hx false false hb (finB_false hx hn) rfl
    · exact cnumber_skip x w hx true false hb (finB_false hx hn) rfl

set_option maxHeartbeats 400000 in
theorem cbetween_skip (x : Nat) (w : World) (hx : x < 18446744073709551616) (bz bf : Bool) (hz : (FloatKind.f64.format.order x 0 == some .eq) = bz) (hf : finB x = bf) (hb : (!bf || bz) = true) :
    Calls Try.prog 3 #[.float .f64 x] w (Ret (.bool true) w) := by
  cases bz <;> cases bf <;> cases hb <;>
  · go_enter Try.func3, Try.ntmps3
    go_wp2_with (go_at_call 15; refine (isFinite_any _ _ hx).mono ?_; rintro e w' ⟨rfl, m, rfl⟩)
    go_ret
    exact ⟨rfl, _, rfl⟩
set_option maxHeartbeats 1000000 in
theorem cbetween_at (x r a b : Nat) (w : World) (hx : Num x) (hz : (FloatKind.f64.format.order x 0 == some .eq) = false) (h1 : ∀ w, Calls Try.prog 17 #[.float .f64 x] w (Ret (.float .f64 r) w))
    (h2 : ∀ w, Calls Try.prog 16 #[.float .f64 x] w (Ret (.float .f64 a) w)) (h3 : ∀ w, Calls Try.prog 16 #[.float .f64 r] w (Ret (.float .f64 b) w))
    (ho : (FloatKind.f64.format.order a 4607182418800017408 = some .lt ∧ (FloatKind.f64.format.order a b = some .lt ∨ FloatKind.f64.format.order a b = some .eq) ∧ (FloatKind.f64.format.order b 4607182418800017408 = some .lt ∨ FloatKind.f64.format.order b 4607182418800017408 = some .eq)) ∨
      ((FloatKind.f64.format.order a 4607182418800017408 == some .lt) = false ∧ (FloatKind.f64.format.order 4607182418800017408 b = some .lt ∨ FloatKind.f64.format.order 4607182418800017408 b = some .eq) ∧ (FloatKind.f64.format.order b a = some .lt ∨ FloatKind.f64.format.order b a = some .eq))) :
    Calls Try.prog 3 #[.float .f64 x] w (Ret (.bool true) w) := by
  have H1 := Lib.hid h1; have H2 := Lib.hid h2; have H3 := Lib.hid h3; have H4 := Lib.hid (isFinite_fin x · hx)
  clear h1 h2 h3 hx
  rcases ho with ⟨o1, o2 | o2, o3 | o3⟩ | ⟨o1, o2 | o2, o3 | o3⟩ <;>
  · go_enter Try.func3, Try.ntmps3
    go_wp2_with fail
    refine (H4.out _).mono ?_; rintro e w' ⟨rfl, m1, rfl⟩
    go_wp2_with fail
    refine (H1.out _).mono ?_; rintro e w' ⟨rfl, m2, rfl⟩
    go_wp2_with fail
    refine (H3.out _).mono ?_; rintro e w' ⟨rfl, m3, rfl⟩
    go_wp2_with fail
    refine (H2.out _).mono ?_; rintro e w' ⟨rfl, m4, rfl⟩
    go_wp2
    go_ret
    exact ⟨rfl, _, rfl⟩
theorem ord_le {x y : Nat} (hx : Num x) (hy : Num y) (h : val x ≤ val y) : FloatKind.f64.format.order x y = some .lt ∨ FloatKind.f64.format.order x y = some .eq := by
  rcases Decidable.em (val x = val y) with e | e
  · right; exact ord_eq hx hy e
  · left; exact ord_lt hx hy (by grind)
theorem walk_FnCbrtBetween (x : Nat) (hx : x < 18446744073709551616) (w : World) :
    Calls Try.prog 3 #[.float .f64 x] w fun e w' => e = .returned (.bool true) ∧ Grown w w' := by
  refine Calls.mono ?_ fun _ _ => Ret.grown
  obtain ⟨r, hr, h1, h2, h3, h4⟩ := cbrt_any hx
  rcases num_dec (x := x) with hn | hn
  · by_cases hz : x % 9223372036854775808 = 0
    · exact cbetween_skip x w hx true true (by rw [zero_ord_num hn]; simp [hz]) (finB_true hn) rfl
    · obtain ⟨rn, r0, rs, rb1, rb2⟩ := h4 hn hz
      refine cbetween_at x r _ _ w hn (by rw [zero_ord_num hn]; simp [hz]) h1 (fun w => size_any x w hx (fin_not_nan hn)) (fun w => size_any r w hr (fin_not_nan rn)) ?_
      have xa := num_abs hn; have ra := num_abs rn
      rcases Rat.le_total (a := 1) (b := val (x % 9223372036854775808)) with c | c
      · obtain ⟨c1, c2⟩ := rb2 c
        right; refine ⟨?_, ord_le fin_one ra (by rw [val_one]; exact c1), ord_le ra xa c2⟩
        rw [ord_fin xa fin_one, val_one]; unfold cmp; rw [if_neg (by grind)]; split <;> rfl
      · rcases Decidable.em (val (x % 9223372036854775808) = 1) with e | e
        · obtain ⟨c1, c2⟩ := rb2 (by grind)
          right; refine ⟨?_, ord_le fin_one ra (by rw [val_one]; exact c1), ord_le ra xa c2⟩
          rw [ord_fin xa fin_one, val_one]; unfold cmp; rw [if_neg (by grind)]; split <;> rfl
        · obtain ⟨c1, c2⟩ := rb1 (by grind)
          left; exact ⟨ord_lt xa fin_one (by rw [val_one]; grind), ord_le xa ra c1, ord_le ra fin_one (by rw [val_one]; exact c2)⟩
  · cases hb : (FloatKind.f64.format.order x 0 == some .eq)
    · exact cbetween_skip x w hx false false hb (finB_false hx hn) rfl
    · exact cbetween_skip x w hx true false hb (finB_false hx hn) rfl
end Go.Proofs.Ytjdibagfompohaa
