/- What math.Log2 returns at every word. -/
import Derived.Test.YtffflefdmhdhnaaFx
import Derived.Test.YtffflefdmhdhnaaLg10
namespace Go.Proofs.Ytffflefdmhdhnaa
open Go.RowKit Flo Ieee

set_option maxHeartbeats 400000 in
theorem log2_half (x f : Nat) (e : Int) (w : World) (hF : ∀ w, Calls Try.prog 51 #[.float .f64 x] w (Ret (.tuple #[.float .f64 f, .int .i64 e]) w)) (ho : FloatKind.f64.format.order f 4602678819172646912 = some .eq) (he1 : -2000 ≤ e) (he2 : e ≤ 2000) :
    Calls Try.prog 43 #[.float .f64 x] w (Ret (.float .f64 (FloatKind.f64.nearest (e - 1))) w) := by
  have H := Lib.hid hF; clear hF
  go_enter Try.func43, Try.ntmps43
  go_wp2_with (go_at_call 51; refine (H.out _).mono ?_; rintro e w' ⟨rfl, m, rfl⟩)
  go_ret
  exact ⟨rfl, _, rfl⟩
set_option maxHeartbeats 400000 in
theorem log2_at (x f l p r : Nat) (e : Int) (w : World) (hF : ∀ w, Calls Try.prog 51 #[.float .f64 x] w (Ret (.tuple #[.float .f64 f, .int .i64 e]) w)) (ho : (FloatKind.f64.format.order f 4602678819172646912 == some .eq) = false)
    (hL : ∀ w, Calls Try.prog 33 #[.float .f64 f] w (Ret (.float .f64 l) w)) (e1 : floatBits .mul .f64 l 4609176140021203710 = some p) (k : Nat) (hk : floatOfInt .f64 e = k) (e2 : floatBits .add .f64 p k = some r) :
    Calls Try.prog 43 #[.float .f64 x] w (Ret (.float .f64 r) w) := by
  have H := Lib.hid hF; have HL := Lib.hid hL; clear hF hL
  have o1 := fun t w => run_float_arith (P := Try.prog) w .mul t .f64 _ _ _ e1
  have o2 := fun t w => run_float_arith (P := Try.prog) w .add t .f64 _ _ _ e2
  clear e1 e2
  go_enter Try.func43, Try.ntmps43
  go_wp2_with (first | (go_at_call 51; refine (H.out _).mono ?_; rintro e w' ⟨rfl, m, rfl⟩) | (go_at_call 33; refine (HL.out _).mono ?_; rintro e w' ⟨rfl, m, rfl⟩))
  go_ret
  exact ⟨rfl, _, rfl⟩
theorem add_nan_none {l c : Nat} (h : NaNW l) : floatBits .add .f64 l c = none := by
  obtain ⟨s, f, hr⟩ := read_nan h
  show double.add l c = none
  unfold Format.add; rw [hr]; rfl
set_option maxHeartbeats 400000 in
theorem log2_nan (x f l : Nat) (e : Int) (w : World) (hF : ∀ w, Calls Try.prog 51 #[.float .f64 x] w (Ret (.tuple #[.float .f64 f, .int .i64 e]) w)) (ho : (FloatKind.f64.format.order f 4602678819172646912 == some .eq) = false)
    (hL : ∀ w, Calls Try.prog 33 #[.float .f64 f] w (Ret (.float .f64 l) w)) (hn : NaNW l) (k : Nat) (hk : floatOfInt .f64 e = k) :
    Calls Try.prog 43 #[.float .f64 x] w (RetNaN w) := by
  have H := Lib.hid hF; have HL := Lib.hid hL; clear hF hL
  have HN := Lib.hid (mul_nan_none (c := 4609176140021203710) hn); clear hn
  go_enter Try.func43, Try.ntmps43
  go_wp2_with fail
  refine (H.out _).mono ?_; rintro e w' ⟨rfl, m, rfl⟩
  go_wp2_with fail
  refine (HL.out _).mono ?_; rintro e w' ⟨rfl, m1, rfl⟩
  obtain ⟨n, hn, hop⟩ := run_float_none .mul (by simp) 22 _ _ (w.drewN (m + m1)) HN.out
  obtain ⟨n2, hn2, hop2⟩ := run_float_none .add (by simp) 22 n k (w.drewN (m + m1 + 1)) (add_nan_none hn)
  go_wp2
  go_ret
  exact ⟨n2, _, hn2, rfl, rfl⟩
set_option maxHeartbeats 400000 in
theorem implLog2_of (x r : Nat) (w : World) (h : ∀ w, Calls Try.prog 43 #[.float .f64 x] w (Ret (.float .f64 r) w)) : Calls Try.prog 23 #[.float .f64 x] w (Ret (.float .f64 r) w) := by
  have H := Lib.hid h; clear h
  go_enter Try.func23, Try.ntmps23
  go_wp2_with (first | (go_at_call 43; refine (H.out _).mono ?_; rintro e w' ⟨rfl, m, rfl⟩) | go_in)
  go_ret
  exact ⟨rfl, _, rfl⟩
set_option maxHeartbeats 400000 in
theorem implLog2_ofNaN (x : Nat) (w : World) (h : ∀ w, Calls Try.prog 43 #[.float .f64 x] w (RetNaN w)) : Calls Try.prog 23 #[.float .f64 x] w (RetNaN w) := by
  have H := Lib.hid h; clear h
  go_enter Try.func23, Try.ntmps23
  go_wp2_with (first | (go_at_call 43; refine (H.out _).mono ?_; rintro e w' ⟨n, m, hn, rfl, rfl⟩) | go_in)
  go_ret
  exact ⟨n, _, hn, rfl, rfl⟩

theorem half_word : Num 4602678819172646912 ∧ val 4602678819172646912 = 1 / 2 := c_half
theorem nearest_zero : floatOfInt .f64 0 = 0 := by decide +kernel

theorem ord_half_ne {x : Nat} (hx : x < 18446744073709551616) (h : x ≠ 4602678819172646912) : (FloatKind.f64.format.order x 4602678819172646912 == some .eq) = false := by
  rcases cls hx with h1 | h1 | h1
  · rw [ord_fin h1 half_word.1]
    have hv : val x ≠ val 4602678819172646912 := by
      intro c
      rw [half_word.2] at c
      obtain ⟨xw, xv⟩ := pos_word h1 (by rw [c]; decide +kernel)
      have hh := (word_pos (n := 4602678819172646912) (by decide)).2
      rw [half_word.2] at hh
      have e : rv x = rv 4602678819172646912 := by rw [← xv, c, hh]
      have a1 : x ≤ 4602678819172646912 := rv_le_iff.1 (by rw [e]; exact Rat.le_refl)
      have a2 : 4602678819172646912 ≤ x := rv_le_iff.1 (by rw [e]; exact Rat.le_refl)
      omega
    unfold cmp; rw [if_neg hv]; split <;> rfl
  · rcases h1 with rfl | rfl
    · rw [ord_pinf_l half_word.1]; rfl
    · rw [ord_ninf_l half_word.1]; rfl
  · rw [ord_nan_l h1]; rfl

theorem l2_zero {x : Nat} (hx : x < 18446744073709551616) (w : World) (hz : x % 9223372036854775808 = 0) : Calls Try.prog 23 #[.float .f64 x] w (Ret (.float .f64 18442240474082181120) w) := by
  refine implLog2_of x _ w fun w => ?_
  have hn : Num x := ⟨hx, by rw [hz]; decide⟩
  have hv : val x = 0 := by rw [val_eq, hz, rv_zero]; simp
  have ho := ord_eq hn fin_zero (by rw [hv, val_zero])
  exact log2_at x x 18442240474082181120 18442240474082181120 _ 0 w (fun w => Frexp_of x _ _ _ w rfl fun w => frexp_zero x w ho) (ord_half_ne hx (by omega)) (log_zero · hz) (by decide +kernel) 0 nearest_zero (by decide +kernel)
theorem l2_top (w : World) : Calls Try.prog 23 #[.float .f64 9218868437227405312] w (Ret (.float .f64 9218868437227405312) w) := by
  refine implLog2_of _ _ w fun w => ?_
  exact log2_at _ _ 9218868437227405312 9218868437227405312 _ 0 w (fun w => Frexp_of _ _ _ _ w rfl fun w => frexp_inf _ w (.inl rfl) (by rw [ord_pinf_l fin_zero]; rfl)) (ord_half_ne (by decide) (by decide)) log_top (by decide +kernel) 0 nearest_zero (by decide +kernel)

/-- Frexp of a word at which the logarithm is a not-a-number gives such a word again. -/
theorem frexp_neg {x : Nat} (hx : x < 18446744073709551616) (h : NaNW x ∨ (9223372036854775808 ≤ x ∧ x % 9223372036854775808 ≠ 0)) : ∃ f : Nat, ∃ e : Int, f < 18446744073709551616 ∧ f ≠ 4602678819172646912 ∧ (NaNW f ∨ (9223372036854775808 ≤ f ∧ f % 9223372036854775808 ≠ 0)) ∧
    ∀ w, Calls Try.prog 51 #[.float .f64 x] w (Ret (.tuple #[.float .f64 f, .int .i64 e]) w) := by
  rcases cls hx with h1 | h1 | h1
  · have h2 : 9223372036854775808 ≤ x ∧ x % 9223372036854775808 ≠ 0 := h.resolve_left (fun c => nan_not_fin c h1)
    have hs : sgn x = true := by unfold sgn; simp; omega
    have hv : val x < 0 := by rw [val_eq, hs]; have := rv_pos h2.2; simp; grind
    have ho := ord_lt h1 fin_zero (by rw [val_zero]; exact hv)
    have key : ∃ y, ∃ e0 : Int, -52 ≤ e0 ∧ e0 ≤ 0 ∧ 9223372036854775808 ≤ y ∧ y < 18446744073709551616 ∧ ∀ w, Calls Try.prog 54 #[.float .f64 x] w (Ret (.tuple #[.float .f64 y, .int .i64 e0]) w) := by
      have an := num_abs h1
      obtain ⟨cn, cv⟩ := word_pos (n := 4503599627370496) (by decide)
      rcases Rat.le_total (a := val 4503599627370496) (b := val (x % 9223372036854775808)) with c | c
      · refine ⟨x, 0, by omega, by omega, h2.1, hx, fun w => normalize_nor x w hx ?_⟩
        rw [ord_fin an cn]; unfold cmp; rw [if_neg (by grind)]; split <;> rfl
      · rcases Decidable.em (val (x % 9223372036854775808) = val 4503599627370496) with d | d
        · refine ⟨x, 0, by omega, by omega, h2.1, hx, fun w => normalize_nor x w hx ?_⟩
          rw [ord_fin an cn]; unfold cmp; rw [if_neg (by grind)]; split <;> rfl
        · have kn := (word_pos (n := 4841369599423283200) (by decide)).1
          obtain ⟨y, y1, y2, y3⟩ := mul_spec h1 kn
          rw [hs, show sgn 4841369599423283200 = false by decide] at y3
          refine ⟨y, -52, by omega, by omega, ?_, y2.small, fun w => normalize_sub x y w hx (ord_lt an cn (by grind)) y1⟩
          unfold sgn at y3; simp at y3; omega
    obtain ⟨y, e0, k1, k2, k3, k4, k5⟩ := key
    refine ⟨_, _, ?_, ?_, ?_, fun w => Frexp_of x _ _ _ w rfl fun w => frexp_num x y e0 w h1 (by rw [ho]; rfl) k5 k1 k2 k4⟩
    · omega
    · omega
    · right; omega
  · have hi : x = 18442240474082181120 := by
      rcases h1 with h1 | h1
      · subst h1
        rcases h with h | h
        · exact absurd (show InfW 9218868437227405312 from .inl rfl) (fun c => inf_not_nan c h)
        · omega
      · exact h1
    subst hi
    exact ⟨_, 0, hx, by decide, h, fun w => Frexp_of _ _ _ _ w rfl fun w => frexp_inf _ w h1 (by rw [ord_ninf_l fin_zero]; rfl)⟩
  · exact ⟨x, 0, hx, by intro c; subst c; have := h1.2; omega, h, fun w => Frexp_of _ _ _ _ w rfl fun w => frexp_nan _ w h1⟩
theorem l2_nan {x : Nat} (hx : x < 18446744073709551616) (h : NaNW x ∨ (9223372036854775808 ≤ x ∧ x % 9223372036854775808 ≠ 0)) (w : World) : Calls Try.prog 23 #[.float .f64 x] w (RetNaN w) := by
  obtain ⟨f, e, f1, f2, f3, f4⟩ := frexp_neg hx h
  obtain ⟨n, hn, hl⟩ := log_nan f1 f3
  exact implLog2_ofNaN _ w fun w => log2_nan x f n e w f4 (ord_half_ne f1 f2) hl hn _ rfl

theorem c_inv2 : Num 4609176140021203710 ∧ 1477 / 1024 ≤ val 4609176140021203710 ∧ val 4609176140021203710 ≤ 1478 / 1024 := by
  obtain ⟨a, b⟩ := cst (w := 4609176140021203710) 1022 6497320848556798 (by decide) (by decide) (by decide) (by decide)
  rw [b, show ((1022 : Nat) : Int) - 1074 = -52 by omega, pwm52, show ((6497320848556798 : Nat) : Rat) = 6497320848556798 by rfl]; unfold uu; exact ⟨a, by grind, by grind⟩

theorem l2_pos {x : Nat} (h0 : 0 < x) (hx : x < infR) : ∃ r, Num r ∧ (1024 * 2 ^ 52 ≤ x → 0 < val r) ∧ (x ≤ 1022 * 2 ^ 52 → val r < 0) ∧ ∀ w, Calls Try.prog 23 #[.float .f64 x] w (Ret (.float .f64 r) w) := by
  obtain ⟨m, e, m1, e1, e2, e3, hF⟩ := frexp_pos h0 hx
  by_cases hm : m = 0
  · subst hm
    rw [Nat.zero_add] at hF
    obtain ⟨kn, kv⟩ := ofInt_val (e - 1) (by omega)
    refine ⟨_, kn, fun c => ?_, fun c => ?_, fun w => implLog2_of x _ w fun w => log2_half x _ e w hF (ord_eq half_word.1 half_word.1 rfl) (by omega) (by omega)⟩
    · rw [kv]
      have := e2 c
      have h1 : ((0 : Int) : Rat) < ((e - 1 : Int) : Rat) := Rat.intCast_lt_intCast.2 (by omega)
      exact h1
    · rw [kv]
      have := e3 c
      have h1 : ((e - 1 : Int) : Rat) < ((0 : Int) : Rat) := Rat.intCast_lt_intCast.2 (by omega)
      exact h1
  · have fx : m + 4602678819172646912 < infR := by unfold infR; omega
    obtain ⟨l, a1, a2, a3, a4, a5, a6, a7, a8, a9⟩ := log_pos (x := m + 4602678819172646912) (by omega) fx
    have fv := (word_pos fx).2
    have hneg : val l < 0 := a5 (by rw [fv, ← rv_one, rv_lt_iff]; omega)
    have hlo := a8 (by omega)
    obtain ⟨cn, c0, c1⟩ := c_inv2
    have kb := mul_bound (show ab (val l) ≤ 1265 / 1024 by rw [ab_le]; grind) (show ab (val 4609176140021203710) ≤ 1478 / 1024 by rw [ab_le]; grind)
    obtain ⟨p, pe, pr⟩ := mul_r a1 cn (by grind)
    have p0 : val p ≤ 0 := pr.nonpos (by
      have := Rat.mul_nonneg (show 0 ≤ -val l by grind) (show 0 ≤ val 4609176140021203710 by grind); grind)
    have p1 := pr.lok (-1826) (-(1826 / 1024)) (by omega) (by decide +kernel) (by rw [ab_le] at kb; grind)
    obtain ⟨kn, kv⟩ := ofInt_val e (by omega)
    have kr1 : (e : Rat) ≤ ((1100 : Int) : Rat) := Rat.intCast_le_intCast.2 (by omega)
    have kr2 : ((-1100 : Int) : Rat) ≤ (e : Rat) := Rat.intCast_le_intCast.2 (by omega)
    rw [show (((1100 : Int)) : Rat) = 1100 from rfl] at kr1
    rw [show ((((-1100 : Int))) : Rat) = -1100 by rfl] at kr2
    obtain ⟨r, re, rr⟩ := add_r pr.fin kn (by rw [kv, ab_le]; grind)
    rw [kv] at rr
    refine ⟨r, rr.fin, fun c => ?_, fun c => ?_, fun w => implLog2_of x _ w fun w => log2_at x _ l p r e w hF (ord_half_ne (by omega) (by omega)) a9 pe _ rfl re⟩
    · have h1 : ((2 : Int) : Rat) ≤ (e : Rat) := Rat.intCast_le_intCast.2 (e2 c)
      rw [show (((2 : Int)) : Rat) = 2 from rfl] at h1
      have := rr.lok 222 (222 / 1024) (by omega) (by decide +kernel) (by grind)
      grind
    · have h2 : e ≤ -1 := by rcases e3 c with d | d; exact d; omega
      have h1 : (e : Rat) ≤ ((-1 : Int) : Rat) := Rat.intCast_le_intCast.2 h2
      rw [show ((((-1 : Int))) : Rat) = -1 by rfl] at h1
      have := rr.hik (-1024) (-1) (by omega) (by decide +kernel) (by grind)
      grind
end Go.Proofs.Ytffflefdmhdhnaa
