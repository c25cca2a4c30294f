/- What impl.Log1p returns at numbers, and the walks of laws.FnLog1pNumber and FnLog1pSign. -/
import Derived.Test.YtffflefdmhdhnaaLpN
namespace Go.Proofs.Ytffflefdmhdhnaa
open Go.RowKit Flo Ieee

theorem ordw_lt {a b : Nat} (hb : b < infR) (h : a < b) : FloatKind.f64.format.order a b = some .lt := by
  obtain ⟨an, av⟩ := word_pos (n := a) (by omega)
  obtain ⟨bn, bv⟩ := word_pos hb
  exact ord_lt an bn (by rw [av, bv, rv_lt_iff]; exact h)
theorem ordw_not {a b : Nat} (ha : a < infR) (h : b ≤ a) : (FloatKind.f64.format.order a b == some .lt) = false := by
  obtain ⟨an, av⟩ := word_pos ha
  obtain ⟨bn, bv⟩ := word_pos (n := b) (by omega)
  have h2 : val b ≤ val a := by rw [av, bv, rv_le_iff]; exact h
  rw [ord_fin an bn]; unfold cmp; rw [if_neg (by grind)]; split <;> rfl

theorem c_S : val 4601133428098527026 = 7461808180621106 * (uu / 2) := by
  obtain ⟨a, b⟩ := cst (w := 4601133428098527026) 1020 7461808180621106 (by decide) (by decide) (by decide) (by decide)
  rw [b, show ((1020 : Nat) : Int) - 1074 = -54 by omega, pwm54]; rfl
theorem c_S2H : Num 13822319951937112167 ∧ val 13822319951937112167 = -(5276295164430439 * (uu / 2)) := by
  refine ⟨⟨by decide, by decide⟩, ?_⟩
  have := rv_unit 1020 5276295164430439 (by decide) (.inr (by decide))
  rw [show 1020 * 2 ^ 52 + 5276295164430439 = 13822319951937112167 % 9223372036854775808 by decide, show ((1020 : Nat) : Int) - 1074 = -54 by omega, pwm54] at this
  rw [val_eq, show sgn 13822319951937112167 = true by decide, if_pos rfl, this]; rfl

/-- x - x * x * 0.5 -/
theorem small_part {x ax : Nat} (hx : Num x) (habx : (0 < val x ∧ val x = rv ax) ∨ (val x < 0 ∧ val x = -rv ax)) (hb : Bd (-54) (-29) (rv ax)) :
    ∃ t1 t2 res, double.mul x x = some t1 ∧ double.mul t1 4602678819172646912 = some t2 ∧ double.sub x t2 = some res ∧ Num res ∧ (0 < val x → 0 < val res) ∧ (val x < 0 → val res < 0) := by
  have hq : val x * val x = rv ax * rv ax := by
    rcases habx with ⟨_, c⟩ | ⟨_, c⟩ <;> rw [c] <;> grind
  obtain ⟨t1, e1, n1, b1, _⟩ := fmul hx hx (-108) (-58) (by rw [hq]; exact (hb.mul hb).wide (by omega) (by omega)) (by omega) (by omega)
  obtain ⟨nh, vh⟩ := c_half
  have hq2 : Bd (-109) (-59) (val t1 * val 4602678819172646912) := by
    rw [vh, ← pwm1]
    have hhalf : Bd (-1) (-1) (pw (-1)) := ⟨Rat.le_refl, Rat.le_refl⟩
    exact (b1.mul hhalf).wide (by omega) (by omega)
  obtain ⟨t2, e2, n2, b2, _⟩ := fmul n1 nh (-109) (-59) hq2 (by omega) (by omega)
  have p2 := b2.pos
  have g1 := pw_mono (show (-59 : Int) ≤ -55 by omega)
  have g2 := pw_pred (-54)
  rw [show (-54 : Int) - 1 = -55 by omega] at g2
  have g3 := pw_pos (-55)
  have g4 := b2.2
  have g5 := hb.1
  have g6 := hb.2
  have g7 := pw_mono (show (-29 : Int) ≤ 0 by omega)
  rw [pw_zero] at g7
  have hlt : val t2 < rv ax := by grind
  obtain ⟨res, e3, r3⟩ := sub_r hx n2 (by
    rw [ab_le]
    rcases habx with ⟨_, c⟩ | ⟨_, c⟩ <;> rw [c] <;> grind)
  refine ⟨t1, t2, res, e1, e2, e3, r3.fin, fun c => r3.diff_pos ?_, fun c => r3.diff_neg (by grind)⟩
  rcases habx with ⟨_, d⟩ | ⟨d, _⟩
  · rw [d]; exact hlt
  · grind

set_option maxHeartbeats 2000000 in
/-- Log1p of a number greater than -1 that is not zero. -/
theorem log1p_num {x : Nat} (hx : Num x) (h1 : -1 < val x) (hne : x % 9223372036854775808 ≠ 0) : ∃ r, Num r ∧ (0 < val x → 0 < val r) ∧ (val x < 0 → val r < 0) ∧ ∀ w, Calls Try.prog 39 #[.float .f64 x] w (Ret (.float .f64 r) w) := by
  have u0 := uu_pos
  obtain ⟨mn, mv⟩ := m1_word
  have h0 := ord_gt hx mn (by rw [mv]; exact h1)
  obtain ⟨ax, ha⟩ : ∃ ax, x % 9223372036854775808 = ax := ⟨_, rfl⟩
  have hxs := hx.1
  have hai := hx.2
  have hav := ab_val x
  rw [ha] at hai hav hne
  have habx : (0 < val x ∧ val x = rv ax) ∨ (val x < 0 ∧ val x = -rv ax) := by
    have hp := rv_pos hne
    unfold ab at hav
    split at hav
    · left; grind
    · right; grind
  have rvS : rv 4601133428098527026 = 7461808180621106 * (uu / 2) := by rw [← (word_pos (n := 4601133428098527026) (by decide)).2]; exact c_S
  rcases Nat.lt_or_ge ax 4601133428098527026 with cS | cS
  · have hs := ordw_lt (a := ax) (b := 4601133428098527026) (by decide) cS
    have hrvS : rv ax ≤ 425 / 1024 := by
      have : rv ax ≤ rv 4601133428098527026 := by rw [rv_le_iff]; omega
      have e : (7461808180621106 : Rat) * (uu / 2) ≤ 425 / 1024 := by unfold uu; grind
      grind
    rcases Nat.lt_or_ge ax 4476578029606273024 with cM | cM
    · have hs2 := ordw_lt (a := ax) (b := 4476578029606273024) (by decide) cM
      rcases Nat.lt_or_ge ax 4363988038922010624 with cT | cT
      · -- it is returned
        exact ⟨x, hx, fun c => c, fun c => c, fun w => log1p_tiny x ax w hx ha h0 hs hs2 (ordw_lt (by decide) cT)⟩
      · -- x - x * x * 0.5
        have hb : Bd (-54) (-29) (rv ax) := by
          refine ⟨?_, ?_⟩
          · have h3 := rv_unit 968 (2 ^ 52) (by omega) (.inr (by omega))
            rw [show 968 * 2 ^ 52 + 2 ^ 52 = 4363988038922010624 by decide, ← pw_nat, ← pw_add, show ((52 : Nat) : Int) + (((968 : Nat) : Int) - 1074) = -54 by omega] at h3
            rw [← h3, rv_le_iff]; exact cT
          · have h3 := rv_unit 993 (2 ^ 52) (by omega) (.inr (by omega))
            rw [show 993 * 2 ^ 52 + 2 ^ 52 = 4476578029606273024 by decide, ← pw_nat, ← pw_add, show ((52 : Nat) : Int) + (((993 : Nat) : Int) - 1074) = -29 by omega] at h3
            rw [← h3, rv_le_iff]; omega
        obtain ⟨t1, t2, res, e1, e2, e3, nr, g1, g2⟩ := small_part hx habx hb
        exact ⟨res, nr, g1, g2, fun w => lpw_small x ax t1 t2 res w hx ha h0 hs hs2 (ordw_not hai cT) e1 e2 e3⟩
    · have hs2 := ordw_not hai cM
      obtain ⟨sn, sv'⟩ := c_S2H
      have bf : ab (val x) ≤ 425 / 1024 := by rw [hav]; exact hrvS
      rcases Rat.le_total (a := val x) (b := val 13822319951937112167) with c2 | c2
      · -- the sum 1 + x
        have hlow : val x ≤ -(299 / 1024) := by
          rw [sv'] at c2
          have e : (299 : Rat) / 1024 ≤ 5276295164430439 * (uu / 2) := by unfold uu; grind
          grind
        have hxn : val x < 0 := by
          have e : (0 : Rat) < 299 / 1024 := by decide +kernel
          grind
        obtain ⟨u, eu, u1, u2, u3, u4, _, u6⟩ := front hx h1 (by grind) (.inr hlow)
        have u4' := u4 hxn
        obtain ⟨d, e, c, ed, ee, ec, nc, bc⟩ := u6 (by omega)
        unfold infR at u2
        obtain ⟨r, rn, r1, r2, rc⟩ := lp_N2F2 hx h0 (by rw [ha]; exact hs) (by rw [ha]; exact hs2) (ord_not_gt hx sn c2) (by rw [ha]; exact ordw_lt (by decide) (by omega)) eu ed ee ec nc bc (by omega) (by omega) (by omega) (.inr (by omega))
        exact ⟨r, rn, fun c => by grind, fun _ => r2 (by omega), rc⟩
      · rcases Decidable.em (val x = val 13822319951937112167) with c3 | c3
        · have hlow : val x ≤ -(299 / 1024) := by
            rw [c3, sv']
            have e : (299 : Rat) / 1024 ≤ 5276295164430439 * (uu / 2) := by unfold uu; grind
            grind
          have hxn : val x < 0 := by
            have e : (0 : Rat) < 299 / 1024 := by decide +kernel
            grind
          obtain ⟨u, eu, u1, u2, u3, u4, _, u6⟩ := front hx h1 (by grind) (.inr hlow)
          have u4' := u4 hxn
          obtain ⟨d, e, c, ed, ee, ec, nc, bc⟩ := u6 (by omega)
          unfold infR at u2
          obtain ⟨r, rn, r1, r2, rc⟩ := lp_N2F2 hx h0 (by rw [ha]; exact hs) (by rw [ha]; exact hs2) (ord_not_gt hx sn (by grind)) (by rw [ha]; exact ordw_lt (by decide) (by omega)) eu ed ee ec nc bc (by omega) (by omega) (by omega) (.inr (by omega))
          exact ⟨r, rn, fun c => by grind, fun _ => r2 (by omega), rc⟩
        · -- x itself is f
          obtain ⟨hh1, h, eh1, eh, nh, hp0, hp1, hp2, hp3⟩ := hf_part hx bf
          obtain ⟨tf, s, es1, es2, ns, bs, s0, s1⟩ := s_part hx bf
          obtain ⟨z, ez, nz, z0, z1⟩ := sq_part ns bs
          obtain ⟨q1, q2, q3, q4, q5, q6, q7, q8, q9, q10, q11, q12, R, rh, r1, r2, r3, r4, r5, r6, r7, r8, r9, r10, r11, r12, r13, r14, nrh, rh0, rh1⟩ := r1p_part nz z0 z1 nh hp0 hp1
          obtain ⟨mm, em, nm, bm, m0, m1⟩ := m_part ns bs nrh rh0 rh1
          obtain ⟨d2, res, ed2, er, nr, t1, t2⟩ := tail0 nm bm nh hp0 hp1 hx bf
          refine ⟨res, nr, fun c => t1 c (m0 (s0 (by grind))) (hp2 ?_), fun c => t2 c (m1 (s1 (by grind))), fun w => ?_⟩
          · rcases habx with ⟨_, d⟩ | ⟨d, _⟩
            · rw [d]
              have h3 := rv_unit 993 (2 ^ 52) (by omega) (.inr (by omega))
              rw [show 993 * 2 ^ 52 + 2 ^ 52 = 4476578029606273024 by decide, ← pw_nat, ← pw_add, show ((52 : Nat) : Int) + (((993 : Nat) : Int) - 1074) = -29 by omega] at h3
              have h4 : pw (-29) ≤ rv ax := by rw [← h3, rv_le_iff]; exact cM
              have h5 := pw_mono (show (-1000 : Int) ≤ -29 by omega)
              grind
            · grind
          · exact lpw_mid x ax _ _ _ _ _ _ _ _ _ _ _ _ _ _ _ _ _ _ _ _ _ _ w hx ha h0 hs hs2 (ord_gt hx sn (by grind)) eh1 eh es1 es2 ez r1 r2 r3 r4 r5 r6 r7 r8 r9 r10 r11 r12 r13 r14 em ed2 er
  · have hs := ordw_not hai cS
    have hbig : 424 / 1024 ≤ rv ax := by
      have : rv 4601133428098527026 ≤ rv ax := by rw [rv_le_iff]; exact cS
      have e : (424 : Rat) / 1024 ≤ 7461808180621106 * (uu / 2) := by unfold uu; grind
      grind
    have h53 : rv 4845873199050653696 = 9007199254740992 := by
      have h3 := rv_unit 1075 (2 ^ 52) (by omega) (.inr (by omega))
      rw [show 1075 * 2 ^ 52 + 2 ^ 52 = 4845873199050653696 by decide, ← pw_nat, ← pw_add, show ((52 : Nat) : Int) + (((1075 : Nat) : Int) - 1074) = 53 by omega, pw53] at h3
      exact h3
    rcases Nat.lt_or_ge ax 4845873199050653696 with c5 | c5
    · have h5 := ordw_lt (a := ax) (b := 4845873199050653696) (by decide) c5
      have hle : rv ax ≤ 9007199254740992 := by rw [← h53, rv_le_iff]; omega
      have hor : 424 / 1024 ≤ val x ∨ val x ≤ -(299 / 1024) := by
        rcases habx with ⟨_, d⟩ | ⟨_, d⟩
        · left; rw [d]; exact hbig
        · right; rw [d]
          have e : (299 : Rat) / 1024 ≤ 424 / 1024 := by decide +kernel
          grind
      obtain ⟨u, eu, u1, u2, u3, u4, u5, u6⟩ := front hx h1 (by rcases habx with ⟨_, d⟩ | ⟨_, d⟩ <;> grind) hor
      unfold infR at u2
      have hp : 4608308318706860032 ≤ u ∨ u ≤ 4604930618986332160 := by
        rcases habx with ⟨d, _⟩ | ⟨d, _⟩
        · left; have := u3 d; omega
        · right; have := u4 d; omega
      rcases Nat.lt_or_ge u (1024 * 2 ^ 52) with ck | ck
      · obtain ⟨d, e, c, ed, ee, ec, nc, bc⟩ := u6 ck
        obtain ⟨r, rn, r1, r2, rc⟩ := lp_N1F2 hx h0 (by rw [ha]; exact hs) (by rw [ha]; exact h5) eu ed ee ec nc bc (by omega) u2 (by omega) hp
        exact ⟨r, rn, fun c => r1 (by have := u3 c; omega), fun c => r2 (by have := u4 c; omega), rc⟩
      · obtain ⟨d, e, c, ed, ee, ec, nc, bc⟩ := u5 ck
        obtain ⟨r, rn, r1, r2, rc⟩ := lp_N1F1 hx h0 (by rw [ha]; exact hs) (by rw [ha]; exact h5) eu ed ee ec nc bc (by omega) u2 (by omega) hp
        exact ⟨r, rn, fun c => r1 (by have := u3 c; omega), fun c => r2 (by have := u4 c; omega), rc⟩
    · have h5 := ordw_not hai c5
      have hge : 9007199254740992 ≤ rv ax := by rw [← h53, rv_le_iff]; exact c5
      have hxp : 0 < val x := by
        rcases habx with ⟨d, _⟩ | ⟨_, d⟩
        · exact d
        · grind
      have hsg := val_sign.1 hxp
      have hxlt : x < 9223372036854775808 := by unfold sgn at hsg; simp at hsg; omega
      have hxa : x = ax := by omega
      unfold infR at hai
      obtain ⟨r, rn, r1, r2, rc⟩ := lp_N1F3 hx h0 (by rw [ha]; exact hs) (by rw [ha]; exact h5) (by omega) (by omega) (by omega) (.inl (by omega))
      exact ⟨r, rn, fun _ => r1 (by omega), fun c => by grind, rc⟩

set_option maxHeartbeats 400000 in
theorem n1_le (x : Nat) (w : World) (o : Ordering) (h : FloatKind.f64.format.order x 13830554455654793216 = some o) (ho : o = .lt ∨ o = .eq) : Calls Try.prog 4 #[.float .f64 x] w (Ret (.bool true) w) := by
  rcases ho with rfl | rfl <;>
  · go_enter Try.func4, Try.ntmps4
    go_wp2
    go_ret
    exact ⟨rfl, 0, rfl⟩
set_option maxHeartbeats 400000 in
theorem n1_not (x : Nat) (w : World) (hx : x < 18446744073709551616) (h1 : (FloatKind.f64.format.order x 13830554455654793216 == some .lt) = false) (h2 : (FloatKind.f64.format.order x 13830554455654793216 == some .eq) = false) (hf : finB x = false) : Calls Try.prog 4 #[.float .f64 x] w (Ret (.bool true) w) := by
  go_enter Try.func4, Try.ntmps4
  go_wp2_with (go_at_call 18; refine (isFinite_any _ _ hx).mono ?_; rintro e w' ⟨rfl, m, rfl⟩)
  go_ret
  exact ⟨rfl, _, rfl⟩
set_option maxHeartbeats 1000000 in
theorem n1_at (x r : Nat) (w : World) (h : FloatKind.f64.format.order x 13830554455654793216 = some .gt) (hx : Num x) (hr : Num r) (h1 : ∀ w, Calls Try.prog 19 #[.float .f64 x] w (Ret (.float .f64 r) w)) (b : Bool)
    (o1 : (FloatKind.f64.format.order r 0 == some .eq) = b) (o2 : (FloatKind.f64.format.order x 0 == some .eq) = b) : Calls Try.prog 4 #[.float .f64 x] w (Ret (.bool true) w) := by
  have H1 := Lib.hid h1; have H2 := Lib.hid (isFinite_fin x · hx); have H3 := Lib.hid (isFinite_fin r · hr)
  clear h1 hx hr
  cases b <;>
  · go_enter Try.func4, Try.ntmps4
    go_wp2_with fail
    refine (H2.out _).mono ?_; rintro e w' ⟨rfl, m1, rfl⟩
    go_wp2_with fail
    refine (H1.out _).mono ?_; rintro e w' ⟨rfl, m2, rfl⟩
    go_wp2_with fail
    refine (H3.out _).mono ?_; rintro e w' ⟨rfl, m3, rfl⟩
    go_wp2
    go_ret
    exact ⟨rfl, _, rfl⟩
theorem walk_FnLog1pNumber (x : Nat) (hx : x < 18446744073709551616) (w : World) :
    Calls Try.prog 4 #[.float .f64 x] w fun e w' => e = .returned (.bool true) ∧ Grown w w' := by
  refine Calls.mono ?_ fun _ _ => Ret.grown
  obtain ⟨mn, mv⟩ := m1_word
  rcases cls hx with hn | hi | hn
  · rcases Rat.le_total (a := val x) (b := -1) with c | c
    · rcases Decidable.em (val x = -1) with e | e
      · exact n1_le x w _ (ord_eq hn mn (by rw [mv]; exact e)) (.inr rfl)
      · exact n1_le x w _ (ord_lt hn mn (by rw [mv]; grind)) (.inl rfl)
    · rcases Decidable.em (val x = -1) with e | e
      · exact n1_le x w _ (ord_eq hn mn (by rw [mv]; exact e)) (.inr rfl)
      · have hgt : -1 < val x := by grind
        have og := ord_gt hn mn (by rw [mv]; exact hgt)
        by_cases hz : x % 9223372036854775808 = 0
        · have hv : val x = 0 := by rw [val_eq, hz, rv_zero]; simp
          have o0 := ord_eq hn fin_zero (by rw [hv, val_zero])
          exact n1_at x x w og hn hn (fun w => implLog1p_of _ _ w (log1p_zero hx hz)) true (by rw [o0]; rfl) (by rw [o0]; rfl)
        · obtain ⟨r, rn, r1, r2, rc⟩ := log1p_num hn hgt hz
          have hv := val_ne.2 hz
          refine n1_at x r w og hn rn (fun w => implLog1p_of _ _ w rc) false (ord_ne' rn fin_zero ?_) (ord_ne' hn fin_zero (by rw [val_zero]; exact hv))
          rw [val_zero]
          rcases Rat.le_total (a := 0) (b := val x) with d | d
          · have := r1 (by grind); grind
          · have := r2 (by grind); grind
  · rcases hi with rfl | rfl
    · exact n1_not _ w hx (by rw [ord_pinf_l mn]; rfl) (by rw [ord_pinf_l mn]; rfl) (by decide)
    · exact n1_le _ w _ (ord_ninf_l mn) (.inl rfl)
  · exact n1_not x w hx (by rw [ord_nan_l hn]; rfl) (by rw [ord_nan_l hn]; rfl) (finB_false hx (nan_not_fin hn))

set_option maxHeartbeats 400000 in
theorem s1_not (x : Nat) (w : World) (h : (FloatKind.f64.format.order x 13830554455654793216 == some .gt) = false) : Calls Try.prog 5 #[.float .f64 x] w (Ret (.bool true) w) := by
  go_enter Try.func5, Try.ntmps5
  go_wp2
  go_ret
  exact ⟨rfl, 0, rfl⟩
set_option maxHeartbeats 1000000 in
theorem s1_at (x r : Nat) (w : World) (h : FloatKind.f64.format.order x 13830554455654793216 = some .gt) (h1 : ∀ w, Calls Try.prog 19 #[.float .f64 x] w (Ret (.float .f64 r) w)) (o : Ordering)
    (o1 : FloatKind.f64.format.order r 0 = some o) (o2 : FloatKind.f64.format.order x 0 = some o) : Calls Try.prog 5 #[.float .f64 x] w (Ret (.bool true) w) := by
  have H1 := Lib.hid h1
  clear h1
  cases o <;>
  · go_enter Try.func5, Try.ntmps5
    go_wp2_with (go_at_call 19; refine (H1.out _).mono ?_; rintro e w' ⟨rfl, m2, rfl⟩)
    go_ret
    exact ⟨rfl, _, rfl⟩
theorem walk_FnLog1pSign (x : Nat) (hx : x < 18446744073709551616) (w : World) :
    Calls Try.prog 5 #[.float .f64 x] w fun e w' => e = .returned (.bool true) ∧ Grown w w' := by
  refine Calls.mono ?_ fun _ _ => Ret.grown
  obtain ⟨mn, mv⟩ := m1_word
  rcases cls hx with hn | hi | hn
  · rcases Rat.le_total (a := val x) (b := -1) with c | c
    · exact s1_not x w (ord_not_gt hn mn (by rw [mv]; exact c))
    · rcases Decidable.em (val x = -1) with e | e
      · exact s1_not x w (ord_not_gt hn mn (by rw [mv, e]; exact Rat.le_refl))
      · have hgt : -1 < val x := by grind
        have og := ord_gt hn mn (by rw [mv]; exact hgt)
        by_cases hz : x % 9223372036854775808 = 0
        · have hv : val x = 0 := by rw [val_eq, hz, rv_zero]; simp
          have o0 := ord_eq hn fin_zero (by rw [hv, val_zero])
          exact s1_at x x w og (fun w => implLog1p_of _ _ w (log1p_zero hx hz)) .eq o0 o0
        · obtain ⟨r, rn, r1, r2, rc⟩ := log1p_num hn hgt hz
          have hv := val_ne.2 hz
          rcases Rat.le_total (a := 0) (b := val x) with d | d
          · have hp : 0 < val x := by grind
            exact s1_at x r w og (fun w => implLog1p_of _ _ w rc) .gt (ord_gt rn fin_zero (by rw [val_zero]; exact r1 hp)) (ord_gt hn fin_zero (by rw [val_zero]; exact hp))
          · have hp : val x < 0 := by grind
            exact s1_at x r w og (fun w => implLog1p_of _ _ w rc) .lt (ord_lt rn fin_zero (by rw [val_zero]; exact r2 hp)) (ord_lt hn fin_zero (by rw [val_zero]; exact hp))
  · rcases hi with rfl | rfl
    · exact s1_at _ _ w (ord_pinf_l mn) (fun w => implLog1p_of _ _ w log1p_top) .gt (ord_pinf_l fin_zero) (ord_pinf_l fin_zero)
    · exact s1_not _ w (by rw [ord_ninf_l mn]; rfl)
  · exact s1_not x w (by rw [ord_nan_l hn]; rfl)
end Go.Proofs.Ytffflefdmhdhnaa
