/- The parts of a logarithm's straight-line text, each with its bounds. -/
import Derived.Test.YtffflefdmhdhnaaLo1
namespace Go.Proofs.Ytffflefdmhdhnaa.Flo
open Ieee

theorem s_part {f : Nat} (hf : Num f) (hb : ab (val f) ≤ 425 / 1024) : ∃ tf s, double.add 4611686018427387904 f = some tf ∧ double.div f tf = some s ∧ Num s ∧ ab (val s) ≤ 269 / 1024 ∧ (0 ≤ val f → 0 ≤ val s) ∧ (val f ≤ 0 → val s ≤ 0) := by
  obtain ⟨n2, v2⟩ := c_two
  have hb' := hb
  rw [ab_le] at hb'
  obtain ⟨tf, e1, r1⟩ := add_r n2 hf (by rw [v2, ab_le]; grind)
  rw [v2] at r1
  have t1 := r1.lok 1623 (1623 / 1024) (by omega) rfl (by grind)
  have t0 : val tf ≠ 0 := by grind
  have tp : 0 < val tf := by grind
  obtain ⟨q, hq⟩ : ∃ q, q = val f / val tf := ⟨_, rfl⟩
  have hqt : q * val tf = val f := by rw [hq, Rat.div_mul_cancel t0]
  have q1 : q ≤ 269 / 1024 := Rat.le_of_mul_le_mul_right (c := val tf) (by grind) tp
  have q2 : -(269 / 1024) ≤ q := Rat.le_of_mul_le_mul_right (c := val tf) (by grind) tp
  obtain ⟨s, e2, r2⟩ := div_r hf r1.fin t0 (by rw [← hq, ab_le]; grind)
  rw [← hq] at r2
  refine ⟨tf, s, e1, e2, r2.fin, r2.abk 269 (269 / 1024) (by omega) rfl (by rw [ab_le]; exact ⟨q2, q1⟩), fun h => r2.nonneg ?_, fun h => r2.nonpos ?_⟩
  · exact Rat.le_of_mul_le_mul_right (c := val tf) (by grind) tp
  · exact Rat.le_of_mul_le_mul_right (c := val tf) (by grind) tp

theorem sq_nonneg' (a : Rat) : 0 ≤ a * a := by
  rcases Rat.le_total (a := 0) (b := a) with h | h
  · exact Rat.mul_nonneg h h
  · have := Rat.mul_nonneg (show 0 ≤ -a by grind) (show 0 ≤ -a by grind); grind

theorem sq_part {s : Nat} (hs : Num s) (hb : ab (val s) ≤ 269 / 1024) : ∃ s2, double.mul s s = some s2 ∧ Num s2 ∧ 0 ≤ val s2 ∧ val s2 ≤ 71 / 1024 := by
  have k := mul_bound hb hb
  have h0 := sq_nonneg' (val s)
  obtain ⟨r, e, r1⟩ := mul_r hs hs (by grind)
  refine ⟨r, e, r1.fin, r1.nonneg h0, r1.hik 71 (71 / 1024) (by omega) rfl ?_⟩
  rw [ab_le] at k; grind

theorem hf_part {f : Nat} (hf : Num f) (hb : ab (val f) ≤ 425 / 1024) : ∃ h1 h, double.mul 4602678819172646912 f = some h1 ∧ double.mul h1 f = some h ∧ Num h ∧ 0 ≤ val h ∧ val h ≤ 89 / 1024 ∧ (pw (-1000) ≤ val f → val h < val f) ∧ (val f = 0 → val h = 0) := by
  obtain ⟨nh, vh⟩ := c_half
  have hb' := hb
  rw [ab_le] at hb'
  obtain ⟨h1, e1, r1⟩ := mul_r nh hf (by rw [vh, ab_le]; grind)
  rw [vh] at r1
  have b1 := r1.abk 213 (213 / 1024) (by omega) rfl (by rw [ab_le]; grind)
  have k := mul_bound b1 hb
  have hnn : 0 ≤ val h1 * val f := by
    rcases Rat.le_total (a := 0) (b := val f) with c | c
    · exact Rat.mul_nonneg (r1.nonneg (by grind)) c
    · have := r1.nonpos (by grind)
      have := Rat.mul_nonneg (show 0 ≤ -val h1 by grind) (show 0 ≤ -val f by grind); grind
  obtain ⟨h, e2, r2⟩ := mul_r r1.fin hf (by grind)
  refine ⟨h1, h, e1, e2, r2.fin, r2.nonneg hnn, r2.hik 89 (89 / 1024) (by omega) rfl (by rw [ab_le] at k; grind), fun hp => ?_, fun hz => ?_⟩
  · have hpp := pw_pos (-1000)
    have hle : val h ≤ val h1 := by
      refine r2.hi r1.fin.rep ?_
      have := Rat.mul_nonneg (show 0 ≤ val h1 from r1.nonneg (by grind)) (show 0 ≤ 1 - val f by grind); grind
    have hq : ab (1 / 2 * val f) = 1 / 2 * val f := by unfold ab; grind
    obtain ⟨d, d1, d2, d3⟩ := r1.delta (by
      rw [hq]
      have h3 := pw_mono (show (-1022 : Int) ≤ -1001 by omega)
      have h4 := pw_pred (-1000)
      rw [show (-1000 : Int) - 1 = -1001 by omega] at h4
      grind)
    rw [uu_eq] at d1 d2
    have u1 := uu_small
    have hfp : 0 < val f := by grind
    have := Rat.mul_nonneg (show 0 ≤ uu - d by grind) (Rat.le_of_lt hfp)
    have := Rat.mul_nonneg (show 0 ≤ 1 / 2 - uu by grind) (Rat.le_of_lt hfp)
    grind
  · refine r2.zero ?_
    rw [hz]; simp

/-- s * (the rest), with its sign. -/
theorem m_part {s rh : Nat} (hs : Num s) (hb : ab (val s) ≤ 269 / 1024) (hr : Num rh) (r0 : 0 ≤ val rh) (r1 : val rh ≤ 140 / 1024) :
    ∃ m, double.mul s rh = some m ∧ Num m ∧ ab (val m) ≤ 37 / 1024 ∧ (0 ≤ val s → 0 ≤ val m) ∧ (val s ≤ 0 → val m ≤ 0) := by
  have k := mul_bound hb (show ab (val rh) ≤ 140 / 1024 by rw [ab_le]; grind)
  obtain ⟨m, e, mr⟩ := mul_r hs hr (by grind)
  refine ⟨m, e, mr.fin, mr.abk 37 (37 / 1024) (by omega) rfl (by grind), fun h => mr.nonneg (Rat.mul_nonneg h r0), fun h => mr.nonpos ?_⟩
  have := Rat.mul_nonneg (show 0 ≤ -val s by grind) r0; grind

/-- The last line of both texts, where 'k' is whatever number: 'kh' the high part, 'kl' the low part. -/
theorem fin_part {m kl h f kh : Nat} (nm : Num m) (bm : ab (val m) ≤ 37 / 1024) (nk : Num kl) (bk : ab (val kl) ≤ 4 / 1024) (nh : Num h) (h0 : 0 ≤ val h) (h1 : val h ≤ 89 / 1024) (nf : Num f) (bf : ab (val f) ≤ 425 / 1024) (nkh : Num kh) (bkh : ab (val kh) ≤ 1000) :
    ∃ inner d a res, double.add m kl = some inner ∧ double.sub h inner = some d ∧ double.sub d f = some a ∧ double.sub kh a = some res ∧ Num res ∧ ab (val res) ≤ 1001 ∧ (709 / 1024 ≤ val kh → 154 / 1024 ≤ val res) ∧ (val kh ≤ -(709 / 1024) → val res ≤ -(243 / 1024)) ∧
      (-(710 / 1024) ≤ val kh → -(1265 / 1024) ≤ val res) ∧
      (val kh = 0 → val kl = 0 → (0 < val f → 0 ≤ val m → val h < val f → 0 < val res) ∧ (val f < 0 → val m ≤ 0 → val res < 0) ∧ (val f = 0 → val m = 0 → val h = 0 → val res = 0)) := by
  rw [ab_le] at bm bk bf bkh
  obtain ⟨inner, e1, r1⟩ := add_r nm nk (by rw [ab_le]; grind)
  have b1 := r1.abk 41 (41 / 1024) (by omega) rfl (by rw [ab_le]; grind)
  have b1' := b1
  rw [ab_le] at b1'
  obtain ⟨d, e2, r2⟩ := sub_r nh r1.fin (by rw [ab_le]; grind)
  have d1 := r2.hik 130 (130 / 1024) (by omega) rfl (by grind)
  have d2 := r2.lok (-41) (-(41 / 1024)) (by omega) (by decide +kernel) (by grind)
  obtain ⟨a, e3, r3⟩ := sub_r r2.fin nf (by rw [ab_le]; grind)
  have a1 := r3.hik 555 (555 / 1024) (by omega) rfl (by grind)
  have a2 := r3.lok (-466) (-(466 / 1024)) (by omega) (by decide +kernel) (by grind)
  obtain ⟨res, e4, r4⟩ := sub_r nkh r3.fin (by rw [ab_le]; grind)
  refine ⟨inner, d, a, res, e1, e2, e3, e4, r4.fin, ?_, fun c => ?_, fun c => ?_, fun c => ?_, fun c1 c2 => ⟨fun c3 c4 c5 => ?_, fun c3 c4 => ?_, fun c3 c4 c5 => ?_⟩⟩
  · rw [ab_le]
    refine ⟨r4.lok (-1025024) (-1001) (by omega) (by decide +kernel) (by grind), r4.hik 1025024 1001 (by omega) (by decide +kernel) (by grind)⟩
  · exact r4.lok 154 (154 / 1024) (by omega) rfl (by grind)
  · exact r4.hik (-243) (-(243 / 1024)) (by omega) (by decide +kernel) (by grind)
  · exact r4.lok (-1265) (-(1265 / 1024)) (by omega) (by decide +kernel) (by grind)
  · have i0 : 0 ≤ val inner := r1.nonneg (by grind)
    have dh : val d ≤ val h := r2.hi nh.rep (by grind)
    have an := r3.diff_neg (by grind)
    exact r4.diff_pos (by grind)
  · have i0 : val inner ≤ 0 := r1.nonpos (by grind)
    have dh : 0 ≤ val d := r2.nonneg (by grind)
    have an := r3.diff_pos (by grind)
    exact r4.diff_neg (by grind)
  · have i0 : val inner = 0 := r1.zero (by grind)
    have dh : val d = 0 := r2.zero (by grind)
    have an : val a = 0 := r3.zero (by grind)
    exact r4.zero (by grind)
end Go.Proofs.Ytffflefdmhdhnaa.Flo
