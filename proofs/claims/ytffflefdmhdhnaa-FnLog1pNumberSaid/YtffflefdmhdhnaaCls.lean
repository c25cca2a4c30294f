/- Words that are no numbers, and how words compare. -/
import Derived.Test.YtffflefdmhdhnaaWk
namespace Go.Proofs.Ytffflefdmhdhnaa
open Go.RowKit Flo Ieee

/-- An infinity. -/
def InfW (x : Nat) : Prop := x = 9218868437227405312 ∨ x = 18442240474082181120

theorem cls {x : Nat} (h : x < 18446744073709551616) : Num x ∨ InfW x ∨ NaNW x := by
  unfold Num InfW NaNW infR; omega

theorem format_double : FloatKind.f64.format = Ieee.double := rfl

theorem read_nan {x : Nat} (h : NaNW x) : ∃ s f, double.read x = .nan s f := by
  unfold Format.read
  simp only [double_sign, double_binade, double_infRung, double_least]
  obtain ⟨h1, h2⟩ := h
  rw [show (2 ^ 63 : Nat) = 9223372036854775808 by decide, show (2 ^ 52 : Nat) = 4503599627370496 by decide]
  rw [if_neg (by omega), if_neg (by unfold infR; omega), if_neg (by unfold infR; omega)]
  exact ⟨_, _, rfl⟩
theorem read_pinf : double.read 9218868437227405312 = .infinity false := by decide +kernel
theorem read_ninf : double.read 18442240474082181120 = .infinity true := by decide +kernel

theorem ord_nan_l {x y : Nat} (h : NaNW x) : FloatKind.f64.format.order x y = none := by
  obtain ⟨s, f, hr⟩ := read_nan h
  rw [format_double]; unfold Format.order; rw [hr]; rfl
theorem ord_nan_r {x y : Nat} (h : NaNW y) : FloatKind.f64.format.order x y = none := by
  obtain ⟨s, f, hr⟩ := read_nan h
  rw [format_double]; unfold Format.order; rw [hr]; cases double.read x <;> rfl
theorem ord_fin {x y : Nat} (hx : Num x) (hy : Num y) : FloatKind.f64.format.order x y = some (cmp (val x) (val y)) := order_spec hx hy
theorem ord_lt {x y : Nat} (hx : Num x) (hy : Num y) (h : val x < val y) : FloatKind.f64.format.order x y = some .lt := by
  rw [ord_fin hx hy]; unfold cmp; rw [if_pos h]
theorem ord_gt {x y : Nat} (hx : Num x) (hy : Num y) (h : val y < val x) : FloatKind.f64.format.order x y = some .gt := by
  rw [ord_fin hx hy]; unfold cmp; rw [if_neg (by grind), if_neg (by grind)]
theorem ord_eq {x y : Nat} (hx : Num x) (hy : Num y) (h : val x = val y) : FloatKind.f64.format.order x y = some .eq := by
  rw [ord_fin hx hy]; unfold cmp; rw [if_neg (by grind), if_pos h]
theorem read_fin_num {x : Nat} (h : Num x) : ∃ s m i, double.read x = .number s m i := by
  obtain ⟨m, i, h1, _⟩ := read_fin h; exact ⟨_, m, i, h1⟩
theorem ord_pinf_l {y : Nat} (hy : Num y) : FloatKind.f64.format.order 9218868437227405312 y = some .gt := by
  obtain ⟨s, m, i, h⟩ := read_fin_num hy
  rw [format_double]; unfold Format.order; rw [h, read_pinf]; rfl
theorem ord_pinf_r {y : Nat} (hy : Num y) : FloatKind.f64.format.order y 9218868437227405312 = some .lt := by
  obtain ⟨s, m, i, h⟩ := read_fin_num hy
  rw [format_double]; unfold Format.order; rw [h, read_pinf]; rfl
theorem ord_ninf_l {y : Nat} (hy : Num y) : FloatKind.f64.format.order 18442240474082181120 y = some .lt := by
  obtain ⟨s, m, i, h⟩ := read_fin_num hy
  rw [format_double]; unfold Format.order; rw [h, read_ninf]; rfl
theorem ord_ninf_r {y : Nat} (hy : Num y) : FloatKind.f64.format.order y 18442240474082181120 = some .gt := by
  obtain ⟨s, m, i, h⟩ := read_fin_num hy
  rw [format_double]; unfold Format.order; rw [h, read_ninf]; rfl
theorem ord_refl {x : Nat} (h : x < 18446744073709551616) (hn : ¬ NaNW x) : FloatKind.f64.format.order x x = some .eq := by
  rcases cls h with h1 | h1 | h1
  · exact ord_eq h1 h1 rfl
  · rcases h1 with rfl | rfl <;> decide +kernel
  · exact absurd h1 hn

theorem fin_zero : Num 0 := ⟨by decide, by decide⟩
theorem val_zero : val 0 = 0 := by unfold val; rw [if_neg (by decide)]; exact rv_zero
theorem fin_one : Num 4607182418800017408 := ⟨by decide, by decide⟩
theorem val_one : val 4607182418800017408 = 1 := by rw [val_pos_of_lt (by decide)]; exact rv_one

theorem sub_self_fin {x : Nat} (h : Num x) : floatBits .sub .f64 x x = some 0 := by
  obtain ⟨r, h1, h2, h3⟩ := sub_spec h h
  show double.sub x x = some 0
  rw [h1, h3 (by grind)]; cases sgn x <;> rfl
theorem sub_self_none {x : Nat} (h : x < 18446744073709551616) (hf : ¬ Num x) : floatBits .sub .f64 x x = none := by
  show double.sub x x = none
  rcases cls h with h1 | h1 | h1
  · exact absurd h1 hf
  · rcases h1 with rfl | rfl <;> decide +kernel
  · obtain ⟨s, f, hr⟩ := read_nan h1
    unfold Format.sub; rw [hr]; rfl

theorem nan_not_fin {x : Nat} (h : NaNW x) : ¬ Num x := by unfold NaNW at h; unfold Num infR; omega
theorem inf_not_fin {x : Nat} (h : InfW x) : ¬ Num x := by unfold InfW at h; unfold Num infR; omega
theorem inf_not_nan {x : Nat} (h : InfW x) : ¬ NaNW x := by unfold InfW at h; unfold NaNW; omega
theorem fin_not_nan {x : Nat} (h : Num x) : ¬ NaNW x := fun c => nan_not_fin c h
theorem inf_lt {x : Nat} (h : InfW x) : x < 18446744073709551616 := by unfold InfW at h; omega

/-- It returns 'v'; the world has drawn at most. -/
def Ret (v : Value) (w : World) (e : Ending) (w' : World) : Prop := e = .returned v ∧ ∃ m, w' = w.drewN m
theorem Ret.grown {v : Value} {w : World} {e : Ending} {w' : World} (h : Ret v w e w') : e = .returned v ∧ Grown w w' := by
  obtain ⟨rfl, m, rfl⟩ := h
  exact ⟨rfl, (World.keptBut_refl w _).alike (World.drewN_alike _ _), fun _ => rfl, Nat.le_refl _⟩

end Go.Proofs.Ytffflefdmhdhnaa
