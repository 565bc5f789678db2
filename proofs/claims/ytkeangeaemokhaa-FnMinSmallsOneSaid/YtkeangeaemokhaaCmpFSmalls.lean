/-
  What the library's comparison of floating-point numbers (Smalls) returns for numbers that are no NaNs, and the plain order of the smaller and the larger one of two. Condition: none of the two is a NaN.
-/
import Derived.Test.YtkeangeaemokhaaFloatSame
import Derived.WalkKit
import Derived.WalkLawsBesides
import Derived.Lib.Hide
namespace Go.Proofs.Ytkeangeaemokhaa
open Go.RowKit

theorem min_le {k : FloatKind} {x y m : Nat} (hx : nanB k x = false) (hy : nanB k y = false) (h : key k m = kmin (key k x) (key k y)) :
    nanB k m = false ∧ fval k m ≤ fval k x ∧ fval k m ≤ fval k y ∧ (key k m = key k x ∨ key k m = key k y) := by
  have h1 := key_num hx
  have h2 := key_num hy
  have s1 := sgn_cases (negB k x)
  have s2 := sgn_cases (negB k y)
  have s3 := sgn_cases (negB k m)
  have hi := imin_cases (2 * fval k x + if negB k x then 0 else 1) (2 * fval k y + if negB k y then 0 else 1)
  have hR : kmin (key k x) (key k y) = some (imin (2 * fval k x + if negB k x then 0 else 1) (2 * fval k y + if negB k y then 0 else 1)) := by rw [h1, h2]; rfl
  rw [hR] at h
  have hm : nanB k m = false := by
    cases hm : nanB k m
    · rfl
    · rw [key_nan hm] at h; cases h
  have h3 := key_num hm
  have e : 2 * fval k m + (if negB k m then 0 else 1) = imin (2 * fval k x + if negB k x then 0 else 1) (2 * fval k y + if negB k y then 0 else 1) := Option.some.inj (h3.symm.trans h)
  refine ⟨hm, by omega, by omega, ?_⟩
  rcases hi with ⟨_, hi⟩ | ⟨_, hi⟩
  · right; rw [h, h2, hi]
  · left; rw [h, h1, hi]

theorem max_ge {k : FloatKind} {x y m : Nat} (hx : nanB k x = false) (hy : nanB k y = false) (h : key k m = kmax (key k x) (key k y)) :
    nanB k m = false ∧ fval k x ≤ fval k m ∧ fval k y ≤ fval k m ∧ (key k m = key k x ∨ key k m = key k y) := by
  have h1 := key_num hx
  have h2 := key_num hy
  have s1 := sgn_cases (negB k x)
  have s2 := sgn_cases (negB k y)
  have s3 := sgn_cases (negB k m)
  have hi := imax_cases (2 * fval k x + if negB k x then 0 else 1) (2 * fval k y + if negB k y then 0 else 1)
  have hR : kmax (key k x) (key k y) = some (imax (2 * fval k x + if negB k x then 0 else 1) (2 * fval k y + if negB k y then 0 else 1)) := by rw [h1, h2]; rfl
  rw [hR] at h
  have hm : nanB k m = false := by
    cases hm : nanB k m
    · rfl
    · rw [key_nan hm] at h; cases h
  have h3 := key_num hm
  have e : 2 * fval k m + (if negB k m then 0 else 1) = imax (2 * fval k x + if negB k x then 0 else 1) (2 * fval k y + if negB k y then 0 else 1) := Option.some.inj (h3.symm.trans h)
  refine ⟨hm, by omega, by omega, ?_⟩
  rcases hi with ⟨_, hi⟩ | ⟨_, hi⟩
  · right; rw [h, h2, hi]
  · left; rw [h, h1, hi]

/-- The smaller and the larger one of two are both of them. -/
theorem min_max {k : FloatKind} {x y m n : Nat} (hx : nanB k x = false) (hy : nanB k y = false) (h : key k m = kmin (key k x) (key k y)) (g : key k n = kmax (key k x) (key k y)) :
    (key k m = key k x ∧ key k n = key k y) ∨ (key k m = key k y ∧ key k n = key k x) := by
  rw [h, g, key_num hx, key_num hy]
  simp only [kmin, kmax, Option.some.injEq]
  have h1 := imin_cases (2 * fval k x + if negB k x then 0 else 1) (2 * fval k y + if negB k y then 0 else 1)
  have h2 := imax_cases (2 * fval k x + if negB k x then 0 else 1) (2 * fval k y + if negB k y then 0 else 1)
  omega

theorem kmin_kmax {k : FloatKind} {x y : Nat} (hx : nanB k x = false) (hy : nanB k y = false) : kmin (key k x) (kmax (key k x) (key k y)) = key k x := by
  rw [key_num hx, key_num hy]
  simp only [kmin, kmax]
  have h1 := imax_cases (2 * fval k x + if negB k x then 0 else 1) (2 * fval k y + if negB k y then 0 else 1)
  have h2 := imin_cases (2 * fval k x + if negB k x then 0 else 1) (imax (2 * fval k x + if negB k x then 0 else 1) (2 * fval k y + if negB k y then 0 else 1))
  exact congrArg some (by omega)

theorem kmax_kmin {k : FloatKind} {x y : Nat} (hx : nanB k x = false) (hy : nanB k y = false) : kmax (key k x) (kmin (key k x) (key k y)) = key k x := by
  rw [key_num hx, key_num hy]
  simp only [kmin, kmax]
  have h1 := imin_cases (2 * fval k x + if negB k x then 0 else 1) (2 * fval k y + if negB k y then 0 else 1)
  have h2 := imax_cases (2 * fval k x + if negB k x then 0 else 1) (imin (2 * fval k x + if negB k x then 0 else 1) (2 * fval k y + if negB k y then 0 else 1))
  exact congrArg some (by omega)

theorem nan_min {k : FloatKind} {x y m : Nat} (hn : nanB k x = true ∨ nanB k y = true) (h : key k m = kmin (key k x) (key k y)) : nanB k m = true := by
  rw [nan_of_key, h]
  rcases hn with hn | hn
  · exact kmin_nan_left hn _
  · exact kmin_nan_right hn _
theorem nan_max {k : FloatKind} {x y m : Nat} (hn : nanB k x = true ∨ nanB k y = true) (h : key k m = kmax (key k x) (key k y)) : nanB k m = true := by
  rw [nan_of_key, h]
  rcases hn with hn | hn
  · exact kmax_nan_left hn _
  · exact kmax_nan_right hn _

def icmp (a b : Int) : Int := if a < b then -1 else if b < a then 1 else 0

theorem icmp_le {a b : Int} (h : a ≤ b) : icmp a b ≤ 0 := by unfold icmp; split <;> (try split) <;> omega

theorem isNaNSmalls (x : Nat) (w : World) : Calls Try.prog 37 #[.float .f32 x] w fun e w' => e = .returned (.bool (nanB .f32 x)) ∧ w = w' := by
  have H := Lib.hid (order_self_nan .f32 x)
  go_enter Try.func37, Try.ntmps37
  go_wp2
  go_ret
  exact ⟨ret_bool H.out, rfl⟩

set_option maxHeartbeats 1000000 in
theorem cmpLessSmalls (x y : Nat) (hx : nanB .f32 x = false) (hy : nanB .f32 y = false) (w : World) : Calls Try.prog 30 #[.float .f32 x, .float .f32 y] w fun e w' => e = .returned (.bool (decide (fval .f32 x < fval .f32 y))) ∧ w = w' := by
  rcases Int.lt_trichotomy (fval .f32 x) (fval .f32 y) with h | h | h
  · have ho := order_lt hx hy h
    have H : Hid (decide (fval .f32 x < fval .f32 y) = true) := decide_eq_true h
    clear h
    go_enter Try.func30, Try.ntmps30
    go_wp2_with (go_at_call 37; refine (isNaNSmalls _ _).mono ?_; rintro e w' ⟨rfl, rfl⟩)
    go_ret
    exact ⟨ret_bool H.out.symm, rfl⟩
  · have ho := order_eq hx hy h
    have H : Hid (decide (fval .f32 x < fval .f32 y) = false) := decide_eq_false (by omega)
    clear h
    go_enter Try.func30, Try.ntmps30
    go_wp2_with (go_at_call 37; refine (isNaNSmalls _ _).mono ?_; rintro e w' ⟨rfl, rfl⟩)
    go_ret
    exact ⟨ret_bool H.out.symm, rfl⟩
  · have ho := order_gt hx hy h
    have H : Hid (decide (fval .f32 x < fval .f32 y) = false) := decide_eq_false (by omega)
    clear h
    go_enter Try.func30, Try.ntmps30
    go_wp2_with (go_at_call 37; refine (isNaNSmalls _ _).mono ?_; rintro e w' ⟨rfl, rfl⟩)
    go_ret
    exact ⟨ret_bool H.out.symm, rfl⟩

theorem lessSmalls (x y : Nat) (hx : nanB .f32 x = false) (hy : nanB .f32 y = false) (w : World) : Calls Try.prog 24 #[.float .f32 x, .float .f32 y] w fun e w' => e = .returned (.bool (decide (fval .f32 x < fval .f32 y))) ∧ w = w' := by
  have HX := Lib.hid hx
  have HY := Lib.hid hy
  clear hx hy
  go_enter Try.func24, Try.ntmps24
  go_wp2_with fail
  refine (cmpLessSmalls _ _ HX.out HY.out _).mono ?_
  rintro e w' ⟨rfl, rfl⟩
  go_wp2
  go_ret
  exact ⟨rfl, rfl⟩

set_option maxHeartbeats 1000000 in
theorem cmpCompareSmalls (x y : Nat) (hx : nanB .f32 x = false) (hy : nanB .f32 y = false) (w : World) : Calls Try.prog 27 #[.float .f32 x, .float .f32 y] w fun e w' => e = .returned (.int .i64 (icmp (fval .f32 x) (fval .f32 y))) ∧ w = w' := by
  rcases Int.lt_trichotomy (fval .f32 x) (fval .f32 y) with h | h | h
  · have ho := order_lt hx hy h
    have H : Hid (icmp (fval .f32 x) (fval .f32 y) = -1) := by show icmp (fval .f32 x) (fval .f32 y) = -1; simp [icmp, h]
    clear h
    go_enter Try.func27, Try.ntmps27
    go_wp2_with (go_at_call 37; refine (isNaNSmalls _ _).mono ?_; rintro e w' ⟨rfl, rfl⟩)
    go_ret
    exact ⟨ret_int H.out.symm, rfl⟩
  · have ho := order_eq hx hy h
    have H : Hid (icmp (fval .f32 x) (fval .f32 y) = 0) := by show icmp (fval .f32 x) (fval .f32 y) = 0; simp [icmp, h]
    clear h
    go_enter Try.func27, Try.ntmps27
    go_wp2_with (go_at_call 37; refine (isNaNSmalls _ _).mono ?_; rintro e w' ⟨rfl, rfl⟩)
    go_ret
    exact ⟨ret_int H.out.symm, rfl⟩
  · have ho := order_gt hx hy h
    have H : Hid (icmp (fval .f32 x) (fval .f32 y) = 1) := by
      show icmp (fval .f32 x) (fval .f32 y) = 1
      have g : ¬ fval .f32 x < fval .f32 y := by omega
      simp [icmp, h, g]
    clear h
    go_enter Try.func27, Try.ntmps27
    go_wp2_with (go_at_call 37; refine (isNaNSmalls _ _).mono ?_; rintro e w' ⟨rfl, rfl⟩)
    go_ret
    exact ⟨ret_int H.out.symm, rfl⟩

theorem compareSmalls (x y : Nat) (hx : nanB .f32 x = false) (hy : nanB .f32 y = false) (w : World) : Calls Try.prog 16 #[.float .f32 x, .float .f32 y] w fun e w' => e = .returned (.int .i64 (icmp (fval .f32 x) (fval .f32 y))) ∧ w = w' := by
  have HX := Lib.hid hx
  have HY := Lib.hid hy
  clear hx hy
  go_enter Try.func16, Try.ntmps16
  go_wp2_with fail
  refine (cmpCompareSmalls _ _ HX.out HY.out _).mono ?_
  rintro e w' ⟨rfl, rfl⟩
  go_wp2
  go_ret
  exact ⟨rfl, rfl⟩

end Go.Proofs.Ytkeangeaemokhaa
