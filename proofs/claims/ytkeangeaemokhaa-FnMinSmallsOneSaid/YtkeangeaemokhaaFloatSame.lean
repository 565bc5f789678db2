/-
  What the reference's small words on floating-point numbers of 64 bits return: whether one is a NaN, its sign, and whether two are the same. Condition: the words fit 64 bits.
-/
import Derived.Test.YtkeangeaemokhaaFloatRun
import Derived.WalkKit
import Derived.WalkLawsBesides
import Derived.Lib.Hide
import Derived.Outline
namespace Go.Proofs.Ytkeangeaemokhaa
open Go.RowKit

theorem neg_word {x : Nat} (h : x < 18446744073709551616) : decide (wrap64 (x : Int) < 0) = negB .f64 x := by
  unfold negB
  rw [read_neg, sgn64]
  unfold wrap64
  by_cases g : x < 9223372036854775808
  · rw [Nat.div_eq_of_lt g]
    simp
    omega
  · have e : x / 9223372036854775808 = 1 := by omega
    rw [e]
    simp
    omega

theorem f64bits (b : Nat) (w : World) : (callFunc 38 #[.float .f64 b]).run Try.prog w = .ok (.value (.int .u64 b)) w := by
  rw [run_callFunc_extern Try.func38 (by kernel_rfl) (by kernel_rfl) (by kernel_rfl) (e := Extern.MathFloatBits.float64bits) (by kernel_rfl)]
  rfl

theorem signbit_any (x : Nat) (wx : (Lit.float .f64 x).wf = true) (w : World) :
    Calls Try.prog 29 #[.float .f64 x] w fun e w' => e = .returned (.bool (negB .f64 x)) ∧ w = w' := by
  have H := Lib.hid (neg_word (wf_f64 wx))
  have hb := f64bits x
  clear wx
  go_enter Try.func29, Try.ntmps29
  go_wp2
  go_ret
  exact ⟨ret_bool H.out, rfl⟩

theorem none_any (x : Nat) (w : World) :
    Calls Try.prog 28 #[.float .f64 x] w fun e w' => e = .returned (.bool (nanB .f64 x)) ∧ w = w' := by
  have H := Lib.hid (order_self_nan .f64 x)
  go_enter Try.func28, Try.ntmps28
  go_wp2
  go_ret
  exact ⟨ret_bool H.out, rfl⟩

set_option maxHeartbeats 1000000 in
theorem same_any (x y : Nat) (wx : (Lit.float .f64 x).wf = true) (wy : (Lit.float .f64 y).wf = true) (w : World) :
    Calls Try.prog 17 #[.float .f64 x, .float .f64 y] w fun e w' => e = .returned (.bool (sameB .f64 x y)) ∧ w = w' := by
  have WX := Lib.hid wx
  have WY := Lib.hid wy
  clear wx wy
  cases hx : nanB .f64 x
  · cases hy : nanB .f64 y
    · rcases Int.lt_trichotomy (fval .f64 x) (fval .f64 y) with h | h | h
      · have ho := order_lt hx hy h
        have H : Hid (sameB .f64 x y = false) := by show sameB .f64 x y = false; simp [sameB, hx, ho]
        clear h
        go_enter Try.func17, Try.ntmps17
        go_wp2_with (go_at_call 28; refine (none_any _ _).mono ?_; rintro e w' ⟨rfl, rfl⟩)
        go_ret
        exact ⟨ret_bool H.out.symm, rfl⟩
      · have ho := order_eq hx hy h
        have H : Hid (sameB .f64 x y = (negB .f64 x == negB .f64 y)) := by show sameB .f64 x y = (negB .f64 x == negB .f64 y); simp [sameB, hx, ho]
        clear h
        go_enter Try.func17, Try.ntmps17
        go_wp2_with (first | (go_at_call 28; refine (none_any _ _).mono ?_; rintro e w' ⟨rfl, rfl⟩) | (go_at_call 29; refine (signbit_any _ (by first | exact WX.out | exact WY.out) _).mono ?_; rintro e w' ⟨rfl, rfl⟩))
        go_ret
        exact ⟨ret_bool H.out.symm, rfl⟩
      · have ho := order_gt hx hy h
        have H : Hid (sameB .f64 x y = false) := by show sameB .f64 x y = false; simp [sameB, hx, ho]
        clear h
        go_enter Try.func17, Try.ntmps17
        go_wp2_with (go_at_call 28; refine (none_any _ _).mono ?_; rintro e w' ⟨rfl, rfl⟩)
        go_ret
        exact ⟨ret_bool H.out.symm, rfl⟩
    · have ho := order_nan (k := .f64) (x := x) (Or.inr hy)
      have H : Hid (sameB .f64 x y = false) := by show sameB .f64 x y = false; simp [sameB, hx, ho]
      go_enter Try.func17, Try.ntmps17
      go_wp2_with (go_at_call 28; refine (none_any _ _).mono ?_; rintro e w' ⟨rfl, rfl⟩)
      go_ret
      exact ⟨ret_bool H.out.symm, rfl⟩
  · cases hy : nanB .f64 y
    · have ho := order_nan (k := .f64) (y := y) (Or.inl hx)
      have H : Hid (sameB .f64 x y = false) := by show sameB .f64 x y = false; simp [sameB, hy, ho]
      go_enter Try.func17, Try.ntmps17
      go_wp2_with (go_at_call 28; refine (none_any _ _).mono ?_; rintro e w' ⟨rfl, rfl⟩)
      go_ret
      exact ⟨ret_bool H.out.symm, rfl⟩
    · have H : Hid (sameB .f64 x y = true) := by show sameB .f64 x y = true; simp [sameB, hx, hy]
      go_enter Try.func17, Try.ntmps17
      go_wp2_with (go_at_call 28; refine (none_any _ _).mono ?_; rintro e w' ⟨rfl, rfl⟩)
      go_ret
      exact ⟨ret_bool H.out.symm, rfl⟩

end Go.Proofs.Ytkeangeaemokhaa
