/-
  What the functions that give the smaller and the larger one of whole numbers (Uints) return: the built-in's and the reference's. No condition.
-/
import Derived.Test.YtdeaigeimakolaaBase
import Derived.WalkKit
import Derived.WalkLawsBesides
import Derived.Lib.Hide
namespace Go.Proofs.Ytdeaigeimakolaa
open Go.RowKit

theorem implMinUints (a b : Int) (w : World) :
    Calls Try.prog 14 #[.int .u64 a, .int .u64 b] w fun e w' => e = .returned (.int .u64 (imin a b)) ∧ w = w' := by
  go_enter Try.func14, Try.ntmps14
  go_wp2
  all_goals (go_ret; refine ⟨ret_int ?_, rfl⟩; have := imin_cases a b; omega)

theorem specMinUints (a b : Int) (w : World) :
    Calls Try.prog 18 #[.int .u64 a, .int .u64 b] w fun e w' => e = .returned (.int .u64 (imin a b)) ∧ w = w' := by
  by_cases h : a < b
  · have H := Lib.hid (imin_lt h)
    go_enter Try.func18, Try.ntmps18
    go_wp2
    go_ret
    exact ⟨ret_int H.out.symm, rfl⟩
  · have H := Lib.hid (imin_ge h)
    go_enter Try.func18, Try.ntmps18
    go_wp2
    go_ret
    exact ⟨ret_int H.out.symm, rfl⟩

theorem implMinUints3 (a b c : Int) (w : World) :
    Calls Try.prog 21 #[.int .u64 a, .int .u64 b, .int .u64 c] w fun e w' => e = .returned (.int .u64 (imin (imin a b) c)) ∧ w = w' := by
  go_enter Try.func21, Try.ntmps21
  go_wp2
  all_goals (go_ret; refine ⟨ret_int ?_, rfl⟩; have := imin_cases a b; have := imin_cases (imin a b) c; omega)

theorem specMinUints3 (a b c : Int) (w : World) :
    Calls Try.prog 22 #[.int .u64 a, .int .u64 b, .int .u64 c] w fun e w' => e = .returned (.int .u64 (imin (imin a b) c)) ∧ w = w' := by
  go_enter Try.func22, Try.ntmps22
  go_wp2_with (go_at_call 18; refine (specMinUints _ _ _).mono ?_; rintro e w' ⟨rfl, rfl⟩)
  go_ret
  exact ⟨rfl, rfl⟩

theorem implMaxUints (a b : Int) (w : World) :
    Calls Try.prog 15 #[.int .u64 a, .int .u64 b] w fun e w' => e = .returned (.int .u64 (imax a b)) ∧ w = w' := by
  go_enter Try.func15, Try.ntmps15
  go_wp2
  all_goals (go_ret; refine ⟨ret_int ?_, rfl⟩; have := imax_cases a b; omega)

theorem specMaxUints (a b : Int) (w : World) :
    Calls Try.prog 17 #[.int .u64 a, .int .u64 b] w fun e w' => e = .returned (.int .u64 (imax a b)) ∧ w = w' := by
  by_cases h : b < a
  · have H := Lib.hid (imax_gt h)
    go_enter Try.func17, Try.ntmps17
    go_wp2
    go_ret
    exact ⟨ret_int H.out.symm, rfl⟩
  · have H := Lib.hid (imax_le h)
    go_enter Try.func17, Try.ntmps17
    go_wp2
    go_ret
    exact ⟨ret_int H.out.symm, rfl⟩

theorem implMaxUints3 (a b c : Int) (w : World) :
    Calls Try.prog 19 #[.int .u64 a, .int .u64 b, .int .u64 c] w fun e w' => e = .returned (.int .u64 (imax (imax a b) c)) ∧ w = w' := by
  go_enter Try.func19, Try.ntmps19
  go_wp2
  all_goals (go_ret; refine ⟨ret_int ?_, rfl⟩; have := imax_cases a b; have := imax_cases (imax a b) c; omega)

theorem specMaxUints3 (a b c : Int) (w : World) :
    Calls Try.prog 20 #[.int .u64 a, .int .u64 b, .int .u64 c] w fun e w' => e = .returned (.int .u64 (imax (imax a b) c)) ∧ w = w' := by
  go_enter Try.func20, Try.ntmps20
  go_wp2_with (go_at_call 17; refine (specMaxUints _ _ _).mono ?_; rintro e w' ⟨rfl, rfl⟩)
  go_ret
  exact ⟨rfl, rfl⟩

end Go.Proofs.Ytdeaigeimakolaa
