/-
  What the library's comparison of whole numbers (Uints) returns: less, and less, equal or greater. No condition.
-/
import Derived.Test.YtdeaigeimakolaaBase
import Derived.WalkKit
import Derived.WalkLawsBesides
import Derived.Lib.Hide
namespace Go.Proofs.Ytdeaigeimakolaa
open Go.RowKit

def icmp (a b : Int) : Int := if a < b then -1 else if b < a then 1 else 0

theorem icmp_le {a b : Int} (h : a ≤ b) : icmp a b ≤ 0 := by unfold icmp; split <;> (try split) <;> omega

theorem isNaNUints (a : Int) (w : World) : Calls Try.prog 30 #[.int .u64 a] w fun e w' => e = .returned (.bool false) ∧ w = w' := by
  go_enter Try.func30, Try.ntmps30
  go_wp2
  go_ret
  exact ⟨rfl, rfl⟩

theorem cmpLessUints (a b : Int) (w : World) : Calls Try.prog 27 #[.int .u64 a, .int .u64 b] w fun e w' => e = .returned (.bool (decide (a < b))) ∧ w = w' := by
  go_enter Try.func27, Try.ntmps27
  go_wp2_with (go_at_call 30; refine (isNaNUints _ _).mono ?_; rintro e w' ⟨rfl, rfl⟩)
  go_ret
  exact ⟨rfl, rfl⟩

theorem lessUints (a b : Int) (w : World) : Calls Try.prog 23 #[.int .u64 a, .int .u64 b] w fun e w' => e = .returned (.bool (decide (a < b))) ∧ w = w' := by
  go_enter Try.func23, Try.ntmps23
  go_wp2_with (go_at_call 27; refine (cmpLessUints _ _ _).mono ?_; rintro e w' ⟨rfl, rfl⟩)
  go_ret
  exact ⟨rfl, rfl⟩

theorem cmpCompareUints (a b : Int) (w : World) : Calls Try.prog 26 #[.int .u64 a, .int .u64 b] w fun e w' => e = .returned (.int .i64 (icmp a b)) ∧ w = w' := by
  by_cases h : a < b
  · have H : Hid (icmp a b = -1) := by show icmp a b = -1; simp [icmp, h]
    go_enter Try.func26, Try.ntmps26
    go_wp2_with (go_at_call 30; refine (isNaNUints _ _).mono ?_; rintro e w' ⟨rfl, rfl⟩)
    go_ret
    exact ⟨ret_int H.out.symm, rfl⟩
  · by_cases g : b < a
    · have H : Hid (icmp a b = 1) := by show icmp a b = 1; simp [icmp, h, g]
      go_enter Try.func26, Try.ntmps26
      go_wp2_with (go_at_call 30; refine (isNaNUints _ _).mono ?_; rintro e w' ⟨rfl, rfl⟩)
      go_ret
      exact ⟨ret_int H.out.symm, rfl⟩
    · have H : Hid (icmp a b = 0) := by show icmp a b = 0; simp [icmp, h, g]
      go_enter Try.func26, Try.ntmps26
      go_wp2_with (go_at_call 30; refine (isNaNUints _ _).mono ?_; rintro e w' ⟨rfl, rfl⟩)
      go_ret
      exact ⟨ret_int H.out.symm, rfl⟩

theorem compareUints (a b : Int) (w : World) : Calls Try.prog 16 #[.int .u64 a, .int .u64 b] w fun e w' => e = .returned (.int .i64 (icmp a b)) ∧ w = w' := by
  go_enter Try.func16, Try.ntmps16
  go_wp2_with (go_at_call 26; refine (cmpCompareUints _ _ _).mono ?_; rintro e w' ⟨rfl, rfl⟩)
  go_ret
  exact ⟨rfl, rfl⟩

end Go.Proofs.Ytdeaigeimakolaa
