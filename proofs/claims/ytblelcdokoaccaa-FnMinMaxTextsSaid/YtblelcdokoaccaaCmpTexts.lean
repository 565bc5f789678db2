/-
  What the library's comparison of texts returns: less, and less, equal or greater. No condition.
-/
import Derived.Test.YtblelcdokoaccaaTextPlain
import Derived.WalkKit
import Derived.WalkLawsBesides
import Derived.Lib.Hide
namespace Go.Proofs.Ytblelcdokoaccaa
open Go.RowKit

def tcmp (x y : ByteArray) : Int := if Op.bytesLess x.toList y.toList then -1 else if tle x y then 0 else 1

theorem tcmp_le {x y : ByteArray} (h : tle x y = true) : tcmp x y ≤ 0 := by
  unfold tcmp; rw [if_pos h]; split <;> omega

theorem isNaNTexts (x : ByteArray) (w : World) : Calls Try.prog 30 #[.string x] w fun e w' => e = .returned (.bool false) ∧ w = w' := by
  go_enter Try.func30, Try.ntmps30
  go_wp2
  go_ret
  exact ⟨ret_bool (by simp), rfl⟩

theorem cmpLessTexts (x y : ByteArray) (w : World) : Calls Try.prog 27 #[.string x, .string y] w fun e w' => e = .returned (.bool (Op.bytesLess x.toList y.toList)) ∧ w = w' := by
  go_enter Try.func27, Try.ntmps27
  go_wp2_with (go_at_call 30; refine (isNaNTexts _ _).mono ?_; rintro e w' ⟨rfl, rfl⟩)
  go_ret
  exact ⟨rfl, rfl⟩

theorem lessTexts (x y : ByteArray) (w : World) : Calls Try.prog 22 #[.string x, .string y] w fun e w' => e = .returned (.bool (Op.bytesLess x.toList y.toList)) ∧ w = w' := by
  go_enter Try.func22, Try.ntmps22
  go_wp2_with (go_at_call 27; refine (cmpLessTexts _ _ _).mono ?_; rintro e w' ⟨rfl, rfl⟩)
  go_ret
  exact ⟨rfl, rfl⟩

theorem cmpCompareTexts (x y : ByteArray) (w : World) : Calls Try.prog 28 #[.string x, .string y] w fun e w' => e = .returned (.int .i64 (tcmp x y)) ∧ w = w' := by
  have hle := tle_eq x y
  cases h : Op.bytesLess x.toList y.toList
  · cases g : (x.toList == y.toList)
    · have H : Hid (tcmp x y = 1) := by show tcmp x y = 1; rw [h, g] at hle; simp [tcmp, h, ← hle]
      clear hle
      go_enter Try.func28, Try.ntmps28
      go_wp2_with (go_at_call 30; refine (isNaNTexts _ _).mono ?_; rintro e w' ⟨rfl, rfl⟩)
      go_ret
      exact ⟨ret_int H.out.symm, rfl⟩
    · have H : Hid (tcmp x y = 0) := by show tcmp x y = 0; rw [h, g] at hle; simp [tcmp, h, ← hle]
      clear hle
      go_enter Try.func28, Try.ntmps28
      go_wp2_with (go_at_call 30; refine (isNaNTexts _ _).mono ?_; rintro e w' ⟨rfl, rfl⟩)
      go_ret
      exact ⟨ret_int H.out.symm, rfl⟩
  · have H : Hid (tcmp x y = -1) := by show tcmp x y = -1; simp [tcmp, h]
    clear hle
    go_enter Try.func28, Try.ntmps28
    go_wp2_with (go_at_call 30; refine (isNaNTexts _ _).mono ?_; rintro e w' ⟨rfl, rfl⟩)
    go_ret
    exact ⟨ret_int H.out.symm, rfl⟩

theorem compareTexts (x y : ByteArray) (w : World) : Calls Try.prog 23 #[.string x, .string y] w fun e w' => e = .returned (.int .i64 (tcmp x y)) ∧ w = w' := by
  go_enter Try.func23, Try.ntmps23
  go_wp2_with (go_at_call 28; refine (cmpCompareTexts _ _ _).mono ?_; rintro e w' ⟨rfl, rfl⟩)
  go_ret
  exact ⟨rfl, rfl⟩

end Go.Proofs.Ytblelcdokoaccaa
