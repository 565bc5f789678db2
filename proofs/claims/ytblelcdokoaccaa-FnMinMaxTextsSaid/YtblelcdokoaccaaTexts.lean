/-
  What the functions that give the smaller and the larger one of texts return: the built-in's and the reference's, and the reference's comparison byte by byte. Condition: each text is no longer than a string of the model can be.
-/
import Derived.Test.YtblelcdokoaccaaTextPlain
import Derived.WalkKit
import Derived.WalkLawsBesides
import Derived.Lib.Hide
import Derived.LoopTactic
import Derived.Deep.QuietTactic
import Derived.BigQuiet
import Derived.Outline
namespace Go.Proofs.Ytblelcdokoaccaa
open Go.RowKit

/-- It returns v; of the world nothing but the count of answers drawn has turned. -/
def Gives (v : Value) (w : World) (e : Ending) (w' : World) : Prop := e = .returned v ∧ ∃ q, w' = w.drewN q

theorem gives {v v' : Value} {w : World} {q : Nat} (h : v = v') : Gives v' w (.returned v) (w.drewN q) := ⟨by rw [h], q, rfl⟩
theorem dr2 (w : World) (a b : Nat) : ∃ m, (w.drewN a).drewN b = w.drewN m := ⟨a + b, by simp⟩
theorem dr3 (w : World) (a b c : Nat) : ∃ m, ((w.drewN a).drewN b).drewN c = w.drewN m := ⟨a + b + c, by simp⟩
theorem bool_eq {a b : Bool} (h : a = b) : Value.bool a = .bool b := by rw [h]
theorem str_eq {a b : ByteArray} (h : a = b) : Value.string a = .string b := by rw [h]

set_option maxHeartbeats 1000000 in
theorem below_any (x y : ByteArray) (w : World) (hx : x.size ≤ maxLen) (hy : y.size ≤ maxLen) :
    Calls Try.prog 26 #[.string x, .string y] w (Gives (.bool (Op.bytesLess x.toList y.toList)) w) := by
  unfold maxLen at hx hy
  go_enter Try.func26, Try.ntmps26
  go_wp2
  go_loopw [5] (fun i wr => ∃ k q : Nat, k ≤ x.size ∧ k ≤ y.size ∧ i = .int .i64 k ∧ wr = w.drewN q ∧ Op.bytesLess x.toList y.toList = Op.bytesLess (x.toList.drop k) (y.toList.drop k)) (fun i _ => x.size - (intOf i).toNat)
  case atStart => exact ⟨0, 0, by omega, by omega, rfl, rfl, by simp⟩
  case round =>
    obtain ⟨k, q, hkx, hky, rfl, rfl, hE⟩ := hrel
    have HE := Lib.hid hE
    clear hE
    by_cases h1 : k < x.size
    · by_cases h2 : k < y.size
      · by_cases h3 : (x[k].toNat : Int) = y[k].toNat
        · have HS := Lib.hid (less_step x y k h1 h2 h3)
          have hb : ((x[k].toNat : Int) != y[k].toNat) = false := by simp [h3]
          clear h3
          go_wp2
          go_quiet (fail)
          go_wp2
          go_roundw
          case rel => exact ⟨k + 1, _, by omega, by omega, by go_num, rfl, by rw [HE.out, HS.out]⟩
          case measure => simp [intOf]; omega
        · have HS := Lib.hid (less_here x y k h1 h2 h3)
          have hb : ((x[k].toNat : Int) != y[k].toNat) = true := by simp [h3]
          clear h3
          go_wp2
          go_quiet (fail)
          go_wp2
          go_quiet (fail)
          go_wp2
          go_ret
          exact ⟨ret_bool (by rw [HE.out, HS.out]; simp), dr3 _ _ _ _⟩
      · have HS := Lib.hid (less_end x y k (by omega) hkx hky)
        go_wp2
        go_ret
        exact ⟨ret_bool (by rw [HE.out, HS.out]), _, rfl⟩
    · have HS := Lib.hid (less_end x y k (by omega) hkx hky)
      go_wp2
      go_ret
      exact ⟨ret_bool (by rw [HE.out, HS.out]), _, rfl⟩

theorem implMinTexts (x y : ByteArray) (w : World) :
    Calls Try.prog 16 #[.string x, .string y] w (Gives (.string (tmin x y)) w) := by
  have hr := fun (w : World) ts t => run_min_text2 (P := Try.prog) w ts t x y
  go_enter Try.func16, Try.ntmps16
  go_wp2
  go_ret
  exact ⟨rfl, 0, rfl⟩

theorem specMinTexts (x y : ByteArray) (w : World) (hx : x.size ≤ maxLen) (hy : y.size ≤ maxLen) :
    Calls Try.prog 17 #[.string x, .string y] w (Gives (.string (tmin x y)) w) := by
  cases h : tle x y
  · have H := Lib.hid (tmin_neg h)
    have hb : Op.bytesLess y.toList x.toList = true := by simpa [tle] using h
    clear h
    go_enter Try.func17, Try.ntmps17
    go_wp2_with (go_at_call 26; refine (below_any _ _ _ ‹_› ‹_›).mono ?_; rintro e w' ⟨rfl, q, rfl⟩)
    go_ret
    exact ⟨by rw [H.out]; rfl, _, rfl⟩
  · have H := Lib.hid (tmin_pos h)
    have hb : Op.bytesLess y.toList x.toList = false := by simpa [tle] using h
    clear h
    go_enter Try.func17, Try.ntmps17
    go_wp2_with (go_at_call 26; refine (below_any _ _ _ ‹_› ‹_›).mono ?_; rintro e w' ⟨rfl, q, rfl⟩)
    go_ret
    exact ⟨by rw [H.out]; rfl, _, rfl⟩

theorem implMinTexts3 (x y z : ByteArray) (w : World) :
    Calls Try.prog 20 #[.string x, .string y, .string z] w (Gives (.string (tmin (tmin x y) z)) w) := by
  have hr := fun (w : World) ts t => run_min_text3 (P := Try.prog) w ts t x y z
  go_enter Try.func20, Try.ntmps20
  go_wp2
  go_ret
  exact ⟨rfl, 0, rfl⟩

theorem specMinTexts3 (x y z : ByteArray) (w : World) (hx : x.size ≤ maxLen) (hy : y.size ≤ maxLen) (hz : z.size ≤ maxLen) :
    Calls Try.prog 21 #[.string x, .string y, .string z] w (Gives (.string (tmin (tmin x y) z)) w) := by
  have hm : (tmin x y).size ≤ maxLen := by rcases tmin_one x y with h | h <;> rw [h] <;> assumption
  go_enter Try.func21, Try.ntmps21
  go_wp2_with (go_at_call 17; refine (specMinTexts _ _ _ ‹_› ‹_›).mono ?_; rintro e w' ⟨rfl, q, rfl⟩)
  go_ret
  exact ⟨rfl, _, rfl⟩

theorem implMaxTexts (x y : ByteArray) (w : World) :
    Calls Try.prog 14 #[.string x, .string y] w (Gives (.string (tmax x y)) w) := by
  have hr := fun (w : World) ts t => run_max_text2 (P := Try.prog) w ts t x y
  go_enter Try.func14, Try.ntmps14
  go_wp2
  go_ret
  exact ⟨rfl, 0, rfl⟩

theorem specMaxTexts (x y : ByteArray) (w : World) (hx : x.size ≤ maxLen) (hy : y.size ≤ maxLen) :
    Calls Try.prog 15 #[.string x, .string y] w (Gives (.string (tmax x y)) w) := by
  cases h : tle y x
  · have H := Lib.hid (tmax_neg h)
    have hb : Op.bytesLess x.toList y.toList = true := by simpa [tle] using h
    clear h
    go_enter Try.func15, Try.ntmps15
    go_wp2_with (go_at_call 26; refine (below_any _ _ _ ‹_› ‹_›).mono ?_; rintro e w' ⟨rfl, q, rfl⟩)
    go_ret
    exact ⟨by rw [H.out]; rfl, _, rfl⟩
  · have H := Lib.hid (tmax_pos h)
    have hb : Op.bytesLess x.toList y.toList = false := by simpa [tle] using h
    clear h
    go_enter Try.func15, Try.ntmps15
    go_wp2_with (go_at_call 26; refine (below_any _ _ _ ‹_› ‹_›).mono ?_; rintro e w' ⟨rfl, q, rfl⟩)
    go_ret
    exact ⟨by rw [H.out]; rfl, _, rfl⟩

theorem implMaxTexts3 (x y z : ByteArray) (w : World) :
    Calls Try.prog 18 #[.string x, .string y, .string z] w (Gives (.string (tmax (tmax x y) z)) w) := by
  have hr := fun (w : World) ts t => run_max_text3 (P := Try.prog) w ts t x y z
  go_enter Try.func18, Try.ntmps18
  go_wp2
  go_ret
  exact ⟨rfl, 0, rfl⟩

theorem specMaxTexts3 (x y z : ByteArray) (w : World) (hx : x.size ≤ maxLen) (hy : y.size ≤ maxLen) (hz : z.size ≤ maxLen) :
    Calls Try.prog 19 #[.string x, .string y, .string z] w (Gives (.string (tmax (tmax x y) z)) w) := by
  have hm : (tmax x y).size ≤ maxLen := by rcases tmax_one x y with h | h <;> rw [h] <;> assumption
  go_enter Try.func19, Try.ntmps19
  go_wp2_with (go_at_call 15; refine (specMaxTexts _ _ _ ‹_› ‹_›).mono ?_; rintro e w' ⟨rfl, q, rfl⟩)
  go_ret
  exact ⟨rfl, _, rfl⟩

end Go.Proofs.Ytblelcdokoaccaa
