/-
  What the functions that give the smaller and the larger one of floating-point numbers (Floats) return: the built-in's and the reference's, told by their keys. Condition: the words fit their kind.
-/
import Derived.Test.YtnahhiphofdijaaFloatSame
import Derived.WalkKit
import Derived.WalkLawsBesides
import Derived.Lib.Hide
import Derived.Outline
namespace Go.Proofs.Ytnahhiphofdijaa
open Go.RowKit

/-- It returned a number of that key; of the world nothing but the count of answers drawn has turned. -/
def FGives (k : FloatKind) (K : Option Int) (w : World) (e : Ending) (w' : World) : Prop :=
  ∃ r q, (Lit.float k r).wf = true ∧ key k r = K ∧ e = .returned (.float k r) ∧ w' = w.drewN q

theorem implMinFloats (x y : Nat) (wx : (Lit.float .f64 x).wf = true) (wy : (Lit.float .f64 y).wf = true) (w : World) :
    Calls Try.prog 14 #[.float .f64 x, .float .f64 y] w (FGives .f64 (kmin (key .f64 x) (key .f64 y)) w) := by
  obtain ⟨r, q, hr, wr, kr⟩ := min_run2 (P := Try.prog) .f64 x y wx wy w
  have WR := Lib.hid wr
  have KR := Lib.hid kr
  clear wr kr wx wy
  go_enter Try.func14, Try.ntmps14
  go_wp2
  go_ret
  exact ⟨r, q, WR.out, KR.out, rfl, rfl⟩

theorem implMinFloats3 (x y z : Nat) (wx : (Lit.float .f64 x).wf = true) (wy : (Lit.float .f64 y).wf = true) (wz : (Lit.float .f64 z).wf = true) (w : World) :
    Calls Try.prog 22 #[.float .f64 x, .float .f64 y, .float .f64 z] w (FGives .f64 (kmin (kmin (key .f64 x) (key .f64 y)) (key .f64 z)) w) := by
  obtain ⟨r, q, hr, wr, kr⟩ := min_run3 (P := Try.prog) .f64 x y z wx wy wz w
  have WR := Lib.hid wr
  have KR := Lib.hid kr
  clear wr kr wx wy wz
  go_enter Try.func22, Try.ntmps22
  go_wp2
  go_ret
  exact ⟨r, q, WR.out, KR.out, rfl, rfl⟩

set_option maxHeartbeats 1000000 in
theorem specMinFloats (x y : Nat) (wx : (Lit.float .f64 x).wf = true) (wy : (Lit.float .f64 y).wf = true) (w : World) :
    Calls Try.prog 19 #[.float .f64 x, .float .f64 y] w (FGives .f64 (kmin (key .f64 x) (key .f64 y)) w) := by
  have WX := Lib.hid wx
  have WY := Lib.hid wy
  clear wx wy
  cases hx : nanB .f64 x
  · cases hy : nanB .f64 y
    · rcases Int.lt_trichotomy (fval .f64 x) (fval .f64 y) with h | h | h
      · have ho := order_lt hx hy h
        have e : fmin .f64 x y = x := by simp [fmin, h]
        have K : Hid (key .f64 x = kmin (key .f64 x) (key .f64 y)) := by show key .f64 x = kmin (key .f64 x) (key .f64 y); exact (congrArg (key .f64) e.symm).trans (key_fmin hx hy)
        clear h e
        go_enter Try.func19, Try.ntmps19
        go_wp2_with (first | (go_at_call 28; refine (none_any _ _).mono ?_; rintro e w' ⟨rfl, rfl⟩) | (go_at_call 29; refine (signbit_any _ (by first | exact WX.out | exact WY.out) _).mono ?_; rintro e w' ⟨rfl, rfl⟩))
        go_ret
        exact ⟨x, 0, WX.out, K.out, rfl, rfl⟩
      · have ho := order_eq hx hy h
        cases hn : negB .f64 x
        · have e : fmin .f64 x y = y := by simp [fmin, h, hn]
          have K : Hid (key .f64 y = kmin (key .f64 x) (key .f64 y)) := by show key .f64 y = kmin (key .f64 x) (key .f64 y); exact (congrArg (key .f64) e.symm).trans (key_fmin hx hy)
          clear h e
          go_enter Try.func19, Try.ntmps19
          go_wp2_with (first | (go_at_call 28; refine (none_any _ _).mono ?_; rintro e w' ⟨rfl, rfl⟩) | (go_at_call 29; refine (signbit_any _ (by first | exact WX.out | exact WY.out) _).mono ?_; rintro e w' ⟨rfl, rfl⟩))
          go_ret
          exact ⟨y, 0, WY.out, K.out, rfl, rfl⟩
        · have e : fmin .f64 x y = x := by simp [fmin, h, hn]
          have K : Hid (key .f64 x = kmin (key .f64 x) (key .f64 y)) := by show key .f64 x = kmin (key .f64 x) (key .f64 y); exact (congrArg (key .f64) e.symm).trans (key_fmin hx hy)
          clear h e
          go_enter Try.func19, Try.ntmps19
          go_wp2_with (first | (go_at_call 28; refine (none_any _ _).mono ?_; rintro e w' ⟨rfl, rfl⟩) | (go_at_call 29; refine (signbit_any _ (by first | exact WX.out | exact WY.out) _).mono ?_; rintro e w' ⟨rfl, rfl⟩))
          go_ret
          exact ⟨x, 0, WX.out, K.out, rfl, rfl⟩
      · have ho := order_gt hx hy h
        have e : fmin .f64 x y = y := by
          have g : ¬ fval .f64 x < fval .f64 y := by omega
          simp [fmin, h, g]
        have K : Hid (key .f64 y = kmin (key .f64 x) (key .f64 y)) := by show key .f64 y = kmin (key .f64 x) (key .f64 y); exact (congrArg (key .f64) e.symm).trans (key_fmin hx hy)
        clear h e
        go_enter Try.func19, Try.ntmps19
        go_wp2_with (first | (go_at_call 28; refine (none_any _ _).mono ?_; rintro e w' ⟨rfl, rfl⟩) | (go_at_call 29; refine (signbit_any _ (by first | exact WX.out | exact WY.out) _).mono ?_; rintro e w' ⟨rfl, rfl⟩))
        go_ret
        exact ⟨y, 0, WY.out, K.out, rfl, rfl⟩
    · have ho : True := trivial
      have K : Hid (key .f64 y = kmin (key .f64 x) (key .f64 y)) := by show key .f64 y = kmin (key .f64 x) (key .f64 y); rw [kmin_nan_right hy, key_nan hy]
      clear ho
      go_enter Try.func19, Try.ntmps19
      go_wp2_with (first | (go_at_call 28; refine (none_any _ _).mono ?_; rintro e w' ⟨rfl, rfl⟩) | (go_at_call 29; refine (signbit_any _ (by first | exact WX.out | exact WY.out) _).mono ?_; rintro e w' ⟨rfl, rfl⟩))
      go_ret
      exact ⟨y, 0, WY.out, K.out, rfl, rfl⟩
  · have ho : True := trivial
    have K : Hid (key .f64 x = kmin (key .f64 x) (key .f64 y)) := by show key .f64 x = kmin (key .f64 x) (key .f64 y); rw [kmin_nan_left hx, key_nan hx]
    clear ho
    go_enter Try.func19, Try.ntmps19
    go_wp2_with (first | (go_at_call 28; refine (none_any _ _).mono ?_; rintro e w' ⟨rfl, rfl⟩) | (go_at_call 29; refine (signbit_any _ (by first | exact WX.out | exact WY.out) _).mono ?_; rintro e w' ⟨rfl, rfl⟩))
    go_ret
    exact ⟨x, 0, WX.out, K.out, rfl, rfl⟩

theorem specMinFloats3 (x y z : Nat) (wx : (Lit.float .f64 x).wf = true) (wy : (Lit.float .f64 y).wf = true) (wz : (Lit.float .f64 z).wf = true) (w : World) :
    Calls Try.prog 23 #[.float .f64 x, .float .f64 y, .float .f64 z] w (FGives .f64 (kmin (kmin (key .f64 x) (key .f64 y)) (key .f64 z)) w) := by
  have WX := Lib.hid wx
  have WY := Lib.hid wy
  have WZ := Lib.hid wz
  clear wx wy wz
  go_enter Try.func23, Try.ntmps23
  go_wp2_with fail
  refine (specMinFloats x y WX.out WY.out _).mono ?_
  rintro e w1 ⟨r, q, wr, kr, rfl, rfl⟩
  have WR := Lib.hid wr
  have KR := Lib.hid kr
  clear wr kr
  go_wp2_with fail
  refine (specMinFloats r z WR.out WZ.out _).mono ?_
  rintro e w1 ⟨s, p, ws, ks, rfl, rfl⟩
  have WS := Lib.hid ws
  have KS := Lib.hid ks
  clear ws ks
  go_wp2
  go_ret
  exact ⟨s, q + p, WS.out, by rw [KS.out, KR.out], rfl, by simp⟩

theorem implMaxFloats (x y : Nat) (wx : (Lit.float .f64 x).wf = true) (wy : (Lit.float .f64 y).wf = true) (w : World) :
    Calls Try.prog 15 #[.float .f64 x, .float .f64 y] w (FGives .f64 (kmax (key .f64 x) (key .f64 y)) w) := by
  obtain ⟨r, q, hr, wr, kr⟩ := max_run2 (P := Try.prog) .f64 x y wx wy w
  have WR := Lib.hid wr
  have KR := Lib.hid kr
  clear wr kr wx wy
  go_enter Try.func15, Try.ntmps15
  go_wp2
  go_ret
  exact ⟨r, q, WR.out, KR.out, rfl, rfl⟩

theorem implMaxFloats3 (x y z : Nat) (wx : (Lit.float .f64 x).wf = true) (wy : (Lit.float .f64 y).wf = true) (wz : (Lit.float .f64 z).wf = true) (w : World) :
    Calls Try.prog 20 #[.float .f64 x, .float .f64 y, .float .f64 z] w (FGives .f64 (kmax (kmax (key .f64 x) (key .f64 y)) (key .f64 z)) w) := by
  obtain ⟨r, q, hr, wr, kr⟩ := max_run3 (P := Try.prog) .f64 x y z wx wy wz w
  have WR := Lib.hid wr
  have KR := Lib.hid kr
  clear wr kr wx wy wz
  go_enter Try.func20, Try.ntmps20
  go_wp2
  go_ret
  exact ⟨r, q, WR.out, KR.out, rfl, rfl⟩

set_option maxHeartbeats 1000000 in
theorem specMaxFloats (x y : Nat) (wx : (Lit.float .f64 x).wf = true) (wy : (Lit.float .f64 y).wf = true) (w : World) :
    Calls Try.prog 18 #[.float .f64 x, .float .f64 y] w (FGives .f64 (kmax (key .f64 x) (key .f64 y)) w) := by
  have WX := Lib.hid wx
  have WY := Lib.hid wy
  clear wx wy
  cases hx : nanB .f64 x
  · cases hy : nanB .f64 y
    · rcases Int.lt_trichotomy (fval .f64 x) (fval .f64 y) with h | h | h
      · have ho := order_lt hx hy h
        have e : fmax .f64 x y = y := by simp [fmax, h]
        have K : Hid (key .f64 y = kmax (key .f64 x) (key .f64 y)) := by show key .f64 y = kmax (key .f64 x) (key .f64 y); exact (congrArg (key .f64) e.symm).trans (key_fmax hx hy)
        clear h e
        go_enter Try.func18, Try.ntmps18
        go_wp2_with (first | (go_at_call 28; refine (none_any _ _).mono ?_; rintro e w' ⟨rfl, rfl⟩) | (go_at_call 29; refine (signbit_any _ (by first | exact WX.out | exact WY.out) _).mono ?_; rintro e w' ⟨rfl, rfl⟩))
        go_ret
        exact ⟨y, 0, WY.out, K.out, rfl, rfl⟩
      · have ho := order_eq hx hy h
        cases hn : negB .f64 x
        · have e : fmax .f64 x y = x := by simp [fmax, h, hn]
          have K : Hid (key .f64 x = kmax (key .f64 x) (key .f64 y)) := by show key .f64 x = kmax (key .f64 x) (key .f64 y); exact (congrArg (key .f64) e.symm).trans (key_fmax hx hy)
          clear h e
          go_enter Try.func18, Try.ntmps18
          go_wp2_with (first | (go_at_call 28; refine (none_any _ _).mono ?_; rintro e w' ⟨rfl, rfl⟩) | (go_at_call 29; refine (signbit_any _ (by first | exact WX.out | exact WY.out) _).mono ?_; rintro e w' ⟨rfl, rfl⟩))
          go_ret
          exact ⟨x, 0, WX.out, K.out, rfl, rfl⟩
        · have e : fmax .f64 x y = y := by simp [fmax, h, hn]
          have K : Hid (key .f64 y = kmax (key .f64 x) (key .f64 y)) := by show key .f64 y = kmax (key .f64 x) (key .f64 y); exact (congrArg (key .f64) e.symm).trans (key_fmax hx hy)
          clear h e
          go_enter Try.func18, Try.ntmps18
          go_wp2_with (first | (go_at_call 28; refine (none_any _ _).mono ?_; rintro e w' ⟨rfl, rfl⟩) | (go_at_call 29; refine (signbit_any _ (by first | exact WX.out | exact WY.out) _).mono ?_; rintro e w' ⟨rfl, rfl⟩))
          go_ret
          exact ⟨y, 0, WY.out, K.out, rfl, rfl⟩
      · have ho := order_gt hx hy h
        have e : fmax .f64 x y = x := by
          have g : ¬ fval .f64 x < fval .f64 y := by omega
          simp [fmax, h, g]
        have K : Hid (key .f64 x = kmax (key .f64 x) (key .f64 y)) := by show key .f64 x = kmax (key .f64 x) (key .f64 y); exact (congrArg (key .f64) e.symm).trans (key_fmax hx hy)
        clear h e
        go_enter Try.func18, Try.ntmps18
        go_wp2_with (first | (go_at_call 28; refine (none_any _ _).mono ?_; rintro e w' ⟨rfl, rfl⟩) | (go_at_call 29; refine (signbit_any _ (by first | exact WX.out | exact WY.out) _).mono ?_; rintro e w' ⟨rfl, rfl⟩))
        go_ret
        exact ⟨x, 0, WX.out, K.out, rfl, rfl⟩
    · have ho : True := trivial
      have K : Hid (key .f64 y = kmax (key .f64 x) (key .f64 y)) := by show key .f64 y = kmax (key .f64 x) (key .f64 y); rw [kmax_nan_right hy, key_nan hy]
      clear ho
      go_enter Try.func18, Try.ntmps18
      go_wp2_with (first | (go_at_call 28; refine (none_any _ _).mono ?_; rintro e w' ⟨rfl, rfl⟩) | (go_at_call 29; refine (signbit_any _ (by first | exact WX.out | exact WY.out) _).mono ?_; rintro e w' ⟨rfl, rfl⟩))
      go_ret
      exact ⟨y, 0, WY.out, K.out, rfl, rfl⟩
  · have ho : True := trivial
    have K : Hid (key .f64 x = kmax (key .f64 x) (key .f64 y)) := by show key .f64 x = kmax (key .f64 x) (key .f64 y); rw [kmax_nan_left hx, key_nan hx]
    clear ho
    go_enter Try.func18, Try.ntmps18
    go_wp2_with (first | (go_at_call 28; refine (none_any _ _).mono ?_; rintro e w' ⟨rfl, rfl⟩) | (go_at_call 29; refine (signbit_any _ (by first | exact WX.out | exact WY.out) _).mono ?_; rintro e w' ⟨rfl, rfl⟩))
    go_ret
    exact ⟨x, 0, WX.out, K.out, rfl, rfl⟩

theorem specMaxFloats3 (x y z : Nat) (wx : (Lit.float .f64 x).wf = true) (wy : (Lit.float .f64 y).wf = true) (wz : (Lit.float .f64 z).wf = true) (w : World) :
    Calls Try.prog 21 #[.float .f64 x, .float .f64 y, .float .f64 z] w (FGives .f64 (kmax (kmax (key .f64 x) (key .f64 y)) (key .f64 z)) w) := by
  have WX := Lib.hid wx
  have WY := Lib.hid wy
  have WZ := Lib.hid wz
  clear wx wy wz
  go_enter Try.func21, Try.ntmps21
  go_wp2_with fail
  refine (specMaxFloats x y WX.out WY.out _).mono ?_
  rintro e w1 ⟨r, q, wr, kr, rfl, rfl⟩
  have WR := Lib.hid wr
  have KR := Lib.hid kr
  clear wr kr
  go_wp2_with fail
  refine (specMaxFloats r z WR.out WZ.out _).mono ?_
  rintro e w1 ⟨s, p, ws, ks, rfl, rfl⟩
  have WS := Lib.hid ws
  have KS := Lib.hid ks
  clear ws ks
  go_wp2
  go_ret
  exact ⟨s, q + p, WS.out, by rw [KS.out, KR.out], rfl, by simp⟩

end Go.Proofs.Ytnahhiphofdijaa
