/-
  What the functions that give the smaller and the larger one of floating-point numbers (Smalls) return: the built-in's and the reference's, told by their keys. Condition: the words fit their kind.
-/
import Derived.Test.YtkeangeaemokhaaFloatSame
import Derived.Test.YtkeangeaemokhaaSmallConv
import Derived.WalkKit
import Derived.WalkLawsBesides
import Derived.Lib.Hide
import Derived.Outline
namespace Go.Proofs.Ytkeangeaemokhaa
open Go.RowKit

/-- It returned a number of that key; of the world nothing but the count of answers drawn has turned. -/
def FGives (k : FloatKind) (K : Option Int) (w : World) (e : Ending) (w' : World) : Prop :=
  ∃ r q, (Lit.float k r).wf = true ∧ key k r = K ∧ e = .returned (.float k r) ∧ w' = w.drewN q

theorem implMinSmalls (x y : Nat) (wx : (Lit.float .f32 x).wf = true) (wy : (Lit.float .f32 y).wf = true) (w : World) :
    Calls Try.prog 14 #[.float .f32 x, .float .f32 y] w (FGives .f32 (kmin (key .f32 x) (key .f32 y)) w) := by
  obtain ⟨r, q, hr, wr, kr⟩ := min_run2 (P := Try.prog) .f32 x y wx wy w
  have WR := Lib.hid wr
  have KR := Lib.hid kr
  clear wr kr wx wy
  go_enter Try.func14, Try.ntmps14
  go_wp2
  go_ret
  exact ⟨r, q, WR.out, KR.out, rfl, rfl⟩

theorem implMinSmalls3 (x y z : Nat) (wx : (Lit.float .f32 x).wf = true) (wy : (Lit.float .f32 y).wf = true) (wz : (Lit.float .f32 z).wf = true) (w : World) :
    Calls Try.prog 22 #[.float .f32 x, .float .f32 y, .float .f32 z] w (FGives .f32 (kmin (kmin (key .f32 x) (key .f32 y)) (key .f32 z)) w) := by
  obtain ⟨r, q, hr, wr, kr⟩ := min_run3 (P := Try.prog) .f32 x y z wx wy wz w
  have WR := Lib.hid wr
  have KR := Lib.hid kr
  clear wr kr wx wy wz
  go_enter Try.func22, Try.ntmps22
  go_wp2
  go_ret
  exact ⟨r, q, WR.out, KR.out, rfl, rfl⟩

set_option maxHeartbeats 1000000 in
theorem specMinSmalls (x y : Nat) (wx : (Lit.float .f32 x).wf = true) (wy : (Lit.float .f32 y).wf = true) (w : World) :
    Calls Try.prog 19 #[.float .f32 x, .float .f32 y] w (FGives .f32 (kmin (key .f32 x) (key .f32 y)) w) := by
  have WX := Lib.hid wx
  have WY := Lib.hid wy
  clear wx wy
  cases hx : nanB .f32 x
  · cases hy : nanB .f32 y
    · rcases Int.lt_trichotomy (fval .f32 x) (fval .f32 y) with h | h | h
      · have ho := order_lt hx hy h
        have e : fmin .f32 x y = x := by simp [fmin, h]
        have K : Hid (key .f32 x = kmin (key .f32 x) (key .f32 y)) := by show key .f32 x = kmin (key .f32 x) (key .f32 y); exact (congrArg (key .f32) e.symm).trans (key_fmin hx hy)
        clear h e
        have cx := conv_num (P := Try.prog) 23 29 Try.underlying23 Try.underlying29 x hx
        have nx := (wide_num hx).1
        have cy := conv_num (P := Try.prog) 23 29 Try.underlying23 Try.underlying29 y hy
        have ny := (wide_num hy).1
        have g := (wide_num hx).2.1
        go_enter Try.func19, Try.ntmps19
        go_wp2_with (first | (go_at_call 28; refine (none_any _ _).mono ?_; rintro e w' ⟨rfl, rfl⟩) | (go_at_call 29; refine (signbit_any _ (wide_wf _) _).mono ?_; rintro e w' ⟨rfl, rfl⟩))
        go_ret
        exact ⟨x, 0, WX.out, K.out, rfl, rfl⟩
      · have ho := order_eq hx hy h
        cases hn : negB .f32 x
        · have e : fmin .f32 x y = y := by simp [fmin, h, hn]
          have K : Hid (key .f32 y = kmin (key .f32 x) (key .f32 y)) := by show key .f32 y = kmin (key .f32 x) (key .f32 y); exact (congrArg (key .f32) e.symm).trans (key_fmin hx hy)
          clear h e
          have cx := conv_num (P := Try.prog) 23 29 Try.underlying23 Try.underlying29 x hx
          have nx := (wide_num hx).1
          have cy := conv_num (P := Try.prog) 23 29 Try.underlying23 Try.underlying29 y hy
          have ny := (wide_num hy).1
          have g := (wide_num hx).2.1
          go_enter Try.func19, Try.ntmps19
          go_wp2_with (first | (go_at_call 28; refine (none_any _ _).mono ?_; rintro e w' ⟨rfl, rfl⟩) | (go_at_call 29; refine (signbit_any _ (wide_wf _) _).mono ?_; rintro e w' ⟨rfl, rfl⟩))
          go_ret
          exact ⟨y, 0, WY.out, K.out, rfl, rfl⟩
        · have e : fmin .f32 x y = x := by simp [fmin, h, hn]
          have K : Hid (key .f32 x = kmin (key .f32 x) (key .f32 y)) := by show key .f32 x = kmin (key .f32 x) (key .f32 y); exact (congrArg (key .f32) e.symm).trans (key_fmin hx hy)
          clear h e
          have cx := conv_num (P := Try.prog) 23 29 Try.underlying23 Try.underlying29 x hx
          have nx := (wide_num hx).1
          have cy := conv_num (P := Try.prog) 23 29 Try.underlying23 Try.underlying29 y hy
          have ny := (wide_num hy).1
          have g := (wide_num hx).2.1
          go_enter Try.func19, Try.ntmps19
          go_wp2_with (first | (go_at_call 28; refine (none_any _ _).mono ?_; rintro e w' ⟨rfl, rfl⟩) | (go_at_call 29; refine (signbit_any _ (wide_wf _) _).mono ?_; rintro e w' ⟨rfl, rfl⟩))
          go_ret
          exact ⟨x, 0, WX.out, K.out, rfl, rfl⟩
      · have ho := order_gt hx hy h
        have e : fmin .f32 x y = y := by
          have g : ¬ fval .f32 x < fval .f32 y := by omega
          simp [fmin, h, g]
        have K : Hid (key .f32 y = kmin (key .f32 x) (key .f32 y)) := by show key .f32 y = kmin (key .f32 x) (key .f32 y); exact (congrArg (key .f32) e.symm).trans (key_fmin hx hy)
        clear h e
        have cx := conv_num (P := Try.prog) 23 29 Try.underlying23 Try.underlying29 x hx
        have nx := (wide_num hx).1
        have cy := conv_num (P := Try.prog) 23 29 Try.underlying23 Try.underlying29 y hy
        have ny := (wide_num hy).1
        have g := (wide_num hx).2.1
        go_enter Try.func19, Try.ntmps19
        go_wp2_with (first | (go_at_call 28; refine (none_any _ _).mono ?_; rintro e w' ⟨rfl, rfl⟩) | (go_at_call 29; refine (signbit_any _ (wide_wf _) _).mono ?_; rintro e w' ⟨rfl, rfl⟩))
        go_ret
        exact ⟨y, 0, WY.out, K.out, rfl, rfl⟩
    · have ho : True := trivial
      have K : Hid (key .f32 y = kmin (key .f32 x) (key .f32 y)) := by show key .f32 y = kmin (key .f32 x) (key .f32 y); rw [kmin_nan_right hy, key_nan hy]
      clear ho
      have cx := conv_num (P := Try.prog) 23 29 Try.underlying23 Try.underlying29 x hx
      have nx := (wide_num hx).1
      obtain ⟨r, q, cy, _, _, ny, _⟩ := conv_run (P := Try.prog) 23 29 Try.underlying23 Try.underlying29 y w
      rw [hy] at ny
      go_enter Try.func19, Try.ntmps19
      go_wp2_with (first | (go_at_call 28; refine (none_any _ _).mono ?_; rintro e w' ⟨rfl, rfl⟩) | (go_at_call 29; refine (signbit_any _ (wide_wf _) _).mono ?_; rintro e w' ⟨rfl, rfl⟩))
      go_ret
      exact ⟨y, q, WY.out, K.out, rfl, rfl⟩
  · have ho : True := trivial
    have K : Hid (key .f32 x = kmin (key .f32 x) (key .f32 y)) := by show key .f32 x = kmin (key .f32 x) (key .f32 y); rw [kmin_nan_left hx, key_nan hx]
    clear ho
    obtain ⟨r, q, cx, _, _, nx, _⟩ := conv_run (P := Try.prog) 23 29 Try.underlying23 Try.underlying29 x w
    rw [hx] at nx
    go_enter Try.func19, Try.ntmps19
    go_wp2_with (first | (go_at_call 28; refine (none_any _ _).mono ?_; rintro e w' ⟨rfl, rfl⟩) | (go_at_call 29; refine (signbit_any _ (wide_wf _) _).mono ?_; rintro e w' ⟨rfl, rfl⟩))
    go_ret
    exact ⟨x, q, WX.out, K.out, rfl, rfl⟩

theorem specMinSmalls3 (x y z : Nat) (wx : (Lit.float .f32 x).wf = true) (wy : (Lit.float .f32 y).wf = true) (wz : (Lit.float .f32 z).wf = true) (w : World) :
    Calls Try.prog 23 #[.float .f32 x, .float .f32 y, .float .f32 z] w (FGives .f32 (kmin (kmin (key .f32 x) (key .f32 y)) (key .f32 z)) w) := by
  have WX := Lib.hid wx
  have WY := Lib.hid wy
  have WZ := Lib.hid wz
  clear wx wy wz
  go_enter Try.func23, Try.ntmps23
  go_wp2_with fail
  refine (specMinSmalls x y WX.out WY.out _).mono ?_
  rintro e w1 ⟨r, q, wr, kr, rfl, rfl⟩
  have WR := Lib.hid wr
  have KR := Lib.hid kr
  clear wr kr
  go_wp2_with fail
  refine (specMinSmalls r z WR.out WZ.out _).mono ?_
  rintro e w1 ⟨s, p, ws, ks, rfl, rfl⟩
  have WS := Lib.hid ws
  have KS := Lib.hid ks
  clear ws ks
  go_wp2
  go_ret
  exact ⟨s, q + p, WS.out, by rw [KS.out, KR.out], rfl, by simp⟩

theorem implMaxSmalls (x y : Nat) (wx : (Lit.float .f32 x).wf = true) (wy : (Lit.float .f32 y).wf = true) (w : World) :
    Calls Try.prog 15 #[.float .f32 x, .float .f32 y] w (FGives .f32 (kmax (key .f32 x) (key .f32 y)) w) := by
  obtain ⟨r, q, hr, wr, kr⟩ := max_run2 (P := Try.prog) .f32 x y wx wy w
  have WR := Lib.hid wr
  have KR := Lib.hid kr
  clear wr kr wx wy
  go_enter Try.func15, Try.ntmps15
  go_wp2
  go_ret
  exact ⟨r, q, WR.out, KR.out, rfl, rfl⟩

theorem implMaxSmalls3 (x y z : Nat) (wx : (Lit.float .f32 x).wf = true) (wy : (Lit.float .f32 y).wf = true) (wz : (Lit.float .f32 z).wf = true) (w : World) :
    Calls Try.prog 20 #[.float .f32 x, .float .f32 y, .float .f32 z] w (FGives .f32 (kmax (kmax (key .f32 x) (key .f32 y)) (key .f32 z)) w) := by
  obtain ⟨r, q, hr, wr, kr⟩ := max_run3 (P := Try.prog) .f32 x y z wx wy wz w
  have WR := Lib.hid wr
  have KR := Lib.hid kr
  clear wr kr wx wy wz
  go_enter Try.func20, Try.ntmps20
  go_wp2
  go_ret
  exact ⟨r, q, WR.out, KR.out, rfl, rfl⟩

set_option maxHeartbeats 1000000 in
theorem specMaxSmalls (x y : Nat) (wx : (Lit.float .f32 x).wf = true) (wy : (Lit.float .f32 y).wf = true) (w : World) :
    Calls Try.prog 18 #[.float .f32 x, .float .f32 y] w (FGives .f32 (kmax (key .f32 x) (key .f32 y)) w) := by
  have WX := Lib.hid wx
  have WY := Lib.hid wy
  clear wx wy
  cases hx : nanB .f32 x
  · cases hy : nanB .f32 y
    · rcases Int.lt_trichotomy (fval .f32 x) (fval .f32 y) with h | h | h
      · have ho := order_lt hx hy h
        have e : fmax .f32 x y = y := by simp [fmax, h]
        have K : Hid (key .f32 y = kmax (key .f32 x) (key .f32 y)) := by show key .f32 y = kmax (key .f32 x) (key .f32 y); exact (congrArg (key .f32) e.symm).trans (key_fmax hx hy)
        clear h e
        have cx := conv_num (P := Try.prog) 23 29 Try.underlying23 Try.underlying29 x hx
        have nx := (wide_num hx).1
        have cy := conv_num (P := Try.prog) 23 29 Try.underlying23 Try.underlying29 y hy
        have ny := (wide_num hy).1
        have g := (wide_num hx).2.1
        go_enter Try.func18, Try.ntmps18
        go_wp2_with (first | (go_at_call 28; refine (none_any _ _).mono ?_; rintro e w' ⟨rfl, rfl⟩) | (go_at_call 29; refine (signbit_any _ (wide_wf _) _).mono ?_; rintro e w' ⟨rfl, rfl⟩))
        go_ret
        exact ⟨y, 0, WY.out, K.out, rfl, rfl⟩
      · have ho := order_eq hx hy h
        cases hn : negB .f32 x
        · have e : fmax .f32 x y = x := by simp [fmax, h, hn]
          have K : Hid (key .f32 x = kmax (key .f32 x) (key .f32 y)) := by show key .f32 x = kmax (key .f32 x) (key .f32 y); exact (congrArg (key .f32) e.symm).trans (key_fmax hx hy)
          clear h e
          have cx := conv_num (P := Try.prog) 23 29 Try.underlying23 Try.underlying29 x hx
          have nx := (wide_num hx).1
          have cy := conv_num (P := Try.prog) 23 29 Try.underlying23 Try.underlying29 y hy
          have ny := (wide_num hy).1
          have g := (wide_num hx).2.1
          go_enter Try.func18, Try.ntmps18
          go_wp2_with (first | (go_at_call 28; refine (none_any _ _).mono ?_; rintro e w' ⟨rfl, rfl⟩) | (go_at_call 29; refine (signbit_any _ (wide_wf _) _).mono ?_; rintro e w' ⟨rfl, rfl⟩))
          go_ret
          exact ⟨x, 0, WX.out, K.out, rfl, rfl⟩
        · have e : fmax .f32 x y = y := by simp [fmax, h, hn]
          have K : Hid (key .f32 y = kmax (key .f32 x) (key .f32 y)) := by show key .f32 y = kmax (key .f32 x) (key .f32 y); exact (congrArg (key .f32) e.symm).trans (key_fmax hx hy)
          clear h e
          have cx := conv_num (P := Try.prog) 23 29 Try.underlying23 Try.underlying29 x hx
          have nx := (wide_num hx).1
          have cy := conv_num (P := Try.prog) 23 29 Try.underlying23 Try.underlying29 y hy
          have ny := (wide_num hy).1
          have g := (wide_num hx).2.1
          go_enter Try.func18, Try.ntmps18
          go_wp2_with (first | (go_at_call 28; refine (none_any _ _).mono ?_; rintro e w' ⟨rfl, rfl⟩) | (go_at_call 29; refine (signbit_any _ (wide_wf _) _).mono ?_; rintro e w' ⟨rfl, rfl⟩))
          go_ret
          exact ⟨y, 0, WY.out, K.out, rfl, rfl⟩
      · have ho := order_gt hx hy h
        have e : fmax .f32 x y = x := by
          have g : ¬ fval .f32 x < fval .f32 y := by omega
          simp [fmax, h, g]
        have K : Hid (key .f32 x = kmax (key .f32 x) (key .f32 y)) := by show key .f32 x = kmax (key .f32 x) (key .f32 y); exact (congrArg (key .f32) e.symm).trans (key_fmax hx hy)
        clear h e
        have cx := conv_num (P := Try.prog) 23 29 Try.underlying23 Try.underlying29 x hx
        have nx := (wide_num hx).1
        have cy := conv_num (P := Try.prog) 23 29 Try.underlying23 Try.underlying29 y hy
        have ny := (wide_num hy).1
        have g := (wide_num hx).2.1
        go_enter Try.func18, Try.ntmps18
        go_wp2_with (first | (go_at_call 28; refine (none_any _ _).mono ?_; rintro e w' ⟨rfl, rfl⟩) | (go_at_call 29; refine (signbit_any _ (wide_wf _) _).mono ?_; rintro e w' ⟨rfl, rfl⟩))
        go_ret
        exact ⟨x, 0, WX.out, K.out, rfl, rfl⟩
    · have ho : True := trivial
      have K : Hid (key .f32 y = kmax (key .f32 x) (key .f32 y)) := by show key .f32 y = kmax (key .f32 x) (key .f32 y); rw [kmax_nan_right hy, key_nan hy]
      clear ho
      have cx := conv_num (P := Try.prog) 23 29 Try.underlying23 Try.underlying29 x hx
      have nx := (wide_num hx).1
      obtain ⟨r, q, cy, _, _, ny, _⟩ := conv_run (P := Try.prog) 23 29 Try.underlying23 Try.underlying29 y w
      rw [hy] at ny
      go_enter Try.func18, Try.ntmps18
      go_wp2_with (first | (go_at_call 28; refine (none_any _ _).mono ?_; rintro e w' ⟨rfl, rfl⟩) | (go_at_call 29; refine (signbit_any _ (wide_wf _) _).mono ?_; rintro e w' ⟨rfl, rfl⟩))
      go_ret
      exact ⟨y, q, WY.out, K.out, rfl, rfl⟩
  · have ho : True := trivial
    have K : Hid (key .f32 x = kmax (key .f32 x) (key .f32 y)) := by show key .f32 x = kmax (key .f32 x) (key .f32 y); rw [kmax_nan_left hx, key_nan hx]
    clear ho
    obtain ⟨r, q, cx, _, _, nx, _⟩ := conv_run (P := Try.prog) 23 29 Try.underlying23 Try.underlying29 x w
    rw [hx] at nx
    go_enter Try.func18, Try.ntmps18
    go_wp2_with (first | (go_at_call 28; refine (none_any _ _).mono ?_; rintro e w' ⟨rfl, rfl⟩) | (go_at_call 29; refine (signbit_any _ (wide_wf _) _).mono ?_; rintro e w' ⟨rfl, rfl⟩))
    go_ret
    exact ⟨x, q, WX.out, K.out, rfl, rfl⟩

theorem specMaxSmalls3 (x y z : Nat) (wx : (Lit.float .f32 x).wf = true) (wy : (Lit.float .f32 y).wf = true) (wz : (Lit.float .f32 z).wf = true) (w : World) :
    Calls Try.prog 21 #[.float .f32 x, .float .f32 y, .float .f32 z] w (FGives .f32 (kmax (kmax (key .f32 x) (key .f32 y)) (key .f32 z)) w) := by
  have WX := Lib.hid wx
  have WY := Lib.hid wy
  have WZ := Lib.hid wz
  clear wx wy wz
  go_enter Try.func21, Try.ntmps21
  go_wp2_with fail
  refine (specMaxSmalls x y WX.out WY.out _).mono ?_
  rintro e w1 ⟨r, q, wr, kr, rfl, rfl⟩
  have WR := Lib.hid wr
  have KR := Lib.hid kr
  clear wr kr
  go_wp2_with fail
  refine (specMaxSmalls r z WR.out WZ.out _).mono ?_
  rintro e w1 ⟨s, p, ws, ks, rfl, rfl⟩
  have WS := Lib.hid ws
  have KS := Lib.hid ks
  clear ws ks
  go_wp2
  go_ret
  exact ⟨s, q + p, WS.out, by rw [KS.out, KR.out], rfl, by simp⟩

end Go.Proofs.Ytkeangeaemokhaa
