/-
  What the model's own operations on floating-point numbers do: the built-ins min and max, the conversion from 32 to 64 bits, the sign bit; no program in sight. Conditions: the words fit their kinds.
-/
import Derived.Test.YtkeangeaemokhaaFloatPlain
import Derived.Laws.FloatArith
import Derived.Laws.NewFold
import Derived.Deep.Draws
import Derived.Laws.Externs
import Derived.OpenShut
namespace Go.Proofs.Ytkeangeaemokhaa
open Ieee

/-! ### Words and what they stand for -/
theorem read_neg (f : Format) (x : Nat) : (f.read x).neg = (x / f.signWeight % 2 == 1) := by
  unfold Format.read
  dsimp only
  split
  · rfl
  · split
    · rfl
    · split <;> rfl

theorem nan_rung {f : Format} {x : Nat} (hb : f.binade ≤ f.infRung) (h : f.infRung < x % f.signWeight) : (f.read x).isNaN = true := by
  unfold Format.read
  dsimp only
  rw [if_neg (by omega), if_neg (by omega), if_neg (by omega)]
  rfl

theorem num_rung {f : Format} {x : Nat} (h : x % f.signWeight ≤ f.infRung) : (f.read x).isNaN = false := by
  unfold Format.read
  dsimp only
  split
  · rfl
  · split
    · rfl
    · rw [if_pos (by omega)]
      rfl

theorem fin_rung {f : Format} {x : Nat} (h : x % f.signWeight < f.infRung) : (f.read x).isInfinity = false := by
  unfold Format.read
  dsimp only
  split
  · rfl
  · first | rfl | (rw [if_pos h]; rfl)

theorem word_div (f : Format) (s : Bool) {r : Nat} (h : r < f.signWeight) : (f.word s r / f.signWeight % 2 == 1) = s ∧ f.word s r % f.signWeight = r := by
  unfold Format.word
  have hp : 0 < f.signWeight := by omega
  cases s
  · simp only [Bool.false_eq_true, if_false]
    rw [Nat.div_eq_of_lt h, Nat.mod_eq_of_lt h]
    simp
  · simp only [if_true]
    rw [Nat.add_div_left _ hp, Nat.div_eq_of_lt h, Nat.add_mod_left, Nat.mod_eq_of_lt h]
    simp

theorem inf64 : FloatKind.f64.format.infRung = 9218868437227405312 := by decide
theorem sgn64 : FloatKind.f64.format.signWeight = 9223372036854775808 := by decide
theorem inf32 : FloatKind.f32.format.infRung = 2139095040 := by decide
theorem sgn32 : FloatKind.f32.format.signWeight = 2147483648 := by decide
theorem bin_inf (k : FloatKind) : k.format.binade ≤ k.format.infRung := by cases k <;> decide

theorem wf_f64 {x : Nat} (h : (Lit.float .f64 x).wf = true) : x < 18446744073709551616 := by
  simp [Lit.wf] at h; exact h
theorem wf_f32 {x : Nat} (h : (Lit.float .f32 x).wf = true) : x < 4294967296 := by
  simp [Lit.wf] at h; exact h

/-! ### An answer for a NaN is a NaN -/
theorem cut64 (t : Nat) : nanB .f64 ((t % 2) * 2 ^ 63 + 0x7ff0000000000000 + 1 + (t / 2) % (2 ^ 52 - 1)) = true ∧ (Lit.float .f64 ((t % 2) * 2 ^ 63 + 0x7ff0000000000000 + 1 + (t / 2) % (2 ^ 52 - 1))).wf = true := by
  refine ⟨nan_rung (bin_inf .f64) ?_, wf_of_lt .f64 _ ?_⟩
  · rw [inf64, sgn64]
    have hu : (t / 2) % (2 ^ 52 - 1) < 4503599627370495 := Nat.mod_lt _ (by decide)
    generalize (t / 2) % (2 ^ 52 - 1) = u at hu
    rcases (show t % 2 = 0 ∨ t % 2 = 1 by omega) with h | h <;> rw [h] <;> omega
  · show _ < 2 ^ 64
    omega
theorem cut32 (t : Nat) : nanB .f32 ((t % 2) * 2 ^ 31 + 0x7f800000 + 1 + (t / 2) % (2 ^ 23 - 1)) = true ∧ (Lit.float .f32 ((t % 2) * 2 ^ 31 + 0x7f800000 + 1 + (t / 2) % (2 ^ 23 - 1))).wf = true := by
  refine ⟨nan_rung (bin_inf .f32) ?_, wf_of_lt .f32 _ ?_⟩
  · rw [inf32, sgn32]
    have hu : (t / 2) % (2 ^ 23 - 1) < 8388607 := Nat.mod_lt _ (by decide)
    generalize (t / 2) % (2 ^ 23 - 1) = u at hu
    rcases (show t % 2 = 0 ∨ t % 2 = 1 by omega) with h | h <;> rw [h] <;> omega
  · show _ < 2 ^ 32
    omega

theorem cut_minMax (k : FloatKind) (m : Bool) (x y t : Nat) : nanB k ((Question.nanMinMax k m x y).cut t) = true ∧ (Lit.float k ((Question.nanMinMax k m x y).cut t)).wf = true := by
  cases k
  · exact cut32 t
  · exact cut64 t
theorem cut_conv (k : FloatKind) (x t : Nat) : nanB k ((Question.nanConv k x).cut t) = true ∧ (Lit.float k ((Question.nanConv k x).cut t)).wf = true := by
  cases k
  · exact cut32 t
  · exact cut64 t

/-! ### The built-ins -/
section
variable {P : Program}

theorem min2_run (k : FloatKind) (x y : Nat) (wx : (Lit.float k x).wf = true) (wy : (Lit.float k y).wf = true) (w : World) :
    ∃ r q, (Builtin.min2 (.float k x) (.float k y)).run P w = .ok (.float k r) (w.drewN q) ∧ (Lit.float k r).wf = true ∧ key k r = kmin (key k x) (key k y) := by
  cases hx : nanB k x
  · cases hy : nanB k y
    · refine ⟨fmin k x y, 0, ?_, ?_, key_fmin hx hy⟩
      · rcases Int.lt_trichotomy (fval k x) (fval k y) with h | h | h
        · have e : fmin k x y = x := by simp [fmin, h]
          simp [Builtin.min2, order_lt hx hy h, e, World.drewN_zero]
        · have e : fmin k x y = if negB k x then x else y := by simp [fmin, h]
          simp only [negB] at e
          simp [Builtin.min2, order_eq hx hy h, e, World.drewN_zero, FloatKind.decode]
          rfl
        · have e : fmin k x y = y := by
            have : ¬ fval k x < fval k y := by omega
            simp [fmin, h, this]
          simp [Builtin.min2, order_gt hx hy h, e, World.drewN_zero]
      · unfold fmin; split
        · exact wx
        · split
          · exact wy
          · split
            · exact wx
            · exact wy
    · obtain ⟨h1, h2⟩ := cut_minMax k false x y (w.tape w.drawn (.nanMinMax k false x y))
      refine ⟨_, 1, ?_, h2, by rw [key_nan h1, kmin_nan_right hy]⟩
      simp [Builtin.min2, order_nan (Or.inr hy), Question.forced, World.drew_is_drewN]
  · obtain ⟨h1, h2⟩ := cut_minMax k false x y (w.tape w.drawn (.nanMinMax k false x y))
    refine ⟨_, 1, ?_, h2, by rw [key_nan h1, kmin_nan_left hx]⟩
    simp [Builtin.min2, order_nan (Or.inl hx), Question.forced, World.drew_is_drewN]

theorem max2_run (k : FloatKind) (x y : Nat) (wx : (Lit.float k x).wf = true) (wy : (Lit.float k y).wf = true) (w : World) :
    ∃ r q, (Builtin.max2 (.float k x) (.float k y)).run P w = .ok (.float k r) (w.drewN q) ∧ (Lit.float k r).wf = true ∧ key k r = kmax (key k x) (key k y) := by
  cases hx : nanB k x
  · cases hy : nanB k y
    · refine ⟨fmax k x y, 0, ?_, ?_, key_fmax hx hy⟩
      · rcases Int.lt_trichotomy (fval k x) (fval k y) with h | h | h
        · have e : fmax k x y = y := by simp [fmax, h]
          simp [Builtin.max2, order_lt hx hy h, e, World.drewN_zero]
        · have e : fmax k x y = if negB k x then y else x := by simp [fmax, h]
          simp only [negB] at e
          simp [Builtin.max2, order_eq hx hy h, e, World.drewN_zero, FloatKind.decode]
          rfl
        · have e : fmax k x y = x := by
            have : ¬ fval k x < fval k y := by omega
            simp [fmax, h, this]
          simp [Builtin.max2, order_gt hx hy h, e, World.drewN_zero]
      · unfold fmax; split
        · exact wy
        · split
          · exact wx
          · split
            · exact wy
            · exact wx
    · obtain ⟨h1, h2⟩ := cut_minMax k true x y (w.tape w.drawn (.nanMinMax k true x y))
      refine ⟨_, 1, ?_, h2, by rw [key_nan h1, kmax_nan_right hy]⟩
      simp [Builtin.max2, order_nan (Or.inr hy), Question.forced, World.drew_is_drewN]
  · obtain ⟨h1, h2⟩ := cut_minMax k true x y (w.tape w.drawn (.nanMinMax k true x y))
    refine ⟨_, 1, ?_, h2, by rw [key_nan h1, kmax_nan_left hx]⟩
    simp [Builtin.max2, order_nan (Or.inl hx), Question.forced, World.drew_is_drewN]

theorem min_run2 (k : FloatKind) (x y : Nat) (wx : (Lit.float k x).wf = true) (wy : (Lit.float k y).wf = true) (w : World) :
    ∃ r q, (∀ ts t, (Builtin.min_ ts t #[.float k x, .float k y]).run P w = .ok (.float k r) (w.drewN q)) ∧ (Lit.float k r).wf = true ∧ key k r = kmin (key k x) (key k y) := by
  obtain ⟨r, q, h, h2⟩ := min2_run (P := P) k x y wx wy w
  exact ⟨r, q, fun _ _ => by simp [Builtin.min_, h], h2⟩
theorem max_run2 (k : FloatKind) (x y : Nat) (wx : (Lit.float k x).wf = true) (wy : (Lit.float k y).wf = true) (w : World) :
    ∃ r q, (∀ ts t, (Builtin.max_ ts t #[.float k x, .float k y]).run P w = .ok (.float k r) (w.drewN q)) ∧ (Lit.float k r).wf = true ∧ key k r = kmax (key k x) (key k y) := by
  obtain ⟨r, q, h, h2⟩ := max2_run (P := P) k x y wx wy w
  exact ⟨r, q, fun _ _ => by simp [Builtin.max_, h], h2⟩
theorem min_run3 (k : FloatKind) (x y z : Nat) (wx : (Lit.float k x).wf = true) (wy : (Lit.float k y).wf = true) (wz : (Lit.float k z).wf = true) (w : World) :
    ∃ r q, (∀ ts t, (Builtin.min_ ts t #[.float k x, .float k y, .float k z]).run P w = .ok (.float k r) (w.drewN q)) ∧ (Lit.float k r).wf = true ∧ key k r = kmin (kmin (key k x) (key k y)) (key k z) := by
  obtain ⟨r, q, h, wr, h2⟩ := min2_run (P := P) k x y wx wy w
  obtain ⟨s, p, g, ws, g2⟩ := min2_run (P := P) k r z wr wz (w.drewN q)
  exact ⟨s, q + p, fun _ _ => by simp [Builtin.min_, h, g], ws, by rw [g2, h2]⟩
theorem max_run3 (k : FloatKind) (x y z : Nat) (wx : (Lit.float k x).wf = true) (wy : (Lit.float k y).wf = true) (wz : (Lit.float k z).wf = true) (w : World) :
    ∃ r q, (∀ ts t, (Builtin.max_ ts t #[.float k x, .float k y, .float k z]).run P w = .ok (.float k r) (w.drewN q)) ∧ (Lit.float k r).wf = true ∧ key k r = kmax (kmax (key k x) (key k y)) (key k z) := by
  obtain ⟨r, q, h, wr, h2⟩ := max2_run (P := P) k x y wx wy w
  obtain ⟨s, p, g, ws, g2⟩ := max2_run (P := P) k r z wr wz (w.drewN q)
  exact ⟨s, q + p, fun _ _ => by simp [Builtin.max_, h, g], ws, by rw [g2, h2]⟩
end

end Go.Proofs.Ytkeangeaemokhaa
