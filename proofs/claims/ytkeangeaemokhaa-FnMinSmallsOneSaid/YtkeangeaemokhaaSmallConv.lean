/-
  A floating-point number of 32 bits as one of 64 bits: it keeps its sign, a NaN stays one and nothing else becomes one, and two of one key have one key behind it, too. Condition: the word fits 32 bits.
-/
import Derived.Test.YtkeangeaemokhaaFloatRun
namespace Go.Proofs.Ytkeangeaemokhaa
open Ieee

theorem cut_zero (s : Bool) (n : Nat) : Toward.even.cut s n 0 = n := by
  simp [Toward.cut, Nat.mod_one]

/-- A number of 32 bits, written with 64: below infinity. -/
theorem nearest_wide (s : Bool) (m : Nat) (i : Int) (h : Fine single (.number s m i)) : ∃ r, r < double.infRung ∧ double.nearest s m i = double.word s r := by
  obtain ⟨h1, h2, _, h4⟩ := h
  have e1 : single.leastPlace = -149 := by decide
  have e2 : single.binade = 8388608 := by decide
  have e3 : (2 : Nat) ^ single.exponentBits = 256 := by decide
  rw [e1] at h1 h4
  rw [e2] at h2
  rw [e3] at h4
  have d1 : double.leastPlace = -1074 := by decide
  have d2 : double.binade = 4503599627370496 := by decide
  have d3 : double.infRung = 9218868437227405312 := by decide
  have d4 : (double.fractionBits : Int) = 52 := by decide
  unfold Format.nearest
  by_cases hm : m = 0
  · rw [if_pos hm]
    exact ⟨0, by rw [d3]; omega, rfl⟩
  · rw [if_neg hm]
    dsimp only
    have hl : m.log2 < 24 := (Nat.log2_lt hm).2 (by omega)
    have hlt : m < 2 ^ (m.log2 + 1) := Nat.lt_log2_self
    rw [d1, d2, d3, d4]
    have hlast : max (i + (m.log2 : Int) - 52) (-1074) = i + (m.log2 : Int) - 52 := by omega
    rw [hlast]
    have hdrop : (i + (m.log2 : Int) - 52 - i).toNat = 0 := by omega
    have hup : (i - (i + (m.log2 : Int) - 52)).toNat = 52 - m.log2 := by omega
    rw [hdrop, hup, cut_zero, Nat.shiftLeft_eq]
    have hk : m * 2 ^ (52 - m.log2) < 9007199254740992 := by
      have a : m * 2 ^ (52 - m.log2) < 2 ^ (m.log2 + 1) * 2 ^ (52 - m.log2) := Nat.mul_lt_mul_of_pos_right hlt (Nat.two_pow_pos _)
      rw [← Nat.pow_add, show m.log2 + 1 + (52 - m.log2) = 53 by omega] at a
      exact a
    generalize m * 2 ^ (52 - m.log2) = n at hk
    have hq : (i + (m.log2 : Int) - 52 - -1074).toNat ≤ 1200 := by omega
    generalize (i + (m.log2 : Int) - 52 - -1074).toNat = p at hq
    refine ⟨p * 4503599627370496 + n, by omega, ?_⟩
    rw [Nat.min_eq_left (by omega)]

/-- The same number with 64 bits. -/
def wide (x : Nat) : Nat := double.write (single.read x)

theorem wide_num {x : Nat} (hx : nanB .f32 x = false) : nanB .f64 (wide x) = false ∧ negB .f64 (wide x) = negB .f32 x ∧ floatToFloatBits .f32 x .f64 = some (wide x) := by
  have hfine : Fine single (single.read x) := read_fine _ _
  have hn : (single.read x).isNaN = false := hx
  have hlt : double.infRung < double.signWeight := double.infRung_lt
  have hdec : FloatKind.f32.decode x = single.read x := rfl
  have hneg : negB .f32 x = (single.read x).neg := rfl
  rw [hneg]
  unfold wide floatToFloatBits
  rw [if_neg (by decide), hdec]
  cases hd : single.read x with
  | nan s t => rw [hd] at hn; simp [Datum.isNaN] at hn
  | infinity s =>
    have w := word_div double s hlt
    refine ⟨?_, ?_, rfl⟩
    · show (double.read (double.word s double.infRung)).isNaN = false
      exact num_rung (by rw [w.2]; exact Nat.le_refl _)
    · show (double.read (double.word s double.infRung)).neg = s
      rw [read_neg]; exact w.1
  | number s m i =>
    rw [hd] at hfine
    obtain ⟨r, hr, e⟩ := nearest_wide s m i hfine
    have w := word_div double s (Nat.lt_trans hr hlt)
    have ew : double.write (.number s m i) = double.word s r := e
    refine ⟨?_, ?_, ?_⟩
    · show (double.read (double.write (.number s m i))).isNaN = false
      rw [ew]
      exact num_rung (by rw [w.2]; omega)
    · show (double.read (double.write (.number s m i))).neg = s
      rw [ew, read_neg]; exact w.1
    · have hinf : (FloatKind.f64.decode (FloatKind.f64.encode (.number s m i))).isInfinity = false := by
        show (double.read (double.write (.number s m i))).isInfinity = false
        rw [ew]
        exact fin_rung (by rw [w.2]; exact hr)
      show (if (FloatKind.f64.decode (FloatKind.f64.encode (.number s m i))).isInfinity = true then none else some (FloatKind.f64.encode (.number s m i))) = some (double.write (.number s m i))
      rw [hinf]
      rfl

/-- The key behind the conversion. -/
def wkey (x : Nat) : Option Int := if nanB .f32 x then none else key .f64 (wide x)

theorem wkey_eq {x y : Nat} (h : key .f32 x = key .f32 y) : wkey x = wkey y := by
  unfold wkey
  cases hx : nanB .f32 x
  · obtain ⟨hy, _, _, hr⟩ := key_inj hx h
    have : wide x = wide y := by unfold wide; exact congrArg double.write hr
    simp [hy, this]
  · rw [key_nan hx] at h
    have := nan_of_key.2 h.symm
    simp [this]

theorem conv_run {P : Program} (src dst : TypeId) (hs : P.underlying src = some (.float .f32)) (hd : P.underlying dst = some (.float .f64)) (x : Nat) (w : World) :
    ∃ r q, (convert src dst (.float .f32 x)).run P w = .ok (.float .f64 r) (w.drewN q) ∧ (Lit.float .f64 r).wf = true ∧ key .f64 r = wkey x ∧ nanB .f64 r = nanB .f32 x ∧ (nanB .f32 x = false → negB .f64 r = negB .f32 x) := by
  cases hx : nanB .f32 x
  · obtain ⟨h1, h2, h3⟩ := wide_num hx
    refine ⟨wide x, 0, ?_, ?_, by simp [wkey, hx], h1, fun _ => h2⟩
    · rw [run_convert_float_float w src dst .f32 .f64 x (wide x) (by rw [hs]; rfl) hd h3]; rfl
    · exact encode_wf .f64 (single.read x)
  · obtain ⟨h1, h2⟩ := cut_conv .f64 x (w.tape w.drawn (.nanConv .f64 x))
    refine ⟨_, 1, ?_, h2, by rw [key_nan h1]; simp [wkey, hx], h1, fun h => by cases h⟩
    have hn : (FloatKind.f32.decode x).isNaN = true := hx
    cases he : FloatKind.f32.decode x with
    | number s m i => rw [he] at hn; simp [Datum.isNaN] at hn
    | infinity s => rw [he] at hn; simp [Datum.isNaN] at hn
    | nan s t => simp [convert, run_underlying hs, run_underlying hd, Conv.floatToFloat, he, Question.forced, World.drew_is_drewN]

theorem wide_wf (x : Nat) : (Lit.float .f64 (wide x)).wf = true := encode_wf .f64 (single.read x)

theorem conv_num {P : Program} (src dst : TypeId) (hs : P.underlying src = some (.float .f32)) (hd : P.underlying dst = some (.float .f64)) (x : Nat) (hx : nanB .f32 x = false) (w : World) :
    (convert src dst (.float .f32 x)).run P w = .ok (.float .f64 (wide x)) w :=
  run_convert_float_float w src dst .f32 .f64 x (wide x) (by rw [hs]; rfl) hd (wide_num hx).2.2

end Go.Proofs.Ytkeangeaemokhaa
