/-
  MinMax of Texts: the law function laws.FnMinMaxTexts returns true for every input, without a condition, and leaves its argument as it was.
-/
import Derived.Test.YtblelcdokoaccaaRows
import Derived.Test.YtblelcdokoaccaaTexts
import Derived.Test.YtblelcdokoaccaaCmpTexts
import Derived.Test.YtblelcdokoaccaaDrawTexts
import Derived.WalkKit
import Derived.ProofKit
import Derived.OpenShut
import Derived.ShutString
import Derived.ChangeOld
import Derived.Below
import Derived.WalkLawsBesides
namespace Go.Proofs.Ytblelcdokoaccaa.fnMinMaxTexts
open Go.ChangeShapes Go.WideShapes Go.ChangeAt Go.RowKit
open Go.ChangeMaps (open_string shut_string)
set_option linter.unusedVariables false

theorem own : ownKnob Try.prog.godebug = none := by kernel_rfl
theorem laidOut : laidOutB Try.prog = true := by kernel_rfl

set_option maxHeartbeats 1000000 in
set_option maxRecDepth 100000 in
theorem walk (a0 : Option Addr) (len0 cap0 : Nat) (z0 : List Int) (w : World) (w0 : IsRow .u8 w a0 len0 cap0 z0) :
    Calls Try.prog 12 #[.slice a0 len0 cap0] w fun e w' => e = .returned (.bool true) ∧ Below w.heap.size w w' := by
  by_cases hl : 1048576 < len0
  · go_enter Try.func12, Try.ntmps12
    go_wp2
    go_ret
    exact ⟨rfl, Below.refl _ _⟩
  · have W0 := Lib.hid w0
    clear w0
    go_enter Try.func12, Try.ntmps12
    go_wp2_with fail
    refine (draw_any w W0.out (by omega)).mono ?_
    rintro e w1 ⟨x, y, z, ⟨x, hx, rfl⟩, ⟨y, hy, rfl⟩, ⟨z, hz, rfl⟩, rfl, hB⟩
    have HB := Lib.hid hB
    have gx : x.size ≤ maxLen := by unfold maxLen; omega
    have gy : y.size ≤ maxLen := by unfold maxLen; omega
    have gz : z.size ≤ maxLen := by unfold maxLen; omega
    clear hB hx hy hz W0
    have f0 : decide (tcmp (tmin x y) (tmax x y) ≤ 0) = true := by simp; exact tcmp_le (tle_trans _ _ _ (tmin_le x y).1 (tmax_ge x y).1)
    cases hxy : tle x y
    · have e2 : ((tmin x y).toList == y.toList) = true := by rw [tmin_neg hxy]; simp
      have e3 : ((tmax x y).toList == x.toList) = true := by rw [tmax_pos (tle_total _ _ hxy)]; simp
      have e1 : ((tmin x y).toList == x.toList) = false := by
        rw [tmin_neg hxy, beq_eq_false_iff_ne]
        intro e; have := toList_inj e; rw [this, tle_refl] at hxy; cases hxy
      clear hxy
      go_wp2_with (first | (go_at_call 16; refine (implMinTexts _ _ _).mono ?_; rintro e w' ⟨rfl, q, rfl⟩) | (go_at_call 14; refine (implMaxTexts _ _ _).mono ?_; rintro e w' ⟨rfl, q, rfl⟩) | (go_at_call 23; refine (compareTexts _ _ _).mono ?_; rintro e w' ⟨rfl, rfl⟩))
      go_ret
      exact ⟨by simp, by repeat (first | exact HB.out | apply below_drewN)⟩
    · have e1 : ((tmin x y).toList == x.toList) = true := by rw [tmin_pos hxy]; simp
      have e2 : ((tmax x y).toList == y.toList) = true := by
        cases g : tle y x
        · rw [tmax_neg g]; simp
        · rw [tle_anti _ _ hxy g, tmax_self]; simp
      clear hxy
      go_wp2_with (first | (go_at_call 16; refine (implMinTexts _ _ _).mono ?_; rintro e w' ⟨rfl, q, rfl⟩) | (go_at_call 14; refine (implMaxTexts _ _ _).mono ?_; rintro e w' ⟨rfl, q, rfl⟩) | (go_at_call 23; refine (compareTexts _ _ _).mono ?_; rintro e w' ⟨rfl, rfl⟩))
      go_ret
      exact ⟨by simp, by repeat (first | exact HB.out | apply below_drewN)⟩

set_option maxRecDepth 100000 in
theorem lifted (os : Os) (started : os.Started) (H : Type) (enc : TypeId × Value → H) :
    ReturnsInHanded {} Try.checked os 12 .any (Rows.fnMinMaxTextsSpec.pre6 enc Try.prog Try.f12 Rows.fnMinMaxTextsRow.domain false) (Rows.fnMinMaxTextsSpec.post enc Try.prog Try.f12 false true false false) := by
  refine returnsInHanded_of_change (C := Try.checked) own started (by kernel_rfl) Try.func12
    (ChangeSpec.witness6 (enc := enc) (C := Try.checked) false ⟨#[], #[.slice none 0 0], []⟩ 8 (by kernel_rfl) (by kernel_rfl) (by kernel_rfl) (by kernel_rfl)) ?_
  intro W base args ds gs before hval0 hW hcnd _
  have hval : ∀ (j : Nat) t v, Try.f12.params[j]? = some t → args[j]? = some v → Value.okWide Try.prog W .any base t v := hval0
  have hW' := hW
  obtain ⟨p, q, hA0, hV, rfl, hfz, hnd⟩ := hW
  have hA : DataW.TrodAll enc Try.prog W 0 (fun _ => true) true Try.f12.params.toList args.toList ds p := hA0
  rw [Try.params12] at hA hval
  obtain ⟨v0, vs0, d0, ds0, p0, q0, hargs, rfl, rfl, h0, r0⟩ := trodAll_cons hA
  obtain ⟨rfl, rfl, rfl⟩ := trodAll_nil r0
  obtain rfl : args = #[v0] := by cases args; simp_all
  obtain ⟨rfl, rfl⟩ := trodVars_none hV
  obtain ⟨a0, len0, cap0, rfl⟩ := okWide_slice Try.underlying22 (hval 0 22 v0 rfl rfl)
  have k0 := h0
  have lt0 : ∀ x ∈ p0, x.block < W.heap.size := by obtain ⟨m, hm⟩ := k0; exact DataW.trod_lt m _ _ _ hm
  obtain ⟨z0, w0⟩ : ∃ zs, IsRow .u8 W a0 len0 cap0 zs := by
    obtain ⟨fuel, hf⟩ := h0
    rcases open_ints Try.underlying22 Try.underlying5 (by kernel_rfl) hf with ⟨hcs, _⟩ | ⟨x, l, c, zs, hcs, _, hl, hm, hz, _, hcell, hwz⟩
    · simp [Value.cells] at hcs
      obtain ⟨rfl, rfl, rfl⟩ := hcs
      exact ⟨[], .inl ⟨rfl, rfl, rfl, rfl⟩⟩
    · simp [Value.cells] at hcs
      obtain ⟨rfl, rfl, rfl⟩ := hcs
      exact ⟨zs, .inr ⟨_, rfl, hl, hm, by simpa using hz, hcell, hwz⟩⟩
  clear hA0 hval0
  refine (walk a0 len0 cap0 z0 W w0).mono fun e W' ⟨he, bel⟩ => ?_
  subst he
  exact ⟨_, rfl, _, _, _, [], _, [], hW', trodAll_mk1 (shut_bool Try.underlying4 _), (trodAll_cons_mk (Below.trod laidOut (by kernel_rfl) (of_decide_eq_true (by kernel_rfl)) k0 bel lt0) trodAll_mk0), rfl, bel.frame _, fun h => by cases h⟩

theorem over : Rows.fnMinMaxTextsRow.holds Try.pinned (OpenSpec.ofChange Rows.fnMinMaxTextsSpec) :=
  OpenClaim.holds_of_wide 12 Try.f12 rfl rfl rfl rfl rfl rfl rfl ⟨rfl, rfl, rfl, rfl, rfl⟩ rfl rfl rfl rfl rfl (by kernel_rfl) Try.func12 (by kernel_rfl)
    (of_decide_eq_true (by kernel_rfl)) (by unfold Func.isWrapper; first | (rw [if_pos (by decide +kernel)]; kernel_rfl) | (rw [if_neg (by decide +kernel)]; exact ⟨rfl, rfl⟩))
    (fun os started H enc _ => lifted os started H enc)

/-- The given statement. -/
theorem proved : Rows.FnMinMaxTextsSaid := over

end Go.Proofs.Ytblelcdokoaccaa.fnMinMaxTexts
