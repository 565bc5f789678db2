/-
  Max of Smalls: the law function laws.FnExactMaxSmalls3 returns true for every input, without a condition, and leaves its argument as it was.
-/
import Derived.Test.YtbmkijgnaemfmaaRows
import Derived.Test.YtbmkijgnaemfmaaSmalls
import Derived.WalkKit
import Derived.ProofKit
import Derived.OpenShut
import Derived.ShutString
import Derived.ChangeOld
import Derived.Below
import Derived.WalkLawsBesides
namespace Go.Proofs.Ytbmkijgnaemfmaa.fnExactMaxSmalls3
open Go.ChangeShapes Go.WideShapes Go.ChangeAt Go.RowKit
open Go.ChangeMaps (open_string shut_string)
set_option linter.unusedVariables false

theorem own : ownKnob Try.prog.godebug = none := by kernel_rfl

set_option maxHeartbeats 1000000 in
theorem walk (a0 : Nat) (a1 : Nat) (a2 : Nat) (w : World) (w0 : (Lit.float .f32 a0).wf = true) (w1 : (Lit.float .f32 a1).wf = true) (w2 : (Lit.float .f32 a2).wf = true) :
    Calls Try.prog 6 #[.float .f32 a0, .float .f32 a1, .float .f32 a2] w fun e w' => e = .returned (.bool true) ∧ Below w.heap.size w w' := by
  have W0 := Lib.hid w0
  have W1 := Lib.hid w1
  have W2 := Lib.hid w2
  clear w0 w1 w2
  go_enter Try.func6, Try.ntmps6
  go_wp2_with fail
  refine (implMaxSmalls3 a0 a1 a2 W0.out W1.out W2.out _).mono ?_
  rintro e u1 ⟨r1, q1, v1, k1, rfl, h1⟩
  have B1 : Hid (Below w.heap.size w u1) := by rw [h1]; exact below_drewN (Below.refl _ _) q1
  have V1 := Lib.hid v1
  have K1 := Lib.hid k1
  clear v1 k1 h1
  obtain ⟨c2, d2, e2, v2, k2, _, _⟩ := conv_run (P := Try.prog) 27 22 Try.underlying27 Try.underlying22 r1 u1
  have V2 := Lib.hid v2
  have K2 := Lib.hid k2
  clear v2 k2
  go_wp2_with fail
  refine (specMaxSmalls3 a0 a1 a2 W0.out W1.out W2.out _).mono ?_
  rintro e u3 ⟨r3, q3, v3, k3, rfl, h3⟩
  have B3 : Hid (Below w.heap.size w u3) := by rw [h3]; exact below_drewN (below_drewN B1.out (d2)) q3
  have V3 := Lib.hid v3
  have K3 := Lib.hid k3
  clear v3 k3 h3
  obtain ⟨c4, d4, e4, v4, k4, _, _⟩ := conv_run (P := Try.prog) 27 22 Try.underlying27 Try.underlying22 r3 u3
  have V4 := Lib.hid v4
  have K4 := Lib.hid k4
  clear v4 k4
  have s5 : sameB .f64 c2 c4 = true := same_of_key (by rw [K2.out, K4.out]; exact wkey_eq (by rw [K1.out, K3.out]))
  go_wp2_with fail
  refine (same_any c2 c4 V2.out V4.out _).mono ?_
  rintro e u5 ⟨rfl, rfl⟩
  go_wp2
  go_ret
  exact ⟨by simp, (below_drewN B3.out (d4))⟩

set_option maxRecDepth 100000 in
theorem lifted (os : Os) (started : os.Started) (H : Type) (enc : TypeId × Value → H) :
    ReturnsInHanded {} Try.checked os 6 .any (Rows.fnExactMaxSmalls3Spec.pre6 enc Try.prog Try.f6 Rows.fnExactMaxSmalls3Row.domain false) (Rows.fnExactMaxSmalls3Spec.post enc Try.prog Try.f6 false true false false) := by
  refine returnsInHanded_of_change (C := Try.checked) own started (by kernel_rfl) Try.func6
    (ChangeSpec.witness6 (enc := enc) (C := Try.checked) false ⟨#[], #[.float .f32 0, .float .f32 0, .float .f32 0], []⟩ 8 (by kernel_rfl) (by kernel_rfl) (by kernel_rfl) (by kernel_rfl)) ?_
  intro W base args ds gs before hval0 hW hcnd _
  have hval : ∀ (j : Nat) t v, Try.f6.params[j]? = some t → args[j]? = some v → Value.okWide Try.prog W .any base t v := hval0
  have hW' := hW
  obtain ⟨p, q, hA0, hV, rfl, hfz, hnd⟩ := hW
  have hA : DataW.TrodAll enc Try.prog W 0 (fun _ => true) true Try.f6.params.toList args.toList ds p := hA0
  rw [Try.params6] at hA hval
  obtain ⟨v0, vs0, d0, ds0, p0, q0, hargs, rfl, rfl, h0, r0⟩ := trodAll_cons hA
  obtain ⟨v1, vs1, d1, ds1, p1, q1, rfl, rfl, rfl, h1, r1⟩ := trodAll_cons r0
  obtain ⟨v2, vs2, d2, ds2, p2, q2, rfl, rfl, rfl, h2, r2⟩ := trodAll_cons r1
  obtain ⟨rfl, rfl, rfl⟩ := trodAll_nil r2
  obtain rfl : args = #[v0, v1, v2] := by cases args; simp_all
  obtain ⟨rfl, rfl⟩ := trodVars_none hV
  obtain ⟨a0, rfl, rfl, rfl, w0⟩ := open_float Try.underlying27 (hval 0 27 v0 rfl rfl) h0
  obtain ⟨a1, rfl, rfl, rfl, w1⟩ := open_float Try.underlying27 (hval 1 27 v1 rfl rfl) h1
  obtain ⟨a2, rfl, rfl, rfl, w2⟩ := open_float Try.underlying27 (hval 2 27 v2 rfl rfl) h2
  clear hA0 hval0
  refine (walk a0 a1 a2 W w0 w1 w2).mono fun e W' ⟨he, bel⟩ => ?_
  subst he
  exact ⟨_, rfl, _, _, _, [], _, [], hW', trodAll_mk1 (shut_bool Try.underlying4 _), (trodAll_cons_mk (shut_float Try.underlying27 w0) (trodAll_cons_mk (shut_float Try.underlying27 w1) (trodAll_cons_mk (shut_float Try.underlying27 w2) trodAll_mk0))), rfl, bel.frame _, fun h => by cases h⟩

theorem over : Rows.fnExactMaxSmalls3Row.holds Try.pinned (OpenSpec.ofChange Rows.fnExactMaxSmalls3Spec) :=
  OpenClaim.holds_of_wide 6 Try.f6 rfl rfl rfl rfl rfl rfl rfl ⟨rfl, rfl, rfl, rfl, rfl⟩ rfl rfl rfl rfl rfl (by kernel_rfl) Try.func6 (by kernel_rfl)
    (of_decide_eq_true (by kernel_rfl)) (by unfold Func.isWrapper; first | (rw [if_pos (by decide +kernel)]; kernel_rfl) | (rw [if_neg (by decide +kernel)]; exact ⟨rfl, rfl⟩))
    (fun os started H enc _ => lifted os started H enc)

/-- The given statement. -/
theorem proved : Rows.FnExactMaxSmalls3Said := over

end Go.Proofs.Ytbmkijgnaemfmaa.fnExactMaxSmalls3
