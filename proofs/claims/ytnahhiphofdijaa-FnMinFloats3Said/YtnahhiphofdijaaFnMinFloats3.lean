/-
  Min of Floats: the law function laws.FnMinFloats3 returns true for every input, without a condition, and leaves its argument as it was.
-/
import Derived.Test.YtnahhiphofdijaaRows
import Derived.Test.YtnahhiphofdijaaFloats
import Derived.Test.YtnahhiphofdijaaDrawFloats
import Derived.WalkKit
import Derived.ProofKit
import Derived.OpenShut
import Derived.ShutString
import Derived.ChangeOld
import Derived.Below
import Derived.WalkLawsBesides
namespace Go.Proofs.Ytnahhiphofdijaa.fnMinFloats3
open Go.ChangeShapes Go.WideShapes Go.ChangeAt Go.RowKit
open Go.ChangeMaps (open_string shut_string)
set_option linter.unusedVariables false

theorem own : ownKnob Try.prog.godebug = none := by kernel_rfl
theorem laidOut : laidOutB Try.prog = true := by kernel_rfl

set_option maxHeartbeats 2000000 in
set_option maxRecDepth 100000 in
theorem walk (a0 : Option Addr) (len0 cap0 : Nat) (z0 : List Int) (w : World) (w0 : IsRow .u8 w a0 len0 cap0 z0) :
    Calls Try.prog 8 #[.slice a0 len0 cap0] w fun e w' => e = .returned (.bool true) ∧ Below w.heap.size w w' := by
  by_cases hl : 1048576 < len0
  · go_enter Try.func8, Try.ntmps8
    go_wp2
    go_ret
    exact ⟨rfl, Below.refl _ _⟩
  · have W0 := Lib.hid w0
    clear w0
    go_enter Try.func8, Try.ntmps8
    go_wp2_with fail
    refine (draw_any w W0.out (by omega)).mono ?_
    rintro e u0 ⟨x, y, z, ⟨x, vx, rfl⟩, ⟨y, vy, rfl⟩, ⟨z, vz, rfl⟩, rfl, hB⟩
    have HB := Lib.hid hB
    have WX := Lib.hid vx
    have WY := Lib.hid vy
    have WZ := Lib.hid vz
    clear hB vx vy vz W0
    go_wp2_with fail
    refine (implMinFloats3 x y z WX.out WY.out WZ.out _).mono ?_
    rintro e u1 ⟨r1, q1, v1, k1, rfl, h1⟩
    have B1 : Hid (Below w.heap.size w u1) := by rw [h1]; exact below_drewN HB.out q1
    have V1 := Lib.hid v1
    have K1 := Lib.hid k1
    clear v1 k1 h1
    go_wp2_with fail
    refine (specMinFloats3 x y z WX.out WY.out WZ.out _).mono ?_
    rintro e u2 ⟨r2, q2, v2, k2, rfl, h2⟩
    have B2 : Hid (Below w.heap.size w u2) := by rw [h2]; exact below_drewN B1.out q2
    have V2 := Lib.hid v2
    have K2 := Lib.hid k2
    clear v2 k2 h2
    have s3 : sameB .f64 r1 r2 = true := same_of_key (by rw [K1.out, K2.out])
    go_wp2_with fail
    refine (same_any r1 r2 V1.out V2.out _).mono ?_
    rintro e u3 ⟨rfl, rfl⟩
    go_wp2_with fail
    refine (implMinFloats x y WX.out WY.out _).mono ?_
    rintro e u4 ⟨r4, q4, v4, k4, rfl, h4⟩
    have B4 : Hid (Below w.heap.size w u4) := by rw [h4]; exact below_drewN B2.out q4
    have V4 := Lib.hid v4
    have K4 := Lib.hid k4
    clear v4 k4 h4
    go_wp2_with fail
    refine (implMinFloats r4 z V4.out WZ.out _).mono ?_
    rintro e u5 ⟨r5, q5, v5, k5, rfl, h5⟩
    have B5 : Hid (Below w.heap.size w u5) := by rw [h5]; exact below_drewN B4.out q5
    have V5 := Lib.hid v5
    have K5 := Lib.hid k5
    clear v5 k5 h5
    have s6 : sameB .f64 r1 r5 = true := same_of_key (by rw [K1.out, K5.out, K4.out])
    go_wp2_with fail
    refine (same_any r1 r5 V1.out V5.out _).mono ?_
    rintro e u6 ⟨rfl, rfl⟩
    go_wp2_with fail
    refine (implMinFloats y z WY.out WZ.out _).mono ?_
    rintro e u7 ⟨r7, q7, v7, k7, rfl, h7⟩
    have B7 : Hid (Below w.heap.size w u7) := by rw [h7]; exact below_drewN B5.out q7
    have V7 := Lib.hid v7
    have K7 := Lib.hid k7
    clear v7 k7 h7
    go_wp2_with fail
    refine (implMinFloats x r7 WX.out V7.out _).mono ?_
    rintro e u8 ⟨r8, q8, v8, k8, rfl, h8⟩
    have B8 : Hid (Below w.heap.size w u8) := by rw [h8]; exact below_drewN B7.out q8
    have V8 := Lib.hid v8
    have K8 := Lib.hid k8
    clear v8 k8 h8
    have s9 : sameB .f64 r1 r8 = true := same_of_key (by rw [K1.out, K8.out, K7.out]; exact kmin_assoc _ _ _)
    go_wp2_with fail
    refine (same_any r1 r8 V1.out V8.out _).mono ?_
    rintro e u9 ⟨rfl, rfl⟩
    go_wp2
    go_ret
    exact ⟨by simp, B8.out⟩

set_option maxRecDepth 100000 in
theorem lifted (os : Os) (started : os.Started) (H : Type) (enc : TypeId × Value → H) :
    ReturnsInHanded {} Try.checked os 8 .any (Rows.fnMinFloats3Spec.pre6 enc Try.prog Try.f8 Rows.fnMinFloats3Row.domain false) (Rows.fnMinFloats3Spec.post enc Try.prog Try.f8 false true false false) := by
  refine returnsInHanded_of_change (C := Try.checked) own started (by kernel_rfl) Try.func8
    (ChangeSpec.witness6 (enc := enc) (C := Try.checked) false ⟨#[], #[.slice none 0 0], []⟩ 8 (by kernel_rfl) (by kernel_rfl) (by kernel_rfl) (by kernel_rfl)) ?_
  intro W base args ds gs before hval0 hW hcnd _
  have hval : ∀ (j : Nat) t v, Try.f8.params[j]? = some t → args[j]? = some v → Value.okWide Try.prog W .any base t v := hval0
  have hW' := hW
  obtain ⟨p, q, hA0, hV, rfl, hfz, hnd⟩ := hW
  have hA : DataW.TrodAll enc Try.prog W 0 (fun _ => true) true Try.f8.params.toList args.toList ds p := hA0
  rw [Try.params8] at hA hval
  obtain ⟨v0, vs0, d0, ds0, p0, q0, hargs, rfl, rfl, h0, r0⟩ := trodAll_cons hA
  obtain ⟨rfl, rfl, rfl⟩ := trodAll_nil r0
  obtain rfl : args = #[v0] := by cases args; simp_all
  obtain ⟨rfl, rfl⟩ := trodVars_none hV
  obtain ⟨a0, len0, cap0, rfl⟩ := okWide_slice Try.underlying22 (hval 0 22 v0 rfl rfl)
  have k0 := h0
  have lt0 : ∀ x ∈ p0, x.block < W.heap.size := by obtain ⟨m, hm⟩ := k0; exact DataW.trod_lt m _ _ _ hm
  obtain ⟨z0, w0⟩ : ∃ zs, IsRow .u8 W a0 len0 cap0 zs := by
    obtain ⟨fuel, hf⟩ := h0
    rcases open_ints Try.underlying22 Try.underlying5 (by kernel_rfl) hf with ⟨hcs, _⟩ | ⟨x, l, c, zs, hcs, _, hl, hm, hz, _, hcell, hwz⟩
    · simp [Value.cells] at hcs
      obtain ⟨rfl, rfl, rfl⟩ := hcs
      exact ⟨[], .inl ⟨rfl, rfl, rfl, rfl⟩⟩
    · simp [Value.cells] at hcs
      obtain ⟨rfl, rfl, rfl⟩ := hcs
      exact ⟨zs, .inr ⟨_, rfl, hl, hm, by simpa using hz, hcell, hwz⟩⟩
  clear hA0 hval0
  refine (walk a0 len0 cap0 z0 W w0).mono fun e W' ⟨he, bel⟩ => ?_
  subst he
  exact ⟨_, rfl, _, _, _, [], _, [], hW', trodAll_mk1 (shut_bool Try.underlying4 _), (trodAll_cons_mk (Below.trod laidOut (by kernel_rfl) (of_decide_eq_true (by kernel_rfl)) k0 bel lt0) trodAll_mk0), rfl, bel.frame _, fun h => by cases h⟩

theorem over : Rows.fnMinFloats3Row.holds Try.pinned (OpenSpec.ofChange Rows.fnMinFloats3Spec) :=
  OpenClaim.holds_of_wide 8 Try.f8 rfl rfl rfl rfl rfl rfl rfl ⟨rfl, rfl, rfl, rfl, rfl⟩ rfl rfl rfl rfl rfl (by kernel_rfl) Try.func8 (by kernel_rfl)
    (of_decide_eq_true (by kernel_rfl)) (by unfold Func.isWrapper; first | (rw [if_pos (by decide +kernel)]; kernel_rfl) | (rw [if_neg (by decide +kernel)]; exact ⟨rfl, rfl⟩))
    (fun os started H enc _ => lifted os started H enc)

/-- The given statement. -/
theorem proved : Rows.FnMinFloats3Said := over

end Go.Proofs.Ytnahhiphofdijaa.fnMinFloats3
