/-
  Min of Smalls: the law function laws.FnMinSmalls3 returns true for every input, without a condition, and leaves its argument as it was.
-/
import Derived.Test.YtkeangeaemokhaaRows
import Derived.Test.YtkeangeaemokhaaSmalls
import Derived.Test.YtkeangeaemokhaaDrawSmalls
import Derived.WalkKit
import Derived.ProofKit
import Derived.OpenShut
import Derived.ShutString
import Derived.ChangeOld
import Derived.Below
import Derived.WalkLawsBesides
namespace Go.Proofs.Ytkeangeaemokhaa.fnMinSmalls3
open Go.ChangeShapes Go.WideShapes Go.ChangeAt Go.RowKit
open Go.ChangeMaps (open_string shut_string)
set_option linter.unusedVariables false

theorem own : ownKnob Try.prog.godebug = none := by kernel_rfl
theorem laidOut : laidOutB Try.prog = true := by kernel_rfl

set_option maxHeartbeats 2000000 in
set_option maxRecDepth 100000 in
theorem walk (a0 : Option Addr) (len0 cap0 : Nat) (z0 : List Int) (w : World) (w0 : IsRow .u8 w a0 len0 cap0 z0) :
    Calls Try.prog 9 #[.slice a0 len0 cap0] w fun e w' => e = .returned (.bool true) ∧ Below w.heap.size w w' := by
  by_cases hl : 1048576 < len0
  · go_enter Try.func9, Try.ntmps9
    go_wp2
    go_ret
    exact ⟨rfl, Below.refl _ _⟩
  · have W0 := Lib.hid w0
    clear w0
    go_enter Try.func9, Try.ntmps9
    go_wp2_with fail
    refine (draw_any w W0.out (by omega)).mono ?_
    rintro e u0 ⟨x, y, z, ⟨x, vx, rfl⟩, ⟨y, vy, rfl⟩, ⟨z, vz, rfl⟩, rfl, hB⟩
    have HB := Lib.hid hB
    have WX := Lib.hid vx
    have WY := Lib.hid vy
    have WZ := Lib.hid vz
    clear hB vx vy vz W0
    go_wp2_with fail
    refine (implMinSmalls3 x y z WX.out WY.out WZ.out _).mono ?_
    rintro e u1 ⟨r1, q1, v1, k1, rfl, h1⟩
    have B1 : Hid (Below w.heap.size w u1) := by rw [h1]; exact below_drewN HB.out q1
    have V1 := Lib.hid v1
    have K1 := Lib.hid k1
    clear v1 k1 h1
    obtain ⟨c2, d2, e2, v2, k2, _, _⟩ := conv_run (P := Try.prog) 23 29 Try.underlying23 Try.underlying29 r1 u1
    have V2 := Lib.hid v2
    have K2 := Lib.hid k2
    clear v2 k2
    go_wp2_with fail
    refine (specMinSmalls3 x y z WX.out WY.out WZ.out _).mono ?_
    rintro e u3 ⟨r3, q3, v3, k3, rfl, h3⟩
    have B3 : Hid (Below w.heap.size w u3) := by rw [h3]; exact below_drewN (below_drewN B1.out (d2)) q3
    have V3 := Lib.hid v3
    have K3 := Lib.hid k3
    clear v3 k3 h3
    obtain ⟨c4, d4, e4, v4, k4, _, _⟩ := conv_run (P := Try.prog) 23 29 Try.underlying23 Try.underlying29 r3 u3
    have V4 := Lib.hid v4
    have K4 := Lib.hid k4
    clear v4 k4
    have s5 : sameB .f64 c2 c4 = true := same_of_key (by rw [K2.out, K4.out]; exact wkey_eq (by rw [K1.out, K3.out]))
    go_wp2_with fail
    refine (same_any c2 c4 V2.out V4.out _).mono ?_
    rintro e u5 ⟨rfl, rfl⟩
    obtain ⟨c6, d6, e6, v6, k6, _, _⟩ := conv_run (P := Try.prog) 23 29 Try.underlying23 Try.underlying29 r1 (u3.drewN d4)
    have V6 := Lib.hid v6
    have K6 := Lib.hid k6
    clear v6 k6
    go_wp2_with fail
    refine (implMinSmalls x y WX.out WY.out _).mono ?_
    rintro e u7 ⟨r7, q7, v7, k7, rfl, h7⟩
    have B7 : Hid (Below w.heap.size w u7) := by rw [h7]; exact below_drewN (below_drewN B3.out (d4 + d6)) q7
    have V7 := Lib.hid v7
    have K7 := Lib.hid k7
    clear v7 k7 h7
    go_wp2_with fail
    refine (implMinSmalls r7 z V7.out WZ.out _).mono ?_
    rintro e u8 ⟨r8, q8, v8, k8, rfl, h8⟩
    have B8 : Hid (Below w.heap.size w u8) := by rw [h8]; exact below_drewN B7.out q8
    have V8 := Lib.hid v8
    have K8 := Lib.hid k8
    clear v8 k8 h8
    obtain ⟨c9, d9, e9, v9, k9, _, _⟩ := conv_run (P := Try.prog) 23 29 Try.underlying23 Try.underlying29 r8 u8
    have V9 := Lib.hid v9
    have K9 := Lib.hid k9
    clear v9 k9
    have s10 : sameB .f64 c6 c9 = true := same_of_key (by rw [K6.out, K9.out]; exact wkey_eq (by rw [K1.out, K8.out, K7.out]))
    go_wp2_with fail
    refine (same_any c6 c9 V6.out V9.out _).mono ?_
    rintro e u10 ⟨rfl, rfl⟩
    obtain ⟨c11, d11, e11, v11, k11, _, _⟩ := conv_run (P := Try.prog) 23 29 Try.underlying23 Try.underlying29 r1 (u8.drewN d9)
    have V11 := Lib.hid v11
    have K11 := Lib.hid k11
    clear v11 k11
    go_wp2_with fail
    refine (implMinSmalls y z WY.out WZ.out _).mono ?_
    rintro e u12 ⟨r12, q12, v12, k12, rfl, h12⟩
    have B12 : Hid (Below w.heap.size w u12) := by rw [h12]; exact below_drewN (below_drewN B8.out (d9 + d11)) q12
    have V12 := Lib.hid v12
    have K12 := Lib.hid k12
    clear v12 k12 h12
    go_wp2_with fail
    refine (implMinSmalls x r12 WX.out V12.out _).mono ?_
    rintro e u13 ⟨r13, q13, v13, k13, rfl, h13⟩
    have B13 : Hid (Below w.heap.size w u13) := by rw [h13]; exact below_drewN B12.out q13
    have V13 := Lib.hid v13
    have K13 := Lib.hid k13
    clear v13 k13 h13
    obtain ⟨c14, d14, e14, v14, k14, _, _⟩ := conv_run (P := Try.prog) 23 29 Try.underlying23 Try.underlying29 r13 u13
    have V14 := Lib.hid v14
    have K14 := Lib.hid k14
    clear v14 k14
    have s15 : sameB .f64 c11 c14 = true := same_of_key (by rw [K11.out, K14.out]; exact wkey_eq (by rw [K1.out, K13.out, K12.out]; exact kmin_assoc _ _ _))
    go_wp2_with fail
    refine (same_any c11 c14 V11.out V14.out _).mono ?_
    rintro e u15 ⟨rfl, rfl⟩
    go_wp2
    go_ret
    exact ⟨by simp, (below_drewN B13.out (d14))⟩

set_option maxRecDepth 100000 in
theorem lifted (os : Os) (started : os.Started) (H : Type) (enc : TypeId × Value → H) :
    ReturnsInHanded {} Try.checked os 9 .any (Rows.fnMinSmalls3Spec.pre6 enc Try.prog Try.f9 Rows.fnMinSmalls3Row.domain false) (Rows.fnMinSmalls3Spec.post enc Try.prog Try.f9 false true false false) := by
  refine returnsInHanded_of_change (C := Try.checked) own started (by kernel_rfl) Try.func9
    (ChangeSpec.witness6 (enc := enc) (C := Try.checked) false ⟨#[], #[.slice none 0 0], []⟩ 8 (by kernel_rfl) (by kernel_rfl) (by kernel_rfl) (by kernel_rfl)) ?_
  intro W base args ds gs before hval0 hW hcnd _
  have hval : ∀ (j : Nat) t v, Try.f9.params[j]? = some t → args[j]? = some v → Value.okWide Try.prog W .any base t v := hval0
  have hW' := hW
  obtain ⟨p, q, hA0, hV, rfl, hfz, hnd⟩ := hW
  have hA : DataW.TrodAll enc Try.prog W 0 (fun _ => true) true Try.f9.params.toList args.toList ds p := hA0
  rw [Try.params9] at hA hval
  obtain ⟨v0, vs0, d0, ds0, p0, q0, hargs, rfl, rfl, h0, r0⟩ := trodAll_cons hA
  obtain ⟨rfl, rfl, rfl⟩ := trodAll_nil r0
  obtain rfl : args = #[v0] := by cases args; simp_all
  obtain ⟨rfl, rfl⟩ := trodVars_none hV
  obtain ⟨a0, len0, cap0, rfl⟩ := okWide_slice Try.underlying22 (hval 0 22 v0 rfl rfl)
  have k0 := h0
  have lt0 : ∀ x ∈ p0, x.block < W.heap.size := by obtain ⟨m, hm⟩ := k0; exact DataW.trod_lt m _ _ _ hm
  obtain ⟨z0, w0⟩ : ∃ zs, IsRow .u8 W a0 len0 cap0 zs := by
    obtain ⟨fuel, hf⟩ := h0
    rcases open_ints Try.underlying22 Try.underlying5 (by kernel_rfl) hf with ⟨hcs, _⟩ | ⟨x, l, c, zs, hcs, _, hl, hm, hz, _, hcell, hwz⟩
    · simp [Value.cells] at hcs
      obtain ⟨rfl, rfl, rfl⟩ := hcs
      exact ⟨[], .inl ⟨rfl, rfl, rfl, rfl⟩⟩
    · simp [Value.cells] at hcs
      obtain ⟨rfl, rfl, rfl⟩ := hcs
      exact ⟨zs, .inr ⟨_, rfl, hl, hm, by simpa using hz, hcell, hwz⟩⟩
  clear hA0 hval0
  refine (walk a0 len0 cap0 z0 W w0).mono fun e W' ⟨he, bel⟩ => ?_
  subst he
  exact ⟨_, rfl, _, _, _, [], _, [], hW', trodAll_mk1 (shut_bool Try.underlying4 _), (trodAll_cons_mk (Below.trod laidOut (by kernel_rfl) (of_decide_eq_true (by kernel_rfl)) k0 bel lt0) trodAll_mk0), rfl, bel.frame _, fun h => by cases h⟩

theorem over : Rows.fnMinSmalls3Row.holds Try.pinned (OpenSpec.ofChange Rows.fnMinSmalls3Spec) :=
  OpenClaim.holds_of_wide 9 Try.f9 rfl rfl rfl rfl rfl rfl rfl ⟨rfl, rfl, rfl, rfl, rfl⟩ rfl rfl rfl rfl rfl (by kernel_rfl) Try.func9 (by kernel_rfl)
    (of_decide_eq_true (by kernel_rfl)) (by unfold Func.isWrapper; first | (rw [if_pos (by decide +kernel)]; kernel_rfl) | (rw [if_neg (by decide +kernel)]; exact ⟨rfl, rfl⟩))
    (fun os started H enc _ => lifted os started H enc)

/-- The given statement. -/
theorem proved : Rows.FnMinSmalls3Said := over

end Go.Proofs.Ytkeangeaemokhaa.fnMinSmalls3
