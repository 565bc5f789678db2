/-
  Min of Smalls: the law function laws.FnMinSmallsTurned returns true for every input, without a condition, and leaves its argument as it was.
-/
import Derived.Test.YtkeangeaemokhaaRows
import Derived.Test.YtkeangeaemokhaaSmalls
import Derived.Test.YtkeangeaemokhaaDrawSmalls
import Derived.WalkKit
import Derived.ProofKit
import Derived.OpenShut
import Derived.ShutString
import Derived.ChangeOld
import Derived.Below
import Derived.WalkLawsBesides
namespace Go.Proofs.Ytkeangeaemokhaa.fnMinSmallsTurned
open Go.ChangeShapes Go.WideShapes Go.ChangeAt Go.RowKit
open Go.ChangeMaps (open_string shut_string)
set_option linter.unusedVariables false

theorem own : ownKnob Try.prog.godebug = none := by kernel_rfl
theorem laidOut : laidOutB Try.prog = true := by kernel_rfl

set_option maxHeartbeats 2000000 in
set_option maxRecDepth 100000 in
theorem walk (a0 : Option Addr) (len0 cap0 : Nat) (z0 : List Int) (w : World) (w0 : IsRow .u8 w a0 len0 cap0 z0) :
    Calls Try.prog 10 #[.slice a0 len0 cap0] w fun e w' => e = .returned (.bool true) ∧ Below w.heap.size w w' := by
  by_cases hl : 1048576 < len0
  · go_enter Try.func10, Try.ntmps10
    go_wp2
    go_ret
    exact ⟨rfl, Below.refl _ _⟩
  · have W0 := Lib.hid w0
    clear w0
    go_enter Try.func10, Try.ntmps10
    go_wp2_with fail
    refine (draw_any w W0.out (by omega)).mono ?_
    rintro e u0 ⟨x, y, z, ⟨x, vx, rfl⟩, ⟨y, vy, rfl⟩, ⟨z, vz, rfl⟩, rfl, hB⟩
    have HB := Lib.hid hB
    have WX := Lib.hid vx
    have WY := Lib.hid vy
    have WZ := Lib.hid vz
    clear hB vx vy vz W0
    go_wp2_with fail
    refine (implMinSmalls3 x y z WX.out WY.out WZ.out _).mono ?_
    rintro e u1 ⟨r1, q1, v1, k1, rfl, h1⟩
    have B1 : Hid (Below w.heap.size w u1) := by rw [h1]; exact below_drewN HB.out q1
    have V1 := Lib.hid v1
    have K1 := Lib.hid k1
    clear v1 k1 h1
    go_wp2_with fail
    refine (implMinSmalls x y WX.out WY.out _).mono ?_
    rintro e u2 ⟨r2, q2, v2, k2, rfl, h2⟩
    have B2 : Hid (Below w.heap.size w u2) := by rw [h2]; exact below_drewN B1.out q2
    have V2 := Lib.hid v2
    have K2 := Lib.hid k2
    clear v2 k2 h2
    obtain ⟨c3, d3, e3, v3, k3, _, _⟩ := conv_run (P := Try.prog) 23 29 Try.underlying23 Try.underlying29 r2 u2
    have V3 := Lib.hid v3
    have K3 := Lib.hid k3
    clear v3 k3
    go_wp2_with fail
    refine (implMinSmalls y x WY.out WX.out _).mono ?_
    rintro e u4 ⟨r4, q4, v4, k4, rfl, h4⟩
    have B4 : Hid (Below w.heap.size w u4) := by rw [h4]; exact below_drewN (below_drewN B2.out (d3)) q4
    have V4 := Lib.hid v4
    have K4 := Lib.hid k4
    clear v4 k4 h4
    obtain ⟨c5, d5, e5, v5, k5, _, _⟩ := conv_run (P := Try.prog) 23 29 Try.underlying23 Try.underlying29 r4 u4
    have V5 := Lib.hid v5
    have K5 := Lib.hid k5
    clear v5 k5
    have s6 : sameB .f64 c3 c5 = true := same_of_key (by rw [K3.out, K5.out]; exact wkey_eq (by rw [K2.out, K4.out]; exact kmin_comm _ _))
    go_wp2_with fail
    refine (same_any c3 c5 V3.out V5.out _).mono ?_
    rintro e u6 ⟨rfl, rfl⟩
    go_wp2_with fail
    refine (implMinSmalls x x WX.out WX.out _).mono ?_
    rintro e u7 ⟨r7, q7, v7, k7, rfl, h7⟩
    have B7 : Hid (Below w.heap.size w u7) := by rw [h7]; exact below_drewN (below_drewN B4.out (d5)) q7
    have V7 := Lib.hid v7
    have K7 := Lib.hid k7
    clear v7 k7 h7
    obtain ⟨c8, d8, e8, v8, k8, _, _⟩ := conv_run (P := Try.prog) 23 29 Try.underlying23 Try.underlying29 r7 u7
    have V8 := Lib.hid v8
    have K8 := Lib.hid k8
    clear v8 k8
    obtain ⟨c9, d9, e9, v9, k9, _, _⟩ := conv_run (P := Try.prog) 23 29 Try.underlying23 Try.underlying29 x (u7.drewN d8)
    have V9 := Lib.hid v9
    have K9 := Lib.hid k9
    clear v9 k9
    have s10 : sameB .f64 c8 c9 = true := same_of_key (by rw [K8.out, K9.out]; exact wkey_eq (by rw [K7.out]; exact kmin_self _))
    go_wp2_with fail
    refine (same_any c8 c9 V8.out V9.out _).mono ?_
    rintro e u10 ⟨rfl, rfl⟩
    obtain ⟨c11, d11, e11, v11, k11, _, _⟩ := conv_run (P := Try.prog) 23 29 Try.underlying23 Try.underlying29 r1 (u7.drewN (d8 + d9))
    have V11 := Lib.hid v11
    have K11 := Lib.hid k11
    clear v11 k11
    go_wp2_with fail
    refine (implMinSmalls3 z x y WZ.out WX.out WY.out _).mono ?_
    rintro e u12 ⟨r12, q12, v12, k12, rfl, h12⟩
    have B12 : Hid (Below w.heap.size w u12) := by rw [h12]; exact below_drewN (below_drewN B7.out (d8 + d9 + d11)) q12
    have V12 := Lib.hid v12
    have K12 := Lib.hid k12
    clear v12 k12 h12
    obtain ⟨c13, d13, e13, v13, k13, _, _⟩ := conv_run (P := Try.prog) 23 29 Try.underlying23 Try.underlying29 r12 u12
    have V13 := Lib.hid v13
    have K13 := Lib.hid k13
    clear v13 k13
    have s14 : sameB .f64 c11 c13 = true := same_of_key (by rw [K11.out, K13.out]; exact wkey_eq (by rw [K1.out, K12.out]; exact kmin_turn _ _ _))
    go_wp2_with fail
    refine (same_any c11 c13 V11.out V13.out _).mono ?_
    rintro e u14 ⟨rfl, rfl⟩
    obtain ⟨c15, d15, e15, v15, k15, _, _⟩ := conv_run (P := Try.prog) 23 29 Try.underlying23 Try.underlying29 r1 (u12.drewN d13)
    have V15 := Lib.hid v15
    have K15 := Lib.hid k15
    clear v15 k15
    go_wp2_with fail
    refine (implMinSmalls3 y x z WY.out WX.out WZ.out _).mono ?_
    rintro e u16 ⟨r16, q16, v16, k16, rfl, h16⟩
    have B16 : Hid (Below w.heap.size w u16) := by rw [h16]; exact below_drewN (below_drewN B12.out (d13 + d15)) q16
    have V16 := Lib.hid v16
    have K16 := Lib.hid k16
    clear v16 k16 h16
    obtain ⟨c17, d17, e17, v17, k17, _, _⟩ := conv_run (P := Try.prog) 23 29 Try.underlying23 Try.underlying29 r16 u16
    have V17 := Lib.hid v17
    have K17 := Lib.hid k17
    clear v17 k17
    have s18 : sameB .f64 c15 c17 = true := same_of_key (by rw [K15.out, K17.out]; exact wkey_eq (by rw [K1.out, K16.out]; exact kmin_swap _ _ _))
    go_wp2_with fail
    refine (same_any c15 c17 V15.out V17.out _).mono ?_
    rintro e u18 ⟨rfl, rfl⟩
    go_wp2
    go_ret
    exact ⟨by simp, (below_drewN B16.out (d17))⟩

set_option maxRecDepth 100000 in
theorem lifted (os : Os) (started : os.Started) (H : Type) (enc : TypeId × Value → H) :
    ReturnsInHanded {} Try.checked os 10 .any (Rows.fnMinSmallsTurnedSpec.pre6 enc Try.prog Try.f10 Rows.fnMinSmallsTurnedRow.domain false) (Rows.fnMinSmallsTurnedSpec.post enc Try.prog Try.f10 false true false false) := by
  refine returnsInHanded_of_change (C := Try.checked) own started (by kernel_rfl) Try.func10
    (ChangeSpec.witness6 (enc := enc) (C := Try.checked) false ⟨#[], #[.slice none 0 0], []⟩ 8 (by kernel_rfl) (by kernel_rfl) (by kernel_rfl) (by kernel_rfl)) ?_
  intro W base args ds gs before hval0 hW hcnd _
  have hval : ∀ (j : Nat) t v, Try.f10.params[j]? = some t → args[j]? = some v → Value.okWide Try.prog W .any base t v := hval0
  have hW' := hW
  obtain ⟨p, q, hA0, hV, rfl, hfz, hnd⟩ := hW
  have hA : DataW.TrodAll enc Try.prog W 0 (fun _ => true) true Try.f10.params.toList args.toList ds p := hA0
  rw [Try.params10] at hA hval
  obtain ⟨v0, vs0, d0, ds0, p0, q0, hargs, rfl, rfl, h0, r0⟩ := trodAll_cons hA
  obtain ⟨rfl, rfl, rfl⟩ := trodAll_nil r0
  obtain rfl : args = #[v0] := by cases args; simp_all
  obtain ⟨rfl, rfl⟩ := trodVars_none hV
  obtain ⟨a0, len0, cap0, rfl⟩ := okWide_slice Try.underlying22 (hval 0 22 v0 rfl rfl)
  have k0 := h0
  have lt0 : ∀ x ∈ p0, x.block < W.heap.size := by obtain ⟨m, hm⟩ := k0; exact DataW.trod_lt m _ _ _ hm
  obtain ⟨z0, w0⟩ : ∃ zs, IsRow .u8 W a0 len0 cap0 zs := by
    obtain ⟨fuel, hf⟩ := h0
    rcases open_ints Try.underlying22 Try.underlying5 (by kernel_rfl) hf with ⟨hcs, _⟩ | ⟨x, l, c, zs, hcs, _, hl, hm, hz, _, hcell, hwz⟩
    · simp [Value.cells] at hcs
      obtain ⟨rfl, rfl, rfl⟩ := hcs
      exact ⟨[], .inl ⟨rfl, rfl, rfl, rfl⟩⟩
    · simp [Value.cells] at hcs
      obtain ⟨rfl, rfl, rfl⟩ := hcs
      exact ⟨zs, .inr ⟨_, rfl, hl, hm, by simpa using hz, hcell, hwz⟩⟩
  clear hA0 hval0
  refine (walk a0 len0 cap0 z0 W w0).mono fun e W' ⟨he, bel⟩ => ?_
  subst he
  exact ⟨_, rfl, _, _, _, [], _, [], hW', trodAll_mk1 (shut_bool Try.underlying4 _), (trodAll_cons_mk (Below.trod laidOut (by kernel_rfl) (of_decide_eq_true (by kernel_rfl)) k0 bel lt0) trodAll_mk0), rfl, bel.frame _, fun h => by cases h⟩

theorem over : Rows.fnMinSmallsTurnedRow.holds Try.pinned (OpenSpec.ofChange Rows.fnMinSmallsTurnedSpec) :=
  OpenClaim.holds_of_wide 10 Try.f10 rfl rfl rfl rfl rfl rfl rfl ⟨rfl, rfl, rfl, rfl, rfl⟩ rfl rfl rfl rfl rfl (by kernel_rfl) Try.func10 (by kernel_rfl)
    (of_decide_eq_true (by kernel_rfl)) (by unfold Func.isWrapper; first | (rw [if_pos (by decide +kernel)]; kernel_rfl) | (rw [if_neg (by decide +kernel)]; exact ⟨rfl, rfl⟩))
    (fun os started H enc _ => lifted os started H enc)

/-- The given statement. -/
theorem proved : Rows.FnMinSmallsTurnedSaid := over

end Go.Proofs.Ytkeangeaemokhaa.fnMinSmallsTurned
