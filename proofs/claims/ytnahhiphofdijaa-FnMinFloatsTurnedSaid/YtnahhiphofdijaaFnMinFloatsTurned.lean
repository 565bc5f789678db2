/-
  Min of Floats: the law function laws.FnMinFloatsTurned returns true for every input, without a condition, and leaves its argument as it was.
-/
import Derived.Test.YtnahhiphofdijaaRows
import Derived.Test.YtnahhiphofdijaaFloats
import Derived.Test.YtnahhiphofdijaaDrawFloats
import Derived.WalkKit
import Derived.ProofKit
import Derived.OpenShut
import Derived.ShutString
import Derived.ChangeOld
import Derived.Below
import Derived.WalkLawsBesides
namespace Go.Proofs.Ytnahhiphofdijaa.fnMinFloatsTurned
open Go.ChangeShapes Go.WideShapes Go.ChangeAt Go.RowKit
open Go.ChangeMaps (open_string shut_string)
set_option linter.unusedVariables false

theorem own : ownKnob Try.prog.godebug = none := by kernel_rfl
theorem laidOut : laidOutB Try.prog = true := by kernel_rfl

set_option maxHeartbeats 2000000 in
set_option maxRecDepth 100000 in
theorem walk (a0 : Option Addr) (len0 cap0 : Nat) (z0 : List Int) (w : World) (w0 : IsRow .u8 w a0 len0 cap0 z0) :
    Calls Try.prog 9 #[.slice a0 len0 cap0] w fun e w' => e = .returned (.bool true) ∧ Below w.heap.size w w' := by
  by_cases hl : 1048576 < len0
  · go_enter Try.func9, Try.ntmps9
    go_wp2
    go_ret
    exact ⟨rfl, Below.refl _ _⟩
  · have W0 := Lib.hid w0
    clear w0
    go_enter Try.func9, Try.ntmps9
    go_wp2_with fail
    refine (draw_any w W0.out (by omega)).mono ?_
    rintro e u0 ⟨x, y, z, ⟨x, vx, rfl⟩, ⟨y, vy, rfl⟩, ⟨z, vz, rfl⟩, rfl, hB⟩
    have HB := Lib.hid hB
    have WX := Lib.hid vx
    have WY := Lib.hid vy
    have WZ := Lib.hid vz
    clear hB vx vy vz W0
    go_wp2_with fail
    refine (implMinFloats3 x y z WX.out WY.out WZ.out _).mono ?_
    rintro e u1 ⟨r1, q1, v1, k1, rfl, h1⟩
    have B1 : Hid (Below w.heap.size w u1) := by rw [h1]; exact below_drewN HB.out q1
    have V1 := Lib.hid v1
    have K1 := Lib.hid k1
    clear v1 k1 h1
    go_wp2_with fail
    refine (implMinFloats x y WX.out WY.out _).mono ?_
    rintro e u2 ⟨r2, q2, v2, k2, rfl, h2⟩
    have B2 : Hid (Below w.heap.size w u2) := by rw [h2]; exact below_drewN B1.out q2
    have V2 := Lib.hid v2
    have K2 := Lib.hid k2
    clear v2 k2 h2
    go_wp2_with fail
    refine (implMinFloats y x WY.out WX.out _).mono ?_
    rintro e u3 ⟨r3, q3, v3, k3, rfl, h3⟩
    have B3 : Hid (Below w.heap.size w u3) := by rw [h3]; exact below_drewN B2.out q3
    have V3 := Lib.hid v3
    have K3 := Lib.hid k3
    clear v3 k3 h3
    have s4 : sameB .f64 r2 r3 = true := same_of_key (by rw [K2.out, K3.out]; exact kmin_comm _ _)
    go_wp2_with fail
    refine (same_any r2 r3 V2.out V3.out _).mono ?_
    rintro e u4 ⟨rfl, rfl⟩
    go_wp2_with fail
    refine (implMinFloats x x WX.out WX.out _).mono ?_
    rintro e u5 ⟨r5, q5, v5, k5, rfl, h5⟩
    have B5 : Hid (Below w.heap.size w u5) := by rw [h5]; exact below_drewN B3.out q5
    have V5 := Lib.hid v5
    have K5 := Lib.hid k5
    clear v5 k5 h5
    have s6 : sameB .f64 r5 x = true := same_of_key (by rw [K5.out]; exact kmin_self _)
    go_wp2_with fail
    refine (same_any r5 x V5.out WX.out _).mono ?_
    rintro e u6 ⟨rfl, rfl⟩
    go_wp2_with fail
    refine (implMinFloats3 z x y WZ.out WX.out WY.out _).mono ?_
    rintro e u7 ⟨r7, q7, v7, k7, rfl, h7⟩
    have B7 : Hid (Below w.heap.size w u7) := by rw [h7]; exact below_drewN B5.out q7
    have V7 := Lib.hid v7
    have K7 := Lib.hid k7
    clear v7 k7 h7
    have s8 : sameB .f64 r1 r7 = true := same_of_key (by rw [K1.out, K7.out]; exact kmin_turn _ _ _)
    go_wp2_with fail
    refine (same_any r1 r7 V1.out V7.out _).mono ?_
    rintro e u8 ⟨rfl, rfl⟩
    go_wp2_with fail
    refine (implMinFloats3 y x z WY.out WX.out WZ.out _).mono ?_
    rintro e u9 ⟨r9, q9, v9, k9, rfl, h9⟩
    have B9 : Hid (Below w.heap.size w u9) := by rw [h9]; exact below_drewN B7.out q9
    have V9 := Lib.hid v9
    have K9 := Lib.hid k9
    clear v9 k9 h9
    have s10 : sameB .f64 r1 r9 = true := same_of_key (by rw [K1.out, K9.out]; exact kmin_swap _ _ _)
    go_wp2_with fail
    refine (same_any r1 r9 V1.out V9.out _).mono ?_
    rintro e u10 ⟨rfl, rfl⟩
    go_wp2
    go_ret
    exact ⟨by simp, B9.out⟩

set_option maxRecDepth 100000 in
theorem lifted (os : Os) (started : os.Started) (H : Type) (enc : TypeId × Value → H) :
    ReturnsInHanded {} Try.checked os 9 .any (Rows.fnMinFloatsTurnedSpec.pre6 enc Try.prog Try.f9 Rows.fnMinFloatsTurnedRow.domain false) (Rows.fnMinFloatsTurnedSpec.post enc Try.prog Try.f9 false true false false) := by
  refine returnsInHanded_of_change (C := Try.checked) own started (by kernel_rfl) Try.func9
    (ChangeSpec.witness6 (enc := enc) (C := Try.checked) false ⟨#[], #[.slice none 0 0], []⟩ 8 (by kernel_rfl) (by kernel_rfl) (by kernel_rfl) (by kernel_rfl)) ?_
  intro W base args ds gs before hval0 hW hcnd _
  have hval : ∀ (j : Nat) t v, Try.f9.params[j]? = some t → args[j]? = some v → Value.okWide Try.prog W .any base t v := hval0
  have hW' := hW
  obtain ⟨p, q, hA0, hV, rfl, hfz, hnd⟩ := hW
  have hA : DataW.TrodAll enc Try.prog W 0 (fun _ => true) true Try.f9.params.toList args.toList ds p := hA0
  rw [Try.params9] at hA hval
  obtain ⟨v0, vs0, d0, ds0, p0, q0, hargs, rfl, rfl, h0, r0⟩ := trodAll_cons hA
  obtain ⟨rfl, rfl, rfl⟩ := trodAll_nil r0
  obtain rfl : args = #[v0] := by cases args; simp_all
  obtain ⟨rfl, rfl⟩ := trodVars_none hV
  obtain ⟨a0, len0, cap0, rfl⟩ := okWide_slice Try.underlying22 (hval 0 22 v0 rfl rfl)
  have k0 := h0
  have lt0 : ∀ x ∈ p0, x.block < W.heap.size := by obtain ⟨m, hm⟩ := k0; exact DataW.trod_lt m _ _ _ hm
  obtain ⟨z0, w0⟩ : ∃ zs, IsRow .u8 W a0 len0 cap0 zs := by
    obtain ⟨fuel, hf⟩ := h0
    rcases open_ints Try.underlying22 Try.underlying5 (by kernel_rfl) hf with ⟨hcs, _⟩ | ⟨x, l, c, zs, hcs, _, hl, hm, hz, _, hcell, hwz⟩
    · simp [Value.cells] at hcs
      obtain ⟨rfl, rfl, rfl⟩ := hcs
      exact ⟨[], .inl ⟨rfl, rfl, rfl, rfl⟩⟩
    · simp [Value.cells] at hcs
      obtain ⟨rfl, rfl, rfl⟩ := hcs
      exact ⟨zs, .inr ⟨_, rfl, hl, hm, by simpa using hz, hcell, hwz⟩⟩
  clear hA0 hval0
  refine (walk a0 len0 cap0 z0 W w0).mono fun e W' ⟨he, bel⟩ => ?_
  subst he
  exact ⟨_, rfl, _, _, _, [], _, [], hW', trodAll_mk1 (shut_bool Try.underlying4 _), (trodAll_cons_mk (Below.trod laidOut (by kernel_rfl) (of_decide_eq_true (by kernel_rfl)) k0 bel lt0) trodAll_mk0), rfl, bel.frame _, fun h => by cases h⟩

theorem over : Rows.fnMinFloatsTurnedRow.holds Try.pinned (OpenSpec.ofChange Rows.fnMinFloatsTurnedSpec) :=
  OpenClaim.holds_of_wide 9 Try.f9 rfl rfl rfl rfl rfl rfl rfl ⟨rfl, rfl, rfl, rfl, rfl⟩ rfl rfl rfl rfl rfl (by kernel_rfl) Try.func9 (by kernel_rfl)
    (of_decide_eq_true (by kernel_rfl)) (by unfold Func.isWrapper; first | (rw [if_pos (by decide +kernel)]; kernel_rfl) | (rw [if_neg (by decide +kernel)]; exact ⟨rfl, rfl⟩))
    (fun os started H enc _ => lifted os started H enc)

/-- The given statement. -/
theorem proved : Rows.FnMinFloatsTurnedSaid := over

end Go.Proofs.Ytnahhiphofdijaa.fnMinFloatsTurned
