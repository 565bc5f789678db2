/-
  Min of Smalls: the law function laws.FnMinSmalls returns true for every input, without a condition, and leaves its argument as it was.
-/
import Derived.Test.YtkeangeaemokhaaRows
import Derived.Test.YtkeangeaemokhaaSmalls
import Derived.Test.YtkeangeaemokhaaDrawSmalls
import Derived.WalkKit
import Derived.ProofKit
import Derived.OpenShut
import Derived.ShutString
import Derived.ChangeOld
import Derived.Below
import Derived.WalkLawsBesides
namespace Go.Proofs.Ytkeangeaemokhaa.fnMinSmalls
open Go.ChangeShapes Go.WideShapes Go.ChangeAt Go.RowKit
open Go.ChangeMaps (open_string shut_string)
set_option linter.unusedVariables false

theorem own : ownKnob Try.prog.godebug = none := by kernel_rfl
theorem laidOut : laidOutB Try.prog = true := by kernel_rfl

set_option maxHeartbeats 2000000 in
set_option maxRecDepth 100000 in
theorem walk (a0 : Option Addr) (len0 cap0 : Nat) (z0 : List Int) (w : World) (w0 : IsRow .u8 w a0 len0 cap0 z0) :
    Calls Try.prog 5 #[.slice a0 len0 cap0] w fun e w' => e = .returned (.bool true) ∧ Below w.heap.size w w' := by
  by_cases hl : 1048576 < len0
  · go_enter Try.func5, Try.ntmps5
    go_wp2
    go_ret
    exact ⟨rfl, Below.refl _ _⟩
  · have W0 := Lib.hid w0
    clear w0
    go_enter Try.func5, Try.ntmps5
    go_wp2_with fail
    refine (draw_any w W0.out (by omega)).mono ?_
    rintro e u0 ⟨x, y, z, ⟨x, vx, rfl⟩, ⟨y, vy, rfl⟩, ⟨z, vz, rfl⟩, rfl, hB⟩
    have HB := Lib.hid hB
    have WX := Lib.hid vx
    have WY := Lib.hid vy
    have WZ := Lib.hid vz
    clear hB vx vy vz W0
    go_wp2_with fail
    refine (implMinSmalls x y WX.out WY.out _).mono ?_
    rintro e u1 ⟨r1, q1, v1, k1, rfl, h1⟩
    have B1 : Hid (Below w.heap.size w u1) := by rw [h1]; exact below_drewN HB.out q1
    have V1 := Lib.hid v1
    have K1 := Lib.hid k1
    clear v1 k1 h1
    obtain ⟨c2, d2, e2, v2, k2, _, _⟩ := conv_run (P := Try.prog) 23 29 Try.underlying23 Try.underlying29 r1 u1
    have V2 := Lib.hid v2
    have K2 := Lib.hid k2
    clear v2 k2
    go_wp2_with fail
    refine (specMinSmalls x y WX.out WY.out _).mono ?_
    rintro e u3 ⟨r3, q3, v3, k3, rfl, h3⟩
    have B3 : Hid (Below w.heap.size w u3) := by rw [h3]; exact below_drewN (below_drewN B1.out (d2)) q3
    have V3 := Lib.hid v3
    have K3 := Lib.hid k3
    clear v3 k3 h3
    obtain ⟨c4, d4, e4, v4, k4, _, _⟩ := conv_run (P := Try.prog) 23 29 Try.underlying23 Try.underlying29 r3 u3
    have V4 := Lib.hid v4
    have K4 := Lib.hid k4
    clear v4 k4
    have s5 : sameB .f64 c2 c4 = true := same_of_key (by rw [K2.out, K4.out]; exact wkey_eq (by rw [K1.out, K3.out]))
    go_wp2_with fail
    refine (same_any c2 c4 V2.out V4.out _).mono ?_
    rintro e u5 ⟨rfl, rfl⟩
    go_wp2
    go_ret
    exact ⟨by simp, (below_drewN B3.out (d4))⟩

set_option maxRecDepth 100000 in
theorem lifted (os : Os) (started : os.Started) (H : Type) (enc : TypeId × Value → H) :
    ReturnsInHanded {} Try.checked os 5 .any (Rows.fnMinSmallsSpec.pre6 enc Try.prog Try.f5 Rows.fnMinSmallsRow.domain false) (Rows.fnMinSmallsSpec.post enc Try.prog Try.f5 false true false false) := by
  refine returnsInHanded_of_change (C := Try.checked) own started (by kernel_rfl) Try.func5
    (ChangeSpec.witness6 (enc := enc) (C := Try.checked) false ⟨#[], #[.slice none 0 0], []⟩ 8 (by kernel_rfl) (by kernel_rfl) (by kernel_rfl) (by kernel_rfl)) ?_
  intro W base args ds gs before hval0 hW hcnd _
  have hval : ∀ (j : Nat) t v, Try.f5.params[j]? = some t → args[j]? = some v → Value.okWide Try.prog W .any base t v := hval0
  have hW' := hW
  obtain ⟨p, q, hA0, hV, rfl, hfz, hnd⟩ := hW
  have hA : DataW.TrodAll enc Try.prog W 0 (fun _ => true) true Try.f5.params.toList args.toList ds p := hA0
  rw [Try.params5] at hA hval
  obtain ⟨v0, vs0, d0, ds0, p0, q0, hargs, rfl, rfl, h0, r0⟩ := trodAll_cons hA
  obtain ⟨rfl, rfl, rfl⟩ := trodAll_nil r0
  obtain rfl : args = #[v0] := by cases args; simp_all
  obtain ⟨rfl, rfl⟩ := trodVars_none hV
  obtain ⟨a0, len0, cap0, rfl⟩ := okWide_slice Try.underlying22 (hval 0 22 v0 rfl rfl)
  have k0 := h0
  have lt0 : ∀ x ∈ p0, x.block < W.heap.size := by obtain ⟨m, hm⟩ := k0; exact DataW.trod_lt m _ _ _ hm
  obtain ⟨z0, w0⟩ : ∃ zs, IsRow .u8 W a0 len0 cap0 zs := by
    obtain ⟨fuel, hf⟩ := h0
    rcases open_ints Try.underlying22 Try.underlying5 (by kernel_rfl) hf with ⟨hcs, _⟩ | ⟨x, l, c, zs, hcs, _, hl, hm, hz, _, hcell, hwz⟩
    · simp [Value.cells] at hcs
      obtain ⟨rfl, rfl, rfl⟩ := hcs
      exact ⟨[], .inl ⟨rfl, rfl, rfl, rfl⟩⟩
    · simp [Value.cells] at hcs
      obtain ⟨rfl, rfl, rfl⟩ := hcs
      exact ⟨zs, .inr ⟨_, rfl, hl, hm, by simpa using hz, hcell, hwz⟩⟩
  clear hA0 hval0
  refine (walk a0 len0 cap0 z0 W w0).mono fun e W' ⟨he, bel⟩ => ?_
  subst he
  exact ⟨_, rfl, _, _, _, [], _, [], hW', trodAll_mk1 (shut_bool Try.underlying4 _), (trodAll_cons_mk (Below.trod laidOut (by kernel_rfl) (of_decide_eq_true (by kernel_rfl)) k0 bel lt0) trodAll_mk0), rfl, bel.frame _, fun h => by cases h⟩

theorem over : Rows.fnMinSmallsRow.holds Try.pinned (OpenSpec.ofChange Rows.fnMinSmallsSpec) :=
  OpenClaim.holds_of_wide 5 Try.f5 rfl rfl rfl rfl rfl rfl rfl ⟨rfl, rfl, rfl, rfl, rfl⟩ rfl rfl rfl rfl rfl (by kernel_rfl) Try.func5 (by kernel_rfl)
    (of_decide_eq_true (by kernel_rfl)) (by unfold Func.isWrapper; first | (rw [if_pos (by decide +kernel)]; kernel_rfl) | (rw [if_neg (by decide +kernel)]; exact ⟨rfl, rfl⟩))
    (fun os started H enc _ => lifted os started H enc)

/-- The given statement. -/
theorem proved : Rows.FnMinSmallsSaid := over

end Go.Proofs.Ytkeangeaemokhaa.fnMinSmalls
