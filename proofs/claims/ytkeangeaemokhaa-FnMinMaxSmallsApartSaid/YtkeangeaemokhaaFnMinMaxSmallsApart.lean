/-
  MinMax of Smalls: the law function laws.FnMinMaxSmallsApart returns true for every input, without a condition, and leaves its argument as it was.
-/
import Derived.Test.YtkeangeaemokhaaRows
import Derived.Test.YtkeangeaemokhaaSmalls
import Derived.Test.YtkeangeaemokhaaCmpFSmalls
import Derived.Test.YtkeangeaemokhaaDrawSmalls
import Derived.WalkKit
import Derived.ProofKit
import Derived.OpenShut
import Derived.ShutString
import Derived.ChangeOld
import Derived.Below
import Derived.WalkLawsBesides
namespace Go.Proofs.Ytkeangeaemokhaa.fnMinMaxSmallsApart
open Go.ChangeShapes Go.WideShapes Go.ChangeAt Go.RowKit
open Go.ChangeMaps (open_string shut_string)
set_option linter.unusedVariables false

theorem own : ownKnob Try.prog.godebug = none := by kernel_rfl
theorem laidOut : laidOutB Try.prog = true := by kernel_rfl

set_option maxHeartbeats 2000000 in
set_option maxRecDepth 100000 in
theorem walk (a0 : Option Addr) (len0 cap0 : Nat) (z0 : List Int) (w : World) (w0 : IsRow .u8 w a0 len0 cap0 z0) :
    Calls Try.prog 8 #[.slice a0 len0 cap0] w fun e w' => e = .returned (.bool true) ∧ Below w.heap.size w w' := by
  by_cases hl : 1048576 < len0
  · go_enter Try.func8, Try.ntmps8
    go_wp2
    go_ret
    exact ⟨rfl, Below.refl _ _⟩
  · have W0 := Lib.hid w0
    clear w0
    go_enter Try.func8, Try.ntmps8
    go_wp2_with fail
    refine (draw_any w W0.out (by omega)).mono ?_
    rintro e u0 ⟨x, y, z, ⟨x, vx, rfl⟩, ⟨y, vy, rfl⟩, ⟨z, vz, rfl⟩, rfl, hB⟩
    have HB := Lib.hid hB
    have WX := Lib.hid vx
    have WY := Lib.hid vy
    have WZ := Lib.hid vz
    clear hB vx vy vz W0
    cases hx : nanB .f32 x
    · cases hy : nanB .f32 y
      · have tx : (FloatKind.f32.format.order x x != some Ordering.eq) = false := by rw [order_self_nan]; exact hx
        have ty : (FloatKind.f32.format.order y y != some Ordering.eq) = false := by rw [order_self_nan]; exact hy
        have HX := Lib.hid hx
        have HY := Lib.hid hy
        clear hx hy
        go_wp2_with fail
        refine (implMaxSmalls x y WX.out WY.out _).mono ?_
        rintro e u1 ⟨r1, q1, v1, k1, rfl, h1⟩
        have B1 : Hid (Below w.heap.size w u1) := by rw [h1]; exact below_drewN HB.out q1
        have V1 := Lib.hid v1
        have K1 := Lib.hid k1
        clear v1 k1 h1
        go_wp2_with fail
        refine (implMinSmalls x r1 WX.out V1.out _).mono ?_
        rintro e u2 ⟨r2, q2, v2, k2, rfl, h2⟩
        have B2 : Hid (Below w.heap.size w u2) := by rw [h2]; exact below_drewN B1.out q2
        have V2 := Lib.hid v2
        have K2 := Lib.hid k2
        clear v2 k2 h2
        obtain ⟨c3, d3, e3, v3, k3, _, _⟩ := conv_run (P := Try.prog) 23 29 Try.underlying23 Try.underlying29 r2 u2
        have V3 := Lib.hid v3
        have K3 := Lib.hid k3
        clear v3 k3
        obtain ⟨c4, d4, e4, v4, k4, _, _⟩ := conv_run (P := Try.prog) 23 29 Try.underlying23 Try.underlying29 x (u2.drewN d3)
        have V4 := Lib.hid v4
        have K4 := Lib.hid k4
        clear v4 k4
        have s5 : sameB .f64 c3 c4 = true := same_of_key (by rw [K3.out, K4.out]; exact wkey_eq (by rw [K2.out, K1.out]; exact kmin_kmax HX.out HY.out))
        go_wp2_with fail
        refine (same_any c3 c4 V3.out V4.out _).mono ?_
        rintro e u5 ⟨rfl, rfl⟩
        go_wp2_with fail
        refine (implMinSmalls x y WX.out WY.out _).mono ?_
        rintro e u6 ⟨r6, q6, v6, k6, rfl, h6⟩
        have B6 : Hid (Below w.heap.size w u6) := by rw [h6]; exact below_drewN (below_drewN B2.out (d3 + d4)) q6
        have V6 := Lib.hid v6
        have K6 := Lib.hid k6
        clear v6 k6 h6
        go_wp2_with fail
        refine (implMaxSmalls x r6 WX.out V6.out _).mono ?_
        rintro e u7 ⟨r7, q7, v7, k7, rfl, h7⟩
        have B7 : Hid (Below w.heap.size w u7) := by rw [h7]; exact below_drewN B6.out q7
        have V7 := Lib.hid v7
        have K7 := Lib.hid k7
        clear v7 k7 h7
        obtain ⟨c8, d8, e8, v8, k8, _, _⟩ := conv_run (P := Try.prog) 23 29 Try.underlying23 Try.underlying29 r7 u7
        have V8 := Lib.hid v8
        have K8 := Lib.hid k8
        clear v8 k8
        obtain ⟨c9, d9, e9, v9, k9, _, _⟩ := conv_run (P := Try.prog) 23 29 Try.underlying23 Try.underlying29 x (u7.drewN d8)
        have V9 := Lib.hid v9
        have K9 := Lib.hid k9
        clear v9 k9
        have s10 : sameB .f64 c8 c9 = true := same_of_key (by rw [K8.out, K9.out]; exact wkey_eq (by rw [K7.out, K6.out]; exact kmax_kmin HX.out HY.out))
        go_wp2_with fail
        refine (same_any c8 c9 V8.out V9.out _).mono ?_
        rintro e u10 ⟨rfl, rfl⟩
        go_wp2
        go_ret
        exact ⟨by simp, (below_drewN B7.out (d8 + d9))⟩
      · have tx : (FloatKind.f32.format.order x x != some Ordering.eq) = false := by rw [order_self_nan]; exact hx
        have ty : (FloatKind.f32.format.order y y != some Ordering.eq) = true := by rw [order_self_nan]; exact hy
        have HN : Hid (nanB .f32 x = true ∨ nanB .f32 y = true) := Or.inr hy
        clear hx hy
        go_wp2
        go_ret
        exact ⟨by simp, HB.out⟩
    · have tx : (FloatKind.f32.format.order x x != some Ordering.eq) = true := by rw [order_self_nan]; exact hx
      have HN : Hid (nanB .f32 x = true ∨ nanB .f32 y = true) := Or.inl hx
      clear hx
      go_wp2
      go_ret
      exact ⟨by simp, HB.out⟩

set_option maxRecDepth 100000 in
theorem lifted (os : Os) (started : os.Started) (H : Type) (enc : TypeId × Value → H) :
    ReturnsInHanded {} Try.checked os 8 .any (Rows.fnMinMaxSmallsApartSpec.pre6 enc Try.prog Try.f8 Rows.fnMinMaxSmallsApartRow.domain false) (Rows.fnMinMaxSmallsApartSpec.post enc Try.prog Try.f8 false true false false) := by
  refine returnsInHanded_of_change (C := Try.checked) own started (by kernel_rfl) Try.func8
    (ChangeSpec.witness6 (enc := enc) (C := Try.checked) false ⟨#[], #[.slice none 0 0], []⟩ 8 (by kernel_rfl) (by kernel_rfl) (by kernel_rfl) (by kernel_rfl)) ?_
  intro W base args ds gs before hval0 hW hcnd _
  have hval : ∀ (j : Nat) t v, Try.f8.params[j]? = some t → args[j]? = some v → Value.okWide Try.prog W .any base t v := hval0
  have hW' := hW
  obtain ⟨p, q, hA0, hV, rfl, hfz, hnd⟩ := hW
  have hA : DataW.TrodAll enc Try.prog W 0 (fun _ => true) true Try.f8.params.toList args.toList ds p := hA0
  rw [Try.params8] at hA hval
  obtain ⟨v0, vs0, d0, ds0, p0, q0, hargs, rfl, rfl, h0, r0⟩ := trodAll_cons hA
  obtain ⟨rfl, rfl, rfl⟩ := trodAll_nil r0
  obtain rfl : args = #[v0] := by cases args; simp_all
  obtain ⟨rfl, rfl⟩ := trodVars_none hV
  obtain ⟨a0, len0, cap0, rfl⟩ := okWide_slice Try.underlying22 (hval 0 22 v0 rfl rfl)
  have k0 := h0
  have lt0 : ∀ x ∈ p0, x.block < W.heap.size := by obtain ⟨m, hm⟩ := k0; exact DataW.trod_lt m _ _ _ hm
  obtain ⟨z0, w0⟩ : ∃ zs, IsRow .u8 W a0 len0 cap0 zs := by
    obtain ⟨fuel, hf⟩ := h0
    rcases open_ints Try.underlying22 Try.underlying5 (by kernel_rfl) hf with ⟨hcs, _⟩ | ⟨x, l, c, zs, hcs, _, hl, hm, hz, _, hcell, hwz⟩
    · simp [Value.cells] at hcs
      obtain ⟨rfl, rfl, rfl⟩ := hcs
      exact ⟨[], .inl ⟨rfl, rfl, rfl, rfl⟩⟩
    · simp [Value.cells] at hcs
      obtain ⟨rfl, rfl, rfl⟩ := hcs
      exact ⟨zs, .inr ⟨_, rfl, hl, hm, by simpa using hz, hcell, hwz⟩⟩
  clear hA0 hval0
  refine (walk a0 len0 cap0 z0 W w0).mono fun e W' ⟨he, bel⟩ => ?_
  subst he
  exact ⟨_, rfl, _, _, _, [], _, [], hW', trodAll_mk1 (shut_bool Try.underlying4 _), (trodAll_cons_mk (Below.trod laidOut (by kernel_rfl) (of_decide_eq_true (by kernel_rfl)) k0 bel lt0) trodAll_mk0), rfl, bel.frame _, fun h => by cases h⟩

theorem over : Rows.fnMinMaxSmallsApartRow.holds Try.pinned (OpenSpec.ofChange Rows.fnMinMaxSmallsApartSpec) :=
  OpenClaim.holds_of_wide 8 Try.f8 rfl rfl rfl rfl rfl rfl rfl ⟨rfl, rfl, rfl, rfl, rfl⟩ rfl rfl rfl rfl rfl (by kernel_rfl) Try.func8 (by kernel_rfl)
    (of_decide_eq_true (by kernel_rfl)) (by unfold Func.isWrapper; first | (rw [if_pos (by decide +kernel)]; kernel_rfl) | (rw [if_neg (by decide +kernel)]; exact ⟨rfl, rfl⟩))
    (fun os started H enc _ => lifted os started H enc)

/-- The given statement. -/
theorem proved : Rows.FnMinMaxSmallsApartSaid := over

end Go.Proofs.Ytkeangeaemokhaa.fnMinMaxSmallsApart
