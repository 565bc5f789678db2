/-
  Min of Smalls: the law function laws.FnMinSmallsOne returns true for every input, without a condition, and leaves its argument as it was.
-/
import Derived.Test.YtkeangeaemokhaaRows
import Derived.Test.YtkeangeaemokhaaSmalls
import Derived.Test.YtkeangeaemokhaaCmpFSmalls
import Derived.Test.YtkeangeaemokhaaDrawSmalls
import Derived.WalkKit
import Derived.ProofKit
import Derived.OpenShut
import Derived.ShutString
import Derived.ChangeOld
import Derived.Below
import Derived.WalkLawsBesides
namespace Go.Proofs.Ytkeangeaemokhaa.fnMinSmallsOne
open Go.ChangeShapes Go.WideShapes Go.ChangeAt Go.RowKit
open Go.ChangeMaps (open_string shut_string)
set_option linter.unusedVariables false

theorem own : ownKnob Try.prog.godebug = none := by kernel_rfl
theorem laidOut : laidOutB Try.prog = true := by kernel_rfl

set_option maxHeartbeats 2000000 in
set_option maxRecDepth 100000 in
theorem walk (a0 : Option Addr) (len0 cap0 : Nat) (z0 : List Int) (w : World) (w0 : IsRow .u8 w a0 len0 cap0 z0) :
    Calls Try.prog 12 #[.slice a0 len0 cap0] w fun e w' => e = .returned (.bool true) ∧ Below w.heap.size w w' := by
  by_cases hl : 1048576 < len0
  · go_enter Try.func12, Try.ntmps12
    go_wp2
    go_ret
    exact ⟨rfl, Below.refl _ _⟩
  · have W0 := Lib.hid w0
    clear w0
    go_enter Try.func12, Try.ntmps12
    go_wp2_with fail
    refine (draw_any w W0.out (by omega)).mono ?_
    rintro e u0 ⟨x, y, z, ⟨x, vx, rfl⟩, ⟨y, vy, rfl⟩, ⟨z, vz, rfl⟩, rfl, hB⟩
    have HB := Lib.hid hB
    have WX := Lib.hid vx
    have WY := Lib.hid vy
    have WZ := Lib.hid vz
    clear hB vx vy vz W0
    cases hx : nanB .f32 x
    · cases hy : nanB .f32 y
      · have tx : (FloatKind.f32.format.order x x != some Ordering.eq) = false := by rw [order_self_nan]; exact hx
        have ty : (FloatKind.f32.format.order y y != some Ordering.eq) = false := by rw [order_self_nan]; exact hy
        have HX := Lib.hid hx
        have HY := Lib.hid hy
        clear hx hy
        go_wp2_with fail
        refine (implMinSmalls x y WX.out WY.out _).mono ?_
        rintro e u1 ⟨r1, q1, v1, k1, rfl, h1⟩
        have B1 : Hid (Below w.heap.size w u1) := by rw [h1]; exact below_drewN HB.out q1
        have V1 := Lib.hid v1
        have K1 := Lib.hid k1
        clear v1 k1 h1
        have L := Lib.hid (min_le HX.out HY.out K1.out)
        rcases L.out.2.2.2 with g | g
        · have G := Lib.hid g
          clear g
          obtain ⟨c2, d2, e2, v2, k2, _, _⟩ := conv_run (P := Try.prog) 23 29 Try.underlying23 Try.underlying29 r1 u1
          have V2 := Lib.hid v2
          have K2 := Lib.hid k2
          clear v2 k2
          obtain ⟨c3, d3, e3, v3, k3, _, _⟩ := conv_run (P := Try.prog) 23 29 Try.underlying23 Try.underlying29 x (u1.drewN d2)
          have V3 := Lib.hid v3
          have K3 := Lib.hid k3
          clear v3 k3
          have s4 : sameB .f64 c2 c3 = true := same_of_key (by rw [K2.out, K3.out]; exact wkey_eq (by exact G.out))
          go_wp2_with fail
          refine (same_any c2 c3 V2.out V3.out _).mono ?_
          rintro e u4 ⟨rfl, rfl⟩
          have l5 : decide (fval .f32 x < fval .f32 r1) = false := by have := L.out.2.1; simp; omega
          go_wp2_with fail
          refine (lessSmalls x r1 HX.out L.out.1 _).mono ?_
          rintro e u5 ⟨rfl, rfl⟩
          have l6 : decide (fval .f32 y < fval .f32 r1) = false := by have := L.out.2.2.1; simp; omega
          go_wp2_with fail
          refine (lessSmalls y r1 HY.out L.out.1 _).mono ?_
          rintro e u6 ⟨rfl, rfl⟩
          go_wp2
          go_ret
          exact ⟨by simp, (below_drewN B1.out (d2 + d3))⟩
        · have G := Lib.hid g
          clear g
          obtain ⟨c2, d2, e2, v2, k2, _, _⟩ := conv_run (P := Try.prog) 23 29 Try.underlying23 Try.underlying29 r1 u1
          have V2 := Lib.hid v2
          have K2 := Lib.hid k2
          clear v2 k2
          obtain ⟨c3, d3, e3, v3, k3, _, _⟩ := conv_run (P := Try.prog) 23 29 Try.underlying23 Try.underlying29 x (u1.drewN d2)
          have V3 := Lib.hid v3
          have K3 := Lib.hid k3
          clear v3 k3
          go_wp2_with fail
          refine (same_any c2 c3 V2.out V3.out _).mono ?_
          rintro e u4 ⟨rfl, rfl⟩
          cases f : sameB .f64 c2 c3
          · obtain ⟨c5, d5, e5, v5, k5, _, _⟩ := conv_run (P := Try.prog) 23 29 Try.underlying23 Try.underlying29 r1 (u1.drewN (d2 + d3))
            have V5 := Lib.hid v5
            have K5 := Lib.hid k5
            clear v5 k5
            obtain ⟨c6, d6, e6, v6, k6, _, _⟩ := conv_run (P := Try.prog) 23 29 Try.underlying23 Try.underlying29 y (u1.drewN (d2 + d3 + d5))
            have V6 := Lib.hid v6
            have K6 := Lib.hid k6
            clear v6 k6
            have s7 : sameB .f64 c5 c6 = true := same_of_key (by rw [K5.out, K6.out]; exact wkey_eq (by exact G.out))
            go_wp2_with fail
            refine (same_any c5 c6 V5.out V6.out _).mono ?_
            rintro e u7 ⟨rfl, rfl⟩
            have l8 : decide (fval .f32 x < fval .f32 r1) = false := by have := L.out.2.1; simp; omega
            go_wp2_with fail
            refine (lessSmalls x r1 HX.out L.out.1 _).mono ?_
            rintro e u8 ⟨rfl, rfl⟩
            have l9 : decide (fval .f32 y < fval .f32 r1) = false := by have := L.out.2.2.1; simp; omega
            go_wp2_with fail
            refine (lessSmalls y r1 HY.out L.out.1 _).mono ?_
            rintro e u9 ⟨rfl, rfl⟩
            go_wp2
            go_ret
            exact ⟨by simp, (below_drewN B1.out (d2 + d3 + d5 + d6))⟩
          · have l5 : decide (fval .f32 x < fval .f32 r1) = false := by have := L.out.2.1; simp; omega
            go_wp2_with fail
            refine (lessSmalls x r1 HX.out L.out.1 _).mono ?_
            rintro e u5 ⟨rfl, rfl⟩
            have l6 : decide (fval .f32 y < fval .f32 r1) = false := by have := L.out.2.2.1; simp; omega
            go_wp2_with fail
            refine (lessSmalls y r1 HY.out L.out.1 _).mono ?_
            rintro e u6 ⟨rfl, rfl⟩
            go_wp2
            go_ret
            exact ⟨by simp, (below_drewN B1.out (d2 + d3))⟩
      · have tx : (FloatKind.f32.format.order x x != some Ordering.eq) = false := by rw [order_self_nan]; exact hx
        have ty : (FloatKind.f32.format.order y y != some Ordering.eq) = true := by rw [order_self_nan]; exact hy
        have HN : Hid (nanB .f32 x = true ∨ nanB .f32 y = true) := Or.inr hy
        clear hx hy
        go_wp2_with fail
        refine (implMinSmalls x y WX.out WY.out _).mono ?_
        rintro e u1 ⟨r1, q1, v1, k1, rfl, h1⟩
        have B1 : Hid (Below w.heap.size w u1) := by rw [h1]; exact below_drewN HB.out q1
        have V1 := Lib.hid v1
        have K1 := Lib.hid k1
        clear v1 k1 h1
        have tm : (FloatKind.f32.format.order r1 r1 != some Ordering.eq) = true := by rw [order_self_nan]; exact nan_min HN.out K1.out
        go_wp2
        go_ret
        exact ⟨by simp, B1.out⟩
    · have tx : (FloatKind.f32.format.order x x != some Ordering.eq) = true := by rw [order_self_nan]; exact hx
      have HN : Hid (nanB .f32 x = true ∨ nanB .f32 y = true) := Or.inl hx
      clear hx
      go_wp2_with fail
      refine (implMinSmalls x y WX.out WY.out _).mono ?_
      rintro e u1 ⟨r1, q1, v1, k1, rfl, h1⟩
      have B1 : Hid (Below w.heap.size w u1) := by rw [h1]; exact below_drewN HB.out q1
      have V1 := Lib.hid v1
      have K1 := Lib.hid k1
      clear v1 k1 h1
      have tm : (FloatKind.f32.format.order r1 r1 != some Ordering.eq) = true := by rw [order_self_nan]; exact nan_min HN.out K1.out
      go_wp2
      go_ret
      exact ⟨by simp, B1.out⟩

set_option maxRecDepth 100000 in
theorem lifted (os : Os) (started : os.Started) (H : Type) (enc : TypeId × Value → H) :
    ReturnsInHanded {} Try.checked os 12 .any (Rows.fnMinSmallsOneSpec.pre6 enc Try.prog Try.f12 Rows.fnMinSmallsOneRow.domain false) (Rows.fnMinSmallsOneSpec.post enc Try.prog Try.f12 false true false false) := by
  refine returnsInHanded_of_change (C := Try.checked) own started (by kernel_rfl) Try.func12
    (ChangeSpec.witness6 (enc := enc) (C := Try.checked) false ⟨#[], #[.slice none 0 0], []⟩ 8 (by kernel_rfl) (by kernel_rfl) (by kernel_rfl) (by kernel_rfl)) ?_
  intro W base args ds gs before hval0 hW hcnd _
  have hval : ∀ (j : Nat) t v, Try.f12.params[j]? = some t → args[j]? = some v → Value.okWide Try.prog W .any base t v := hval0
  have hW' := hW
  obtain ⟨p, q, hA0, hV, rfl, hfz, hnd⟩ := hW
  have hA : DataW.TrodAll enc Try.prog W 0 (fun _ => true) true Try.f12.params.toList args.toList ds p := hA0
  rw [Try.params12] at hA hval
  obtain ⟨v0, vs0, d0, ds0, p0, q0, hargs, rfl, rfl, h0, r0⟩ := trodAll_cons hA
  obtain ⟨rfl, rfl, rfl⟩ := trodAll_nil r0
  obtain rfl : args = #[v0] := by cases args; simp_all
  obtain ⟨rfl, rfl⟩ := trodVars_none hV
  obtain ⟨a0, len0, cap0, rfl⟩ := okWide_slice Try.underlying22 (hval 0 22 v0 rfl rfl)
  have k0 := h0
  have lt0 : ∀ x ∈ p0, x.block < W.heap.size := by obtain ⟨m, hm⟩ := k0; exact DataW.trod_lt m _ _ _ hm
  obtain ⟨z0, w0⟩ : ∃ zs, IsRow .u8 W a0 len0 cap0 zs := by
    obtain ⟨fuel, hf⟩ := h0
    rcases open_ints Try.underlying22 Try.underlying5 (by kernel_rfl) hf with ⟨hcs, _⟩ | ⟨x, l, c, zs, hcs, _, hl, hm, hz, _, hcell, hwz⟩
    · simp [Value.cells] at hcs
      obtain ⟨rfl, rfl, rfl⟩ := hcs
      exact ⟨[], .inl ⟨rfl, rfl, rfl, rfl⟩⟩
    · simp [Value.cells] at hcs
      obtain ⟨rfl, rfl, rfl⟩ := hcs
      exact ⟨zs, .inr ⟨_, rfl, hl, hm, by simpa using hz, hcell, hwz⟩⟩
  clear hA0 hval0
  refine (walk a0 len0 cap0 z0 W w0).mono fun e W' ⟨he, bel⟩ => ?_
  subst he
  exact ⟨_, rfl, _, _, _, [], _, [], hW', trodAll_mk1 (shut_bool Try.underlying4 _), (trodAll_cons_mk (Below.trod laidOut (by kernel_rfl) (of_decide_eq_true (by kernel_rfl)) k0 bel lt0) trodAll_mk0), rfl, bel.frame _, fun h => by cases h⟩

theorem over : Rows.fnMinSmallsOneRow.holds Try.pinned (OpenSpec.ofChange Rows.fnMinSmallsOneSpec) :=
  OpenClaim.holds_of_wide 12 Try.f12 rfl rfl rfl rfl rfl rfl rfl ⟨rfl, rfl, rfl, rfl, rfl⟩ rfl rfl rfl rfl rfl (by kernel_rfl) Try.func12 (by kernel_rfl)
    (of_decide_eq_true (by kernel_rfl)) (by unfold Func.isWrapper; first | (rw [if_pos (by decide +kernel)]; kernel_rfl) | (rw [if_neg (by decide +kernel)]; exact ⟨rfl, rfl⟩))
    (fun os started H enc _ => lifted os started H enc)

/-- The given statement. -/
theorem proved : Rows.FnMinSmallsOneSaid := over

end Go.Proofs.Ytkeangeaemokhaa.fnMinSmallsOne
