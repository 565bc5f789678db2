/-
  MinMax of Smalls: the law function laws.FnMinMaxSmalls returns true for every input, without a condition, and leaves its argument as it was.
-/
import Derived.Test.YtkeangeaemokhaaRows
import Derived.Test.YtkeangeaemokhaaSmalls
import Derived.Test.YtkeangeaemokhaaCmpFSmalls
import Derived.Test.YtkeangeaemokhaaDrawSmalls
import Derived.WalkKit
import Derived.ProofKit
import Derived.OpenShut
import Derived.ShutString
import Derived.ChangeOld
import Derived.Below
import Derived.WalkLawsBesides
namespace Go.Proofs.Ytkeangeaemokhaa.fnMinMaxSmalls
open Go.ChangeShapes Go.WideShapes Go.ChangeAt Go.RowKit
open Go.ChangeMaps (open_string shut_string)
set_option linter.unusedVariables false

theorem own : ownKnob Try.prog.godebug = none := by kernel_rfl
theorem laidOut : laidOutB Try.prog = true := by kernel_rfl

set_option maxHeartbeats 2000000 in
set_option maxRecDepth 100000 in
theorem walk (a0 : Option Addr) (len0 cap0 : Nat) (z0 : List Int) (w : World) (w0 : IsRow .u8 w a0 len0 cap0 z0) :
    Calls Try.prog 3 #[.slice a0 len0 cap0] w fun e w' => e = .returned (.bool true) ∧ Below w.heap.size w w' := by
  by_cases hl : 1048576 < len0
  · go_enter Try.func3, Try.ntmps3
    go_wp2
    go_ret
    exact ⟨rfl, Below.refl _ _⟩
  · have W0 := Lib.hid w0
    clear w0
    go_enter Try.func3, Try.ntmps3
    go_wp2_with fail
    refine (draw_any w W0.out (by omega)).mono ?_
    rintro e u0 ⟨x, y, z, ⟨x, vx, rfl⟩, ⟨y, vy, rfl⟩, ⟨z, vz, rfl⟩, rfl, hB⟩
    have HB := Lib.hid hB
    have WX := Lib.hid vx
    have WY := Lib.hid vy
    have WZ := Lib.hid vz
    clear hB vx vy vz W0
    cases hx : nanB .f32 x
    · cases hy : nanB .f32 y
      · have tx : (FloatKind.f32.format.order x x != some Ordering.eq) = false := by rw [order_self_nan]; exact hx
        have ty : (FloatKind.f32.format.order y y != some Ordering.eq) = false := by rw [order_self_nan]; exact hy
        have HX := Lib.hid hx
        have HY := Lib.hid hy
        clear hx hy
        go_wp2_with fail
        refine (implMinSmalls x y WX.out WY.out _).mono ?_
        rintro e u1 ⟨r1, q1, v1, k1, rfl, h1⟩
        have B1 : Hid (Below w.heap.size w u1) := by rw [h1]; exact below_drewN HB.out q1
        have V1 := Lib.hid v1
        have K1 := Lib.hid k1
        clear v1 k1 h1
        go_wp2_with fail
        refine (implMaxSmalls x y WX.out WY.out _).mono ?_
        rintro e u2 ⟨r2, q2, v2, k2, rfl, h2⟩
        have B2 : Hid (Below w.heap.size w u2) := by rw [h2]; exact below_drewN B1.out q2
        have V2 := Lib.hid v2
        have K2 := Lib.hid k2
        clear v2 k2 h2
        have L := Lib.hid (min_le HX.out HY.out K1.out)
        have G := Lib.hid (max_ge HX.out HY.out K2.out)
        have lc : decide (icmp (fval .f32 r1) (fval .f32 r2) ≤ 0) = true := by have := L.out.2.1; have := G.out.2.1; simp; exact icmp_le (by omega)
        go_wp2_with fail
        refine (compareSmalls r1 r2 L.out.1 G.out.1 _).mono ?_
        rintro e uc ⟨rfl, rfl⟩
        rcases min_max HX.out HY.out K1.out K2.out with g | g
        · have M := Lib.hid g
          clear g
          obtain ⟨c3, d3, e3, v3, k3, _, _⟩ := conv_run (P := Try.prog) 23 29 Try.underlying23 Try.underlying29 r1 u2
          have V3 := Lib.hid v3
          have K3 := Lib.hid k3
          clear v3 k3
          obtain ⟨c4, d4, e4, v4, k4, _, _⟩ := conv_run (P := Try.prog) 23 29 Try.underlying23 Try.underlying29 x (u2.drewN d3)
          have V4 := Lib.hid v4
          have K4 := Lib.hid k4
          clear v4 k4
          have s5 : sameB .f64 c3 c4 = true := same_of_key (by rw [K3.out, K4.out]; exact wkey_eq (by exact M.out.1))
          go_wp2_with fail
          refine (same_any c3 c4 V3.out V4.out _).mono ?_
          rintro e u5 ⟨rfl, rfl⟩
          obtain ⟨c6, d6, e6, v6, k6, _, _⟩ := conv_run (P := Try.prog) 23 29 Try.underlying23 Try.underlying29 r2 (u2.drewN (d3 + d4))
          have V6 := Lib.hid v6
          have K6 := Lib.hid k6
          clear v6 k6
          obtain ⟨c7, d7, e7, v7, k7, _, _⟩ := conv_run (P := Try.prog) 23 29 Try.underlying23 Try.underlying29 y (u2.drewN (d3 + d4 + d6))
          have V7 := Lib.hid v7
          have K7 := Lib.hid k7
          clear v7 k7
          have s8 : sameB .f64 c6 c7 = true := same_of_key (by rw [K6.out, K7.out]; exact wkey_eq (by exact M.out.2))
          go_wp2_with fail
          refine (same_any c6 c7 V6.out V7.out _).mono ?_
          rintro e u8 ⟨rfl, rfl⟩
          go_wp2
          go_ret
          exact ⟨by simp, (below_drewN B2.out (d3 + d4 + d6 + d7))⟩
        · have M := Lib.hid g
          clear g
          obtain ⟨c3, d3, e3, v3, k3, _, _⟩ := conv_run (P := Try.prog) 23 29 Try.underlying23 Try.underlying29 r1 u2
          have V3 := Lib.hid v3
          have K3 := Lib.hid k3
          clear v3 k3
          obtain ⟨c4, d4, e4, v4, k4, _, _⟩ := conv_run (P := Try.prog) 23 29 Try.underlying23 Try.underlying29 x (u2.drewN d3)
          have V4 := Lib.hid v4
          have K4 := Lib.hid k4
          clear v4 k4
          go_wp2_with fail
          refine (same_any c3 c4 V3.out V4.out _).mono ?_
          rintro e u5 ⟨rfl, rfl⟩
          cases f : sameB .f64 c3 c4
          · obtain ⟨c6, d6, e6, v6, k6, _, _⟩ := conv_run (P := Try.prog) 23 29 Try.underlying23 Try.underlying29 r1 (u2.drewN (d3 + d4))
            have V6 := Lib.hid v6
            have K6 := Lib.hid k6
            clear v6 k6
            obtain ⟨c7, d7, e7, v7, k7, _, _⟩ := conv_run (P := Try.prog) 23 29 Try.underlying23 Try.underlying29 y (u2.drewN (d3 + d4 + d6))
            have V7 := Lib.hid v7
            have K7 := Lib.hid k7
            clear v7 k7
            have s8 : sameB .f64 c6 c7 = true := same_of_key (by rw [K6.out, K7.out]; exact wkey_eq (by exact M.out.1))
            go_wp2_with fail
            refine (same_any c6 c7 V6.out V7.out _).mono ?_
            rintro e u8 ⟨rfl, rfl⟩
            obtain ⟨c9, d9, e9, v9, k9, _, _⟩ := conv_run (P := Try.prog) 23 29 Try.underlying23 Try.underlying29 r2 (u2.drewN (d3 + d4 + d6 + d7))
            have V9 := Lib.hid v9
            have K9 := Lib.hid k9
            clear v9 k9
            obtain ⟨c10, d10, e10, v10, k10, _, _⟩ := conv_run (P := Try.prog) 23 29 Try.underlying23 Try.underlying29 x (u2.drewN (d3 + d4 + d6 + d7 + d9))
            have V10 := Lib.hid v10
            have K10 := Lib.hid k10
            clear v10 k10
            have s11 : sameB .f64 c9 c10 = true := same_of_key (by rw [K9.out, K10.out]; exact wkey_eq (by exact M.out.2))
            go_wp2_with fail
            refine (same_any c9 c10 V9.out V10.out _).mono ?_
            rintro e u11 ⟨rfl, rfl⟩
            go_wp2
            go_ret
            exact ⟨by simp, (below_drewN B2.out (d3 + d4 + d6 + d7 + d9 + d10))⟩
          · obtain ⟨c6, d6, e6, v6, k6, _, _⟩ := conv_run (P := Try.prog) 23 29 Try.underlying23 Try.underlying29 r2 (u2.drewN (d3 + d4))
            have V6 := Lib.hid v6
            have K6 := Lib.hid k6
            clear v6 k6
            obtain ⟨c7, d7, e7, v7, k7, _, _⟩ := conv_run (P := Try.prog) 23 29 Try.underlying23 Try.underlying29 y (u2.drewN (d3 + d4 + d6))
            have V7 := Lib.hid v7
            have K7 := Lib.hid k7
            clear v7 k7
            go_wp2_with fail
            refine (same_any c6 c7 V6.out V7.out _).mono ?_
            rintro e u8 ⟨rfl, rfl⟩
            cases f2 : sameB .f64 c6 c7
            · obtain ⟨c9, d9, e9, v9, k9, _, _⟩ := conv_run (P := Try.prog) 23 29 Try.underlying23 Try.underlying29 r1 (u2.drewN (d3 + d4 + d6 + d7))
              have V9 := Lib.hid v9
              have K9 := Lib.hid k9
              clear v9 k9
              obtain ⟨c10, d10, e10, v10, k10, _, _⟩ := conv_run (P := Try.prog) 23 29 Try.underlying23 Try.underlying29 y (u2.drewN (d3 + d4 + d6 + d7 + d9))
              have V10 := Lib.hid v10
              have K10 := Lib.hid k10
              clear v10 k10
              have s11 : sameB .f64 c9 c10 = true := same_of_key (by rw [K9.out, K10.out]; exact wkey_eq (by exact M.out.1))
              go_wp2_with fail
              refine (same_any c9 c10 V9.out V10.out _).mono ?_
              rintro e u11 ⟨rfl, rfl⟩
              obtain ⟨c12, d12, e12, v12, k12, _, _⟩ := conv_run (P := Try.prog) 23 29 Try.underlying23 Try.underlying29 r2 (u2.drewN (d3 + d4 + d6 + d7 + d9 + d10))
              have V12 := Lib.hid v12
              have K12 := Lib.hid k12
              clear v12 k12
              obtain ⟨c13, d13, e13, v13, k13, _, _⟩ := conv_run (P := Try.prog) 23 29 Try.underlying23 Try.underlying29 x (u2.drewN (d3 + d4 + d6 + d7 + d9 + d10 + d12))
              have V13 := Lib.hid v13
              have K13 := Lib.hid k13
              clear v13 k13
              have s14 : sameB .f64 c12 c13 = true := same_of_key (by rw [K12.out, K13.out]; exact wkey_eq (by exact M.out.2))
              go_wp2_with fail
              refine (same_any c12 c13 V12.out V13.out _).mono ?_
              rintro e u14 ⟨rfl, rfl⟩
              go_wp2
              go_ret
              exact ⟨by simp, (below_drewN B2.out (d3 + d4 + d6 + d7 + d9 + d10 + d12 + d13))⟩
            · go_wp2
              go_ret
              exact ⟨by simp, (below_drewN B2.out (d3 + d4 + d6 + d7))⟩
      · have tx : (FloatKind.f32.format.order x x != some Ordering.eq) = false := by rw [order_self_nan]; exact hx
        have ty : (FloatKind.f32.format.order y y != some Ordering.eq) = true := by rw [order_self_nan]; exact hy
        have HN : Hid (nanB .f32 x = true ∨ nanB .f32 y = true) := Or.inr hy
        clear hx hy
        go_wp2
        go_ret
        exact ⟨by simp, HB.out⟩
    · have tx : (FloatKind.f32.format.order x x != some Ordering.eq) = true := by rw [order_self_nan]; exact hx
      have HN : Hid (nanB .f32 x = true ∨ nanB .f32 y = true) := Or.inl hx
      clear hx
      go_wp2
      go_ret
      exact ⟨by simp, HB.out⟩

set_option maxRecDepth 100000 in
theorem lifted (os : Os) (started : os.Started) (H : Type) (enc : TypeId × Value → H) :
    ReturnsInHanded {} Try.checked os 3 .any (Rows.fnMinMaxSmallsSpec.pre6 enc Try.prog Try.f3 Rows.fnMinMaxSmallsRow.domain false) (Rows.fnMinMaxSmallsSpec.post enc Try.prog Try.f3 false true false false) := by
  refine returnsInHanded_of_change (C := Try.checked) own started (by kernel_rfl) Try.func3
    (ChangeSpec.witness6 (enc := enc) (C := Try.checked) false ⟨#[], #[.slice none 0 0], []⟩ 8 (by kernel_rfl) (by kernel_rfl) (by kernel_rfl) (by kernel_rfl)) ?_
  intro W base args ds gs before hval0 hW hcnd _
  have hval : ∀ (j : Nat) t v, Try.f3.params[j]? = some t → args[j]? = some v → Value.okWide Try.prog W .any base t v := hval0
  have hW' := hW
  obtain ⟨p, q, hA0, hV, rfl, hfz, hnd⟩ := hW
  have hA : DataW.TrodAll enc Try.prog W 0 (fun _ => true) true Try.f3.params.toList args.toList ds p := hA0
  rw [Try.params3] at hA hval
  obtain ⟨v0, vs0, d0, ds0, p0, q0, hargs, rfl, rfl, h0, r0⟩ := trodAll_cons hA
  obtain ⟨rfl, rfl, rfl⟩ := trodAll_nil r0
  obtain rfl : args = #[v0] := by cases args; simp_all
  obtain ⟨rfl, rfl⟩ := trodVars_none hV
  obtain ⟨a0, len0, cap0, rfl⟩ := okWide_slice Try.underlying22 (hval 0 22 v0 rfl rfl)
  have k0 := h0
  have lt0 : ∀ x ∈ p0, x.block < W.heap.size := by obtain ⟨m, hm⟩ := k0; exact DataW.trod_lt m _ _ _ hm
  obtain ⟨z0, w0⟩ : ∃ zs, IsRow .u8 W a0 len0 cap0 zs := by
    obtain ⟨fuel, hf⟩ := h0
    rcases open_ints Try.underlying22 Try.underlying5 (by kernel_rfl) hf with ⟨hcs, _⟩ | ⟨x, l, c, zs, hcs, _, hl, hm, hz, _, hcell, hwz⟩
    · simp [Value.cells] at hcs
      obtain ⟨rfl, rfl, rfl⟩ := hcs
      exact ⟨[], .inl ⟨rfl, rfl, rfl, rfl⟩⟩
    · simp [Value.cells] at hcs
      obtain ⟨rfl, rfl, rfl⟩ := hcs
      exact ⟨zs, .inr ⟨_, rfl, hl, hm, by simpa using hz, hcell, hwz⟩⟩
  clear hA0 hval0
  refine (walk a0 len0 cap0 z0 W w0).mono fun e W' ⟨he, bel⟩ => ?_
  subst he
  exact ⟨_, rfl, _, _, _, [], _, [], hW', trodAll_mk1 (shut_bool Try.underlying4 _), (trodAll_cons_mk (Below.trod laidOut (by kernel_rfl) (of_decide_eq_true (by kernel_rfl)) k0 bel lt0) trodAll_mk0), rfl, bel.frame _, fun h => by cases h⟩

theorem over : Rows.fnMinMaxSmallsRow.holds Try.pinned (OpenSpec.ofChange Rows.fnMinMaxSmallsSpec) :=
  OpenClaim.holds_of_wide 3 Try.f3 rfl rfl rfl rfl rfl rfl rfl ⟨rfl, rfl, rfl, rfl, rfl⟩ rfl rfl rfl rfl rfl (by kernel_rfl) Try.func3 (by kernel_rfl)
    (of_decide_eq_true (by kernel_rfl)) (by unfold Func.isWrapper; first | (rw [if_pos (by decide +kernel)]; kernel_rfl) | (rw [if_neg (by decide +kernel)]; exact ⟨rfl, rfl⟩))
    (fun os started H enc _ => lifted os started H enc)

/-- The given statement. -/
theorem proved : Rows.FnMinMaxSmallsSaid := over

end Go.Proofs.Ytkeangeaemokhaa.fnMinMaxSmalls
