/-
  What the reference's draws of floating-point numbers of 32 bits give: some numbers; nothing that was there is turned. Conditions: as for the reader.
-/
import Derived.Test.YtkeangeaemokhaaFloatLib
import Derived.Laws.FloatArith
namespace Go.Proofs.Ytkeangeaemokhaa
open Go.RowKit
set_option linter.unusedVariables false

/-- Halves of -4 to 4. -/
theorem halves (i : Nat) (hi : i < 9) : ∃ r, floatBits .quo .f32 (floatOfInt .f32 ((i : Int) - 4)) 1073741824 = some r := by
  have h : ∀ j : Fin 9, (floatBits .quo .f32 (floatOfInt .f32 ((j.val : Int) - 4)) 1073741824).isSome = true := by decide +kernel
  exact Option.isSome_iff_exists.1 (h ⟨i, hi⟩)

theorem f32from (n : Int) (w : World) : (callFunc 35 #[.int .u32 n]).run Try.prog w = .ok (.value (.float .f32 n.toNat)) w := by
  rw [run_callFunc_extern Try.func35 (by kernel_rfl) (by kernel_rfl) (by kernel_rfl) (e := Extern.MathFloatBits.float32frombits) (by kernel_rfl)]
  rfl

theorem narrow (b r : Nat) (h : floatToFloatBits .f64 b .f32 = some r) (w : World) : (convert 29 23 (.float .f64 b)).run Try.prog w = .ok (.float .f32 r) w :=
  run_convert_float_float w _ _ .f64 .f32 b r (by rw [Try.underlying29]; rfl) Try.underlying23 h

theorem narrow_nan (w : World) : ∃ r q, (convert 29 23 (.float .f64 9221120237041090561)).run Try.prog w = .ok (.float .f32 r) (w.drewN q) ∧ (Lit.float .f32 r).wf = true := by
  obtain ⟨_, h2⟩ := cut_conv .f32 9221120237041090561 (w.tape w.drawn (.nanConv .f32 9221120237041090561))
  refine ⟨_, 1, ?_, h2⟩
  have he : FloatKind.f64.decode 9221120237041090561 = .nan false 2251799813685249 := by decide +kernel
  simp [convert, run_underlying Try.underlying29, run_underlying Try.underlying23, Conv.floatToFloat, he, Question.forced, World.drew_is_drewN]

set_option maxHeartbeats 2000000 in
theorem aSmall_any {B : Nat} {a : Option Addr} {len cap : Nat} {zs : List Int} {p : Nat} {w : World} (h : Reads B a len cap zs p w) (hp : p ≤ 500) :
    Calls Try.prog 25 #[.pointer (some ⟨B, 0, none⟩)] w (Drawn (IsFloat .f32) B a len cap zs p 10 w) := by
  have H := Lib.hid h
  clear h
  go_enter Try.func25, Try.ntmps25
  go_wp2_with fail
  refine (pick_reads H.out 4 (by omega) (by omega) (by omega)).mono ?_
  rintro e w0 ⟨k, hk, rfl, hR, hB, hz, ho⟩
  have HR := Lib.hid hR
  have HB := Lib.hid hB
  clear hR hB hz ho
  by_cases k2 : k = 2
  · subst k2
    go_wp2_with fail
    refine (bits_any HR.out (by omega)).mono ?_
    rintro e w2 ⟨v, p2, ⟨X, hX, rfl⟩, rfl, hp2, hR2, hB2⟩
    have HR2 := Lib.hid hR2
    have HB2 := Lib.hid hB2
    have HX := Lib.hid hX
    have hf := f32from
    clear hR2 hB2 hX
    go_wp2
    go_ret
    exact ⟨_, _, ⟨_, wf_of_lt .f32 _ (by have := bounds_u32 (wf_wrap .u32 X); show (IntKind.u32.wrap X).toNat < 2 ^ 32; omega), rfl⟩, rfl, by omega, HR2.out, HB.out.trans HB2.out⟩
  · by_cases k3 : k = 3
    · subst k3
      go_wp2_with fail
      refine (pick_reads HR.out 9 (by omega) (by omega) (by omega)).mono ?_
      rintro e w2 ⟨i, hi, rfl, hR2, hB2, hz2, ho2⟩
      have HR2 := Lib.hid hR2
      have HB2 := Lib.hid hB2
      obtain ⟨r, hr⟩ := halves i (by omega)
      have hq := fun t w => run_float_arith (P := Try.prog) w .quo t .f32 _ _ r hr
      have HW := Lib.hid (floatBits_wf hr)
      clear hR2 hB2 ho2 hz2 hr
      go_wp2
      go_ret
      exact ⟨_, _, ⟨r, HW.out, rfl⟩, rfl, by omega, HR2.out, HB.out.trans HB2.out⟩
    · have k01 : k = 0 ∨ k = 1 := by omega
      clear k2 k3
      rcases k01 with rfl | rfl
      all_goals
        go_wp2_with fail
        refine (copysign_zero _).mono ?_
        rintro e w' ⟨rfl, rfl⟩
        have n1 := narrow 9223372036854775808 2147483648 (by decide +kernel)
        have n2 := narrow 9218868437227405312 2139095040 (by decide +kernel)
        have n3 := narrow 18442240474082181120 4286578688 (by decide +kernel)
        go_wp2_with fail
        refine (nan_call _).mono ?_
        rintro e w' ⟨rfl, rfl⟩
        obtain ⟨r, q, n4, wr⟩ := narrow_nan w0
        have WR := Lib.hid wr
        clear wr
        go_wp2_with fail
        generalize hw : w0.drewN q = w1
        have HB1 : Hid (Below B w w1) := by rw [← hw]; exact below_drewN HB.out q
        have HR1 : Hid (Reads B a len cap zs (p + 1) w1) := by rw [← hw]; exact HR.out.kept (below_drewN (Below.refl _ _) q)
        clear n4 hw HB HR
        have HR := HR1
        have HB := HB1
        clear HR1 HB1
        refine (inf_up _).mono ?_
        rintro e w' ⟨rfl, rfl⟩
        go_wp2_with fail
        refine (inf_down _).mono ?_
        rintro e w' ⟨rfl, rfl⟩
        go_wp2_with fail
        refine (pick_reads (HR.out.alloc _) _ (by omega) (by omega) (by omega)).mono ?_
        rintro e w2 ⟨i, hi, rfl, hR2, hB2, hz2, ho2⟩
        have HR2 := Lib.hid hR2
        have HB2 := Lib.hid hB2
        obtain ⟨X, hX, hc⟩ : ∃ X, (Lit.float .f32 X).wf = true ∧ w2.cell? ⟨w1.heap.size, i, none⟩ = some (.float .f32 X) := by
          rw [ho2 w1.heap.size i (by have := HR.out.size; omega)]
          exact alloc_float .f32 w1 _ _ (by have h := wf_f32 WR.out; simp [okFloat, Lit.wf, h]) i (by simp; omega)
        have HX := Lib.hid hX
        clear hR2 hB2 ho2 hX hz2
        go_wp2
        go_ret
        exact ⟨_, _, ⟨X, HX.out, rfl⟩, rfl, by omega, HR2.out, HB.out.trans (((Below.refl _ _).alloc (Nat.le_of_lt HR.out.size) _).trans HB2.out)⟩

set_option maxHeartbeats 1000000 in
theorem draw_any {a : Option Addr} {len cap : Nat} {zs : List Int} (w : World) (h : IsRow .u8 w a len cap zs) (hs : len ≤ 1048576) :
    Calls Try.prog 13 #[.slice a len cap] w (Drew3 (IsFloat .f32) w) := by
  have H := Lib.hid h
  clear h
  go_enter Try.func13, Try.ntmps13
  go_wp2_with fail
  have HR := Lib.hid (Reads.start H.out hs 35)
  have HB := Lib.hid ((Below.refl w.heap.size w).alloc (Nat.le_refl _) (.cells #[.slice a len cap, .int .i64 0] 35))
  refine (aSmall_any HR.out (by omega)).mono ?_
  rintro e w1 ⟨x, p1, hx, rfl, hp1, hR1, hB1⟩
  obtain ⟨x, hx, rfl⟩ := hx
  have HR1 := Lib.hid hR1
  have HB1 := Lib.hid (HB.out.trans hB1)
  have HX := Lib.hid hx
  clear hR1 hB1 hx
  go_wp2_with fail
  refine (aSmall_any HR1.out (by omega)).mono ?_
  rintro e w2 ⟨y, p2, hy, rfl, hp2, hR2, hB2⟩
  obtain ⟨y, hy, rfl⟩ := hy
  have HR2 := Lib.hid hR2
  have HB2 := Lib.hid (HB1.out.trans hB2)
  have HY := Lib.hid hy
  clear hR2 hB2 hy
  go_wp2_with fail
  refine (aSmall_any HR2.out (by omega)).mono ?_
  rintro e w3 ⟨z, p3, hz, rfl, hp3, hR3, hB3⟩
  obtain ⟨z, hz, rfl⟩ := hz
  have HR3 := Lib.hid hR3
  have HB3 := Lib.hid (HB2.out.trans hB3)
  have HZ := Lib.hid hz
  clear hR3 hB3 hz
  go_wp2_with fail
  refine (alike_any HR3.out (by omega)).mono ?_
  rintro e w4 ⟨b, p4, hb, rfl, hp4, hR4, hB4⟩
  obtain ⟨b, rfl⟩ := hb
  have HR4 := Lib.hid hR4
  have HB4 := Lib.hid (HB3.out.trans hB4)
  clear hR4 hB4
  cases b
  all_goals
    go_wp2_with fail
    refine (alike_any HR4.out (by omega)).mono ?_
    rintro e w5 ⟨b, p5, hb, rfl, hp5, hR5, hB5⟩
    obtain ⟨b, rfl⟩ := hb
    have HB5 := Lib.hid (HB4.out.trans hB5)
    clear hR5 hB5
    cases b
    all_goals
      go_wp2_with fail
      go_ret3
      first
        | exact ⟨_, _, _, ⟨x, HX.out, rfl⟩, ⟨y, HY.out, rfl⟩, ⟨z, HZ.out, rfl⟩, rfl, HB5.out⟩
        | exact ⟨_, _, _, ⟨x, HX.out, rfl⟩, ⟨y, HY.out, rfl⟩, ⟨y, HY.out, rfl⟩, rfl, HB5.out⟩
        | exact ⟨_, _, _, ⟨x, HX.out, rfl⟩, ⟨x, HX.out, rfl⟩, ⟨z, HZ.out, rfl⟩, rfl, HB5.out⟩
        | exact ⟨_, _, _, ⟨x, HX.out, rfl⟩, ⟨x, HX.out, rfl⟩, ⟨x, HX.out, rfl⟩, rfl, HB5.out⟩

end Go.Proofs.Ytkeangeaemokhaa
