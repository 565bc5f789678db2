/-
  What the reference's draws of whole numbers give: some whole numbers of the kind; nothing that was there is turned. Conditions: as for the reader.
-/
import Derived.Test.YtdeaigeimakolaaReader
namespace Go.Proofs.Ytdeaigeimakolaa
open Go.RowKit
set_option linter.unusedVariables false

set_option maxHeartbeats 1000000 in
theorem anInt_any {B : Nat} {a : Option Addr} {len cap : Nat} {zs : List Int} {p : Nat} {w : World} (h : Reads B a len cap zs p w) (hp : p ≤ 500) :
    Calls Try.prog 28 #[.pointer (some ⟨B, 0, none⟩)] w (Drawn (IsInt .i64) B a len cap zs p 10 w) := by
  have H := Lib.hid h
  clear h
  go_enter Try.func28, Try.ntmps28
  go_wp2_with fail
  refine (pick_reads H.out 4 (by omega) (by omega) (by omega)).mono ?_
  rintro e w1 ⟨k, hk, rfl, hR, hB, hz, ho⟩
  have HR := Lib.hid hR
  have HB := Lib.hid hB
  clear hR hB hz ho
  by_cases k0 : k = 0
  · subst k0
    go_wp2_with fail
    refine (pick_reads (HR.out.alloc _) _ (by omega) (by omega) (by omega)).mono ?_
    rintro e w2 ⟨i, hi, rfl, hR2, hB2, hz2, ho2⟩
    have HR2 := Lib.hid hR2
    have HB2 := Lib.hid hB2
    obtain ⟨X, hX, hc⟩ : ∃ X, (Lit.int .i64 X).wf = true ∧ w2.cell? ⟨w1.heap.size, i, none⟩ = some (.int .i64 X) := by
      rw [ho2 w1.heap.size i (by have := HR.out.size; omega)]
      exact alloc_int .i64 w1 _ _ (by decide +kernel) i (by simp; omega)
    have HX := Lib.hid hX
    clear hR2 hB2 ho2 hX hz2
    go_wp2
    go_ret
    exact ⟨_, _, ⟨X, HX.out, rfl⟩, rfl, by omega, HR2.out, HB.out.trans (((Below.refl _ _).alloc (Nat.le_of_lt HR.out.size) _).trans HB2.out)⟩
  · by_cases k1 : k = 1
    · subst k1
      go_wp2_with fail
      refine (bits_any HR.out (by omega)).mono ?_
      rintro e w2 ⟨v, p2, ⟨X, hX, rfl⟩, rfl, hp2, hR2, hB2⟩
      have HR2 := Lib.hid hR2
      have HB2 := Lib.hid hB2
      clear hR2 hB2 hX
      go_wp2
      go_ret
      exact ⟨_, _, ⟨_, wrap64_wf _, rfl⟩, rfl, by omega, HR2.out, HB.out.trans HB2.out⟩
    · have b0 : ((k : Int) == 0) = false := by simp; omega
      have b1 : ((k : Int) == 1) = false := by simp; omega
      go_wp2_with fail
      refine (pick_reads HR.out 9 (by omega) (by omega) (by omega)).mono ?_
      rintro e w2 ⟨i, hi, rfl, hR2, hB2, hz2, ho2⟩
      have HR2 := Lib.hid hR2
      have HB2 := Lib.hid hB2
      clear hR2 hB2 ho2 hz2
      go_wp2
      go_ret
      exact ⟨_, _, ⟨_, WalkArith.wf_i64 (by omega), rfl⟩, rfl, by omega, HR2.out, HB.out.trans HB2.out⟩

set_option maxHeartbeats 1000000 in
theorem aUint_any {B : Nat} {a : Option Addr} {len cap : Nat} {zs : List Int} {p : Nat} {w : World} (h : Reads B a len cap zs p w) (hp : p ≤ 500) :
    Calls Try.prog 24 #[.pointer (some ⟨B, 0, none⟩)] w (Drawn (IsInt .u64) B a len cap zs p 10 w) := by
  have H := Lib.hid h
  clear h
  go_enter Try.func24, Try.ntmps24
  go_wp2_with fail
  refine (anInt_any H.out hp).mono ?_
  rintro e w1 ⟨x, p1, ⟨x, hx, rfl⟩, rfl, hp1, hR1, hB1⟩
  have HR1 := Lib.hid hR1
  have HB1 := Lib.hid hB1
  clear hR1 hB1 hx
  go_wp2
  go_ret
  exact ⟨_, p1, ⟨_, wf_wrap _ _, rfl⟩, rfl, hp1, HR1.out, HB1.out⟩

set_option maxHeartbeats 1000000 in
theorem draw_any {a : Option Addr} {len cap : Nat} {zs : List Int} (w : World) (h : IsRow .u8 w a len cap zs) (hs : len ≤ 1048576) :
    Calls Try.prog 13 #[.slice a len cap] w (Drew3 (IsInt .u64) w) := by
  have H := Lib.hid h
  clear h
  go_enter Try.func13, Try.ntmps13
  go_wp2_with fail
  have HR := Lib.hid (Reads.start H.out hs 33)
  have HB := Lib.hid ((Below.refl w.heap.size w).alloc (Nat.le_refl _) (.cells #[.slice a len cap, .int .i64 0] 33))
  refine (aUint_any HR.out (by omega)).mono ?_
  rintro e w1 ⟨x, p1, hx, rfl, hp1, hR1, hB1⟩
  obtain ⟨x, hx, rfl⟩ := hx
  have HR1 := Lib.hid hR1
  have HB1 := Lib.hid (HB.out.trans hB1)
  have HX := Lib.hid hx
  clear hR1 hB1 hx
  go_wp2_with fail
  refine (aUint_any HR1.out (by omega)).mono ?_
  rintro e w2 ⟨y, p2, hy, rfl, hp2, hR2, hB2⟩
  obtain ⟨y, hy, rfl⟩ := hy
  have HR2 := Lib.hid hR2
  have HB2 := Lib.hid (HB1.out.trans hB2)
  have HY := Lib.hid hy
  clear hR2 hB2 hy
  go_wp2_with fail
  refine (aUint_any HR2.out (by omega)).mono ?_
  rintro e w3 ⟨z, p3, hz, rfl, hp3, hR3, hB3⟩
  obtain ⟨z, hz, rfl⟩ := hz
  have HR3 := Lib.hid hR3
  have HB3 := Lib.hid (HB2.out.trans hB3)
  have HZ := Lib.hid hz
  clear hR3 hB3 hz
  go_wp2_with fail
  refine (alike_any HR3.out (by omega)).mono ?_
  rintro e w4 ⟨b, p4, hb, rfl, hp4, hR4, hB4⟩
  obtain ⟨b, rfl⟩ := hb
  have HR4 := Lib.hid hR4
  have HB4 := Lib.hid (HB3.out.trans hB4)
  clear hR4 hB4
  cases b
  all_goals
    go_wp2_with fail
    refine (alike_any HR4.out (by omega)).mono ?_
    rintro e w5 ⟨b, p5, hb, rfl, hp5, hR5, hB5⟩
    obtain ⟨b, rfl⟩ := hb
    have HB5 := Lib.hid (HB4.out.trans hB5)
    clear hR5 hB5
    cases b
    all_goals
      go_wp2_with fail
      go_ret3
      first
        | exact ⟨_, _, _, ⟨x, HX.out, rfl⟩, ⟨y, HY.out, rfl⟩, ⟨z, HZ.out, rfl⟩, rfl, HB5.out⟩
        | exact ⟨_, _, _, ⟨x, HX.out, rfl⟩, ⟨y, HY.out, rfl⟩, ⟨y, HY.out, rfl⟩, rfl, HB5.out⟩
        | exact ⟨_, _, _, ⟨x, HX.out, rfl⟩, ⟨x, HX.out, rfl⟩, ⟨z, HZ.out, rfl⟩, rfl, HB5.out⟩
        | exact ⟨_, _, _, ⟨x, HX.out, rfl⟩, ⟨x, HX.out, rfl⟩, ⟨x, HX.out, rfl⟩, rfl, HB5.out⟩

end Go.Proofs.Ytdeaigeimakolaa
