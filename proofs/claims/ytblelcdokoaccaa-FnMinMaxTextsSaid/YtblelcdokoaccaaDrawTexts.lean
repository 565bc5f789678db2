/-
  What the reference's draws of texts give: some texts of at most 1048576 bytes; nothing that was there is turned. Conditions: as for the reader.
-/
import Derived.Test.YtblelcdokoaccaaReader
import Derived.Laws.BytesArg
import Derived.Laws.Concat
namespace Go.Proofs.Ytblelcdokoaccaa
open Go.RowKit
set_option linter.unusedVariables false

def IsText (v : Value) : Prop := ∃ s : ByteArray, s.size ≤ 1048576 ∧ v = .string s

/-- The bytes as a text. -/
theorem to_text {w : World} {a : Option Addr} {len cap : Nat} {zs : List Int} (h : IsRow .u8 w a len cap zs) (hs : len ≤ 1048576) :
    ∃ s : ByteArray, s.size ≤ 1048576 ∧ (convert 22 9 (.slice a len cap)).run Try.prog w = .ok (.string s) w := by
  rcases h with ⟨rfl, rfl, rfl, rfl⟩ | ⟨x, rfl, hl, hm, hz, hcell, hwz⟩
  · exact ⟨ByteArray.empty, by simp, run_convert_bytes_nil w _ _ Try.underlying22 Try.underlying5 0 0 _ Try.underlying9⟩
  · by_cases h0 : len = 0
    · subst h0
      refine ⟨ByteArray.empty, by simp, ?_⟩
      rw [run_convert_bytes_string w _ _ _ _ 0 cap Try.underlying22 Try.underlying5 Try.underlying9]
      have hload : (loadCells x 0).run Try.prog w = .ok (([] : List Int).map (Value.int .u8)).toArray w := by
        have := run_loadCells_list (P := Try.prog) w x [] (fun j v hj => by simp at hj)
        simpa using this
      rw [run_bytesToString w x 0 cap [] hload]
      rfl
    · obtain ⟨b, off, spot⟩ := x
      have hspot : spot = none := by simpa [Addr.add] using World.cell?_spot (hcell 0 (by omega))
      subst hspot
      refine ⟨strOfNums (zs.take len), by rw [strOfNums_size]; simp; omega, ?_⟩
      refine run_convert_bytes_arg w _ _ Try.underlying22 Try.underlying5 b off len cap (zs.take len) (by simp; omega) ?_ _ Try.underlying9
      intro i hi
      have ea : Addr.add ⟨b, off, none⟩ i = ⟨b, off + i, none⟩ := by unfold Addr.add; split <;> simp_all
      have hci := hcell i (by omega)
      rw [ea] at hci
      rw [hci]
      simp [List.getD, hi]

def okText : Value → Bool
  | .string s => decide (s.size ≤ 2)
  | _ => false

theorem alloc_text (w : World) (vs : Array Value) (t : TypeId) (ha : vs.toList.all okText = true) (i : Nat) (hi : i < vs.size) : ∃ s : ByteArray, s.size ≤ 2 ∧ (w.alloc (.cells vs t)).cell? ⟨w.heap.size, i, none⟩ = some (.string s) := by
  have h := List.all_eq_true.1 ha _ (Array.getElem_mem_toList hi)
  rw [alloc_cell w vs t i hi]
  generalize vs[i] = v at h
  cases v <;> simp [okText] at h
  exact ⟨_, h, rfl⟩

set_option maxHeartbeats 2000000 in
theorem aText_any {B : Nat} {a : Option Addr} {len cap : Nat} {zs : List Int} {p : Nat} {w : World} (h : Reads B a len cap zs p w) (hp : p ≤ 500) :
    Calls Try.prog 24 #[.pointer (some ⟨B, 0, none⟩)] w (Drawn IsText B a len cap zs p 5 w) := by
  have H := Lib.hid h
  clear h
  go_enter Try.func24, Try.ntmps24
  go_wp2_with fail
  refine (pick_reads (H.out.alloc _) _ (by omega) (by omega) (by omega)).mono ?_
  rintro e w1 ⟨k, hk, rfl, hR, hB, hz, ho⟩
  have HL : Hid (∀ i, i < 9 → ∃ t : ByteArray, t.size ≤ 2 ∧ w1.cell? ⟨w.heap.size, i, none⟩ = some (.string t)) := by
    show ∀ i, i < 9 → ∃ t : ByteArray, t.size ≤ 2 ∧ w1.cell? ⟨w.heap.size, i, none⟩ = some (.string t)
    intro i hi
    rw [ho w.heap.size i (by have := H.out.size; omega)]
    exact alloc_text w _ _ (by decide +kernel) i (by simp; omega)
  have HR := Lib.hid hR
  have HB := Lib.hid (((Below.refl B w).alloc (Nat.le_of_lt H.out.size) _).trans hB)
  have hBL : B < w.heap.size := H.out.size
  clear hR hB hz ho
  go_wp2_with fail
  go_loopw [3, 5] (fun sv n wr => ∃ (s : ByteArray) (j pj : Nat), s.size + 2 * j ≤ 6 ∧ sv = .string s ∧ n = .int .i64 j ∧ pj + j ≤ p + 4 ∧ Reads B a len cap zs pj wr ∧ Below B w wr ∧ (∀ i, i < 9 → ∃ t : ByteArray, t.size ≤ 2 ∧ wr.cell? ⟨w.heap.size, i, none⟩ = some (.string t))) (fun _ n _ => (intOf n).toNat)
  case atStart => exact ⟨⟨#[]⟩, k, p + 1, by have : (ByteArray.mk #[]).size = 0 := rfl; omega, rfl, rfl, by omega, HR.out, HB.out, HL.out⟩
  case round =>
    obtain ⟨s, j, pj, hsz, rfl, rfl, hpj, hR, hB, hL⟩ := hrel
    clear HR HB HL
    have HR := Lib.hid hR
    have HB := Lib.hid hB
    have HL := Lib.hid hL
    clear hR hB hL
    by_cases hj : 0 < j
    · go_wp2_with fail
      refine (pick_reads HR.out _ (by omega) (by omega) (by omega)).mono ?_
      rintro e w2 ⟨i, hi, rfl, hR2, hB2, hz2, ho2⟩
      obtain ⟨t, ht, hc⟩ := HL.out i (by omega)
      have hc2 := (ho2 w.heap.size i (by omega)).trans hc
      have HL2 : Hid (∀ i, i < 9 → ∃ t : ByteArray, t.size ≤ 2 ∧ w2.cell? ⟨w.heap.size, i, none⟩ = some (.string t)) := by
        show ∀ i, i < 9 → ∃ t : ByteArray, t.size ≤ 2 ∧ w2.cell? ⟨w.heap.size, i, none⟩ = some (.string t)
        intro i hi
        rw [ho2 w.heap.size i (by omega)]
        exact HL.out i hi
      have HR2 := Lib.hid hR2
      have HB2 := Lib.hid (HB.out.trans hB2)
      clear hR2 hB2 hz2 ho2 hc
      go_wp2
      go_roundw
      case rel => exact ⟨s ++ t, j - 1, pj + 1, by rw [ByteArray.size_append]; omega, rfl, by go_num, by omega, HR2.out, HB2.out, HL2.out⟩
      case measure => simp [intOf]; omega
    · have hj0 : ¬ (0 : Int) < (j : Int) := by omega
      go_wp2_with fail
      refine (pick_reads HR.out _ (by omega) (by omega) (by omega)).mono ?_
      rintro e w2 ⟨i, hi, rfl, hR2, hB2, hz2, ho2⟩
      obtain ⟨t, ht, hcv⟩ := to_text hR2.row hR2.short
      have HR2 := Lib.hid hR2
      have HB2 := Lib.hid (HB.out.trans hB2)
      have hsl := hR2.slice
      clear hR2 hB2 hz2 ho2
      cases hi0 : ((i : Int) == 0)
      · go_wp2
        go_ret
        exact ⟨_, pj + 1, ⟨s, by omega, rfl⟩, rfl, by omega, HR2.out, HB2.out⟩
      · go_wp2
        go_ret
        exact ⟨_, pj + 1, ⟨t, ht, rfl⟩, rfl, by omega, HR2.out, HB2.out⟩

set_option maxHeartbeats 1000000 in
theorem draw_any {a : Option Addr} {len cap : Nat} {zs : List Int} (w : World) (h : IsRow .u8 w a len cap zs) (hs : len ≤ 1048576) :
    Calls Try.prog 13 #[.slice a len cap] w (Drew3 IsText w) := by
  have H := Lib.hid h
  clear h
  go_enter Try.func13, Try.ntmps13
  go_wp2_with fail
  have HR := Lib.hid (Reads.start H.out hs 32)
  have HB := Lib.hid ((Below.refl w.heap.size w).alloc (Nat.le_refl _) (.cells #[.slice a len cap, .int .i64 0] 32))
  refine (aText_any HR.out (by omega)).mono ?_
  rintro e w1 ⟨x, p1, hx, rfl, hp1, hR1, hB1⟩
  obtain ⟨x, hx, rfl⟩ := hx
  have HR1 := Lib.hid hR1
  have HB1 := Lib.hid (HB.out.trans hB1)
  have HX := Lib.hid hx
  clear hR1 hB1 hx
  go_wp2_with fail
  refine (aText_any HR1.out (by omega)).mono ?_
  rintro e w2 ⟨y, p2, hy, rfl, hp2, hR2, hB2⟩
  obtain ⟨y, hy, rfl⟩ := hy
  have HR2 := Lib.hid hR2
  have HB2 := Lib.hid (HB1.out.trans hB2)
  have HY := Lib.hid hy
  clear hR2 hB2 hy
  go_wp2_with fail
  refine (aText_any HR2.out (by omega)).mono ?_
  rintro e w3 ⟨z, p3, hz, rfl, hp3, hR3, hB3⟩
  obtain ⟨z, hz, rfl⟩ := hz
  have HR3 := Lib.hid hR3
  have HB3 := Lib.hid (HB2.out.trans hB3)
  have HZ := Lib.hid hz
  clear hR3 hB3 hz
  go_wp2_with fail
  refine (alike_any HR3.out (by omega)).mono ?_
  rintro e w4 ⟨b, p4, hb, rfl, hp4, hR4, hB4⟩
  obtain ⟨b, rfl⟩ := hb
  have HR4 := Lib.hid hR4
  have HB4 := Lib.hid (HB3.out.trans hB4)
  clear hR4 hB4
  cases b
  all_goals
    go_wp2_with fail
    refine (alike_any HR4.out (by omega)).mono ?_
    rintro e w5 ⟨b, p5, hb, rfl, hp5, hR5, hB5⟩
    obtain ⟨b, rfl⟩ := hb
    have HB5 := Lib.hid (HB4.out.trans hB5)
    clear hR5 hB5
    cases b
    all_goals
      go_wp2_with fail
      go_ret3
      first
        | exact ⟨_, _, _, ⟨x, HX.out, rfl⟩, ⟨y, HY.out, rfl⟩, ⟨z, HZ.out, rfl⟩, rfl, HB5.out⟩
        | exact ⟨_, _, _, ⟨x, HX.out, rfl⟩, ⟨y, HY.out, rfl⟩, ⟨y, HY.out, rfl⟩, rfl, HB5.out⟩
        | exact ⟨_, _, _, ⟨x, HX.out, rfl⟩, ⟨x, HX.out, rfl⟩, ⟨z, HZ.out, rfl⟩, rfl, HB5.out⟩
        | exact ⟨_, _, _, ⟨x, HX.out, rfl⟩, ⟨x, HX.out, rfl⟩, ⟨x, HX.out, rfl⟩, rfl, HB5.out⟩

end Go.Proofs.Ytblelcdokoaccaa
