/-
  The reader's state over calls, and its two small words: a number of 64 bits, and whether a second value is drawn like the first one. Conditions: as for the reader.
-/
import Derived.Test.YtkeangeaemokhaaDraw
import Derived.OpenShut
namespace Go.Proofs.Ytkeangeaemokhaa
open Go.RowKit
set_option linter.unusedVariables false

theorem addr_block (x : Addr) (i : Nat) : (x.add i).block = x.block := by unfold Addr.add; split <;> rfl

theorem IsRow.below {k : IntKind} {w w' : World} {a : Option Addr} {len cap : Nat} {zs : List Int} {B : Nat} (h : IsRow k w a len cap zs) (hb : Below B w w') (ha : ∀ x, a = some x → 0 < cap → x.block < B) : IsRow k w' a len cap zs := by
  rcases h with h | ⟨x, rfl, hl, hm, hz, hcell, hwz⟩
  · exact Or.inl h
  · exact Or.inr ⟨x, rfl, hl, hm, hz, fun i hi => by rw [hb.cell (by rw [addr_block]; exact ha x rfl (by omega))]; exact hcell i hi, hwz⟩

theorem alloc_cell (w : World) (vs : Array Value) (t : TypeId) (i : Nat) (hi : i < vs.size) : (w.alloc (.cells vs t)).cell? ⟨w.heap.size, i, none⟩ = some vs[i] := by
  unfold World.cell?
  have e : (w.alloc (.cells vs t)).heap[w.heap.size]? = some (.cells vs t) := by
    show (w.heap.push _)[w.heap.size]? = _
    simp
  simp only [e]
  simp [hi]

theorem Reads.after {B : Nat} {a : Option Addr} {len cap : Nat} {zs : List Int} {p : Nat} {w : World} (h : Reads B a len cap zs p w) (q : Nat) :
    Reads B a len cap zs (p + 1) ((w.setCell ⟨B, 1, none⟩ (.int .i64 ((p : Int) + 1))).drewN q) := by
  have hb : Below B w ((w.setCell ⟨B, 1, none⟩ (.int .i64 ((p : Int) + 1))).drewN q) := below_drewN (Below.setCell (p := ⟨B, 1, none⟩) (Below.refl B w) (Nat.le_refl B) _) q
  refine ⟨?_, ?_, ?_, ?_, h.row.below hb h.apart, h.apart, h.short⟩
  · simpa [World.setCell] using h.size
  · simp only [World.cell?_drewN]
    exact (World.cell?_setCell_other w ⟨B, 1, none⟩ ⟨B, 0, none⟩ _ (fun e => by simp at e)).trans h.slice
  · simp only [World.cell?_drewN]
    exact (World.cell?_setCell_same w ⟨B, 1, none⟩ _ h.count).trans (by simp)
  · have := h.free
    simpa using this

theorem after_below {B : Nat} {w : World} (v : Value) (q : Nat) : Below B w ((w.setCell ⟨B, 1, none⟩ v).drewN q) := below_drewN (Below.setCell (p := ⟨B, 1, none⟩) (Below.refl B w) (Nat.le_refl B) _) q

theorem cell_lt {w : World} {x : Addr} {v : Value} (h : w.cell? x = some v) : x.block < w.heap.size := by
  unfold World.cell? at h
  split at h
  · rename_i hb
    exact (Array.getElem?_eq_some_iff.1 hb).1
  · cases h

/-- A reader that has just been made. -/
theorem Reads.start {a : Option Addr} {len cap : Nat} {zs : List Int} {w : World} (h : IsRow .u8 w a len cap zs) (hs : len ≤ 1048576) (T : TypeId) :
    Reads w.heap.size a len cap zs 0 (w.alloc (.cells #[.slice a len cap, .int .i64 0] T)) := by
  have hb : Below w.heap.size w (w.alloc (.cells #[.slice a len cap, .int .i64 0] T)) := (Below.refl _ _).alloc (Nat.le_refl _) _
  have ha : ∀ x, a = some x → 0 < cap → x.block < w.heap.size := by
    intro x hx hc
    rcases h with ⟨rfl, _⟩ | ⟨y, rfl, hl, hm, hz, hcell, hwz⟩
    · cases hx
    · obtain rfl : y = x := by simpa using hx
      have := cell_lt (hcell 0 (by omega))
      rwa [addr_block] at this
  refine ⟨by simp, alloc_cell w _ T 0 (by simp), ?_, ?_, h.below hb ha, ha, hs⟩
  · exact (alloc_cell w _ T 1 (by simp)).trans (by simp)
  · unfold World.frozen?
    have e : (w.alloc (.cells #[.slice a len cap, .int .i64 0] T)).heap[w.heap.size]? = some (.cells #[.slice a len cap, .int .i64 0] T) := by
      show (w.heap.push _)[w.heap.size]? = _
      simp
    simp only [e]
    rfl

/-- What is made above turns nothing in the reader. -/
theorem Reads.kept {B : Nat} {a : Option Addr} {len cap : Nat} {zs : List Int} {p : Nat} {w w' : World} (h : Reads B a len cap zs p w) (hb : Below w.heap.size w w') : Reads B a len cap zs p w' := by
  have hs := h.size
  refine ⟨Nat.lt_of_lt_of_le h.size hb.size, ?_, ?_, ?_, h.row.below hb (fun x hx hc => Nat.lt_trans (h.apart x hx hc) h.size), h.apart, h.short⟩
  · rw [hb.cell hs]; exact h.slice
  · rw [hb.cell hs]; exact h.count
  · rw [hb.frozen hs]; exact h.free

theorem Reads.alloc {B : Nat} {a : Option Addr} {len cap : Nat} {zs : List Int} {p : Nat} {w : World} (h : Reads B a len cap zs p w) (o : Obj) : Reads B a len cap zs p (w.alloc o) :=
  h.kept ((Below.refl _ _).alloc (Nat.le_refl _) o)

/-- It returned a value of the kind R, read at most m times, and turned nothing below block B. -/
def Drawn (R : Value → Prop) (B : Nat) (a : Option Addr) (len cap : Nat) (zs : List Int) (p m : Nat) (w : World) (e : Ending) (w' : World) : Prop :=
  ∃ (v : Value) (p' : Nat), R v ∧ e = .returned v ∧ p' ≤ p + m ∧ Reads B a len cap zs p' w' ∧ Below B w w'

/-- It returned a number from 0 to n-1, read once; no cell outside block B has turned. -/
def PickedR (B : Nat) (a : Option Addr) (len cap : Nat) (zs : List Int) (n : Int) (p : Nat) (w : World) (e : Ending) (w' : World) : Prop :=
  ∃ k : Nat, (k : Int) < n ∧ e = .returned (.int .i64 k) ∧ Reads B a len cap zs (p + 1) w' ∧ Below B w w' ∧ w'.heap.size = w.heap.size ∧ (∀ b o, b ≠ B → w'.cell? ⟨b, o, none⟩ = w.cell? ⟨b, o, none⟩)

theorem pick_reads {B : Nat} {a : Option Addr} {len cap : Nat} {zs : List Int} {p : Nat} {w : World} (h : Reads B a len cap zs p w) (n : Int) (hp : p ≤ 1000) (hn : 1 ≤ n) (hn' : n ≤ 256) :
    Calls Try.prog 31 #[.pointer (some ⟨B, 0, none⟩), .int .i64 n] w (PickedR B a len cap zs n p w) := by
  refine (pick_any h n (by omega) hn hn').mono ?_
  rintro e w' ⟨v, q, h0, h1, rfl, rfl⟩
  obtain ⟨k, rfl⟩ := Int.eq_ofNat_of_zero_le h0
  refine ⟨k, h1, rfl, h.after q, after_below _ _, by simp, fun b o hb => ?_⟩
  simp only [World.cell?_drewN]
  exact World.cell?_setCell_other w ⟨B, 1, none⟩ ⟨b, o, none⟩ _ (fun e => hb (congrArg Addr.block e).symm)

def okInt (k : IntKind) : Value → Bool
  | .int k' n => decide (k' = k) && (Lit.int k n).wf
  | _ => false

def IsInt (k : IntKind) (v : Value) : Prop := ∃ X : Int, (Lit.int k X).wf = true ∧ v = .int k X
theorem okInt_is {k : IntKind} {v : Value} (h : okInt k v = true) : IsInt k v := by
  cases v <;> simp [okInt] at h
  obtain ⟨rfl, h⟩ := h
  exact ⟨_, h, rfl⟩
theorem alloc_int (k : IntKind) (w : World) (vs : Array Value) (t : TypeId) (ha : vs.toList.all (okInt k) = true) (i : Nat) (hi : i < vs.size) : ∃ X, (Lit.int k X).wf = true ∧ (w.alloc (.cells vs t)).cell? ⟨w.heap.size, i, none⟩ = some (.int k X) := by
  obtain ⟨X, hX, e⟩ := okInt_is (List.all_eq_true.1 ha _ (Array.getElem_mem_toList hi))
  exact ⟨X, hX, by rw [alloc_cell w vs t i hi, e]⟩
def IsBool (v : Value) : Prop := ∃ b : Bool, v = .bool b

set_option maxHeartbeats 1000000 in
theorem alike_any {B : Nat} {a : Option Addr} {len cap : Nat} {zs : List Int} {p : Nat} {w : World} (h : Reads B a len cap zs p w) (hp : p ≤ 1000) :
    Calls Try.prog 26 #[.pointer (some ⟨B, 0, none⟩)] w (Drawn IsBool B a len cap zs p 1 w) := by
  have H := Lib.hid h
  clear h
  go_enter Try.func26, Try.ntmps26
  go_wp2_with fail
  refine (pick_any H.out 4 (by omega) (by omega) (by omega)).mono ?_
  rintro e w' ⟨v, q, h0, h1, rfl, rfl⟩
  go_wp2
  go_ret
  exact ⟨_, p + 1, ⟨_, rfl⟩, rfl, by omega, H.out.after q, after_below _ _⟩

set_option maxHeartbeats 1000000 in
theorem bits_any {B : Nat} {a : Option Addr} {len cap : Nat} {zs : List Int} {p : Nat} {w : World} (h : Reads B a len cap zs p w) (hp : p ≤ 1000) :
    Calls Try.prog 36 #[.pointer (some ⟨B, 0, none⟩)] w (Drawn (IsInt .u64) B a len cap zs p 8 w) := by
  have H := Lib.hid h
  clear h
  go_enter Try.func36, Try.ntmps36
  go_wp2
  go_loopw [3, 4] (fun n k wr => ∃ (j pj : Nat) (X : Int), (Lit.int .u64 X).wf = true ∧ n = .int .u64 X ∧ k = .int .i64 j ∧ j ≤ 8 ∧ pj ≤ p + j ∧ Reads B a len cap zs pj wr ∧ Below B w wr) (fun _ k _ => 8 - (intOf k).toNat)
  case atStart => exact ⟨0, p, 0, by decide, rfl, rfl, by omega, by omega, H.out, Below.refl _ _⟩
  case round =>
    obtain ⟨j, pj, X, hX, rfl, rfl, hj, hpj, hR, hB⟩ := hrel
    have HX := Lib.hid hX
    have HR := Lib.hid hR
    have HB := Lib.hid hB
    clear hX hR hB
    by_cases hlt : j < 8
    · go_wp2_with fail
      refine (pick_any HR.out 256 (by omega) (by omega) (by omega)).mono ?_
      rintro e w' ⟨v, q, h0, h1, rfl, rfl⟩
      go_wp2
      go_roundw
      case rel => exact ⟨j + 1, pj + 1, _, wf_wrap _ _, rfl, by go_num, by omega, by omega, HR.out.after q, HB.out.trans (after_below _ _)⟩
      case measure => simp [intOf]; omega
    · go_wp2_with fail
      go_ret
      exact ⟨_, pj, ⟨X, HX.out, rfl⟩, rfl, by omega, HR.out, HB.out⟩

/-- It returned three values of the kind R; nothing that was there has turned. -/
def Drew3 (R : Value → Prop) (w : World) (e : Ending) (w' : World) : Prop :=
  ∃ x y z, R x ∧ R y ∧ R z ∧ e = .returned (.tuple #[x, y, z]) ∧ Below w.heap.size w w'

end Go.Proofs.Ytkeangeaemokhaa
