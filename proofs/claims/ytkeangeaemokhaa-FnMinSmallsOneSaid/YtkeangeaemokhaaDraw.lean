/-
  What the reference's reader of small numbers does: each call gives a number below the bound that it is handed, counts one on, and turns nothing else. Conditions: the bytes are at most 1048576, the count is below a million, the bound lies between 1 and 256.
-/
import Derived.Test.YtkeangeaemokhaaBase
import Derived.WalkKit
import Derived.WalkLawsBesides
import Derived.Lib.Hide
import Derived.LoopTactic
import Derived.Deep.QuietTactic
import Derived.BigQuiet
import Derived.Outline
import Derived.IntWalk
namespace Go.Proofs.Ytkeangeaemokhaa
open Go.RowKit
set_option linter.unusedVariables false

/-- It returned a number from 0 to n-1, counted one on in block B, and turned nothing else (but the count of answers drawn). -/
def Picked (B : Nat) (n : Int) (p : Nat) (w : World) (e : Ending) (w' : World) : Prop :=
  ∃ (v : Int) (q : Nat), 0 ≤ v ∧ v < n ∧ e = .returned (.int .i64 v) ∧ w' = (w.setCell ⟨B, 1, none⟩ (.int .i64 (p + 1))).drewN q

set_option maxHeartbeats 1000000 in
theorem pick_none (B : Nat) (a : Option Addr) (cap : Nat) (p : Nat) (n : Int) (w : World)
    (hc0 : w.cell? ⟨B, 0, none⟩ = some (.slice a 0 cap)) (hc1 : w.cell? ⟨B, 1, none⟩ = some (.int .i64 p)) (hf : w.frozen? ⟨B, 1, none⟩ = false)
    (hp : p ≤ 1000000) (hn : 1 ≤ n) (hn' : n ≤ 256) :
    Calls Try.prog 31 #[.pointer (some ⟨B, 0, none⟩), .int .i64 n] w (Picked B n p w) := by
  have hlt : decide (n < 1) = false := by simp; omega
  go_enter Try.func31, Try.ntmps31
  go_wp2
  go_ret
  exact ⟨0, 0, by omega, by omega, rfl, rfl⟩

set_option maxHeartbeats 1000000 in
theorem pick_near (B b off len cap : Nat) (p : Nat) (n c : Int) (w : World)
    (hc0 : w.cell? ⟨B, 0, none⟩ = some (.slice (some ⟨b, off, none⟩) len cap)) (hc1 : w.cell? ⟨B, 1, none⟩ = some (.int .i64 p)) (hf : w.frozen? ⟨B, 1, none⟩ = false)
    (hb : b ≠ B) (hl : p < len) (hlen : len ≤ 1048576) (hc : w.cell? ⟨b, off + p, none⟩ = some (.int .u8 c)) (h0 : 0 ≤ c) (h255 : c ≤ 255)
    (hp : p ≤ 1000000) (hn : 1 ≤ n) (hn' : n ≤ 256) :
    Calls Try.prog 31 #[.pointer (some ⟨B, 0, none⟩), .int .i64 n] w (Picked B n p w) := by
  have hlt : decide (n < 1) = false := by simp; omega
  have hne : ((len : Int) == 0) = false := by simp; omega
  go_enter Try.func31, Try.ntmps31
  go_wp2
  go_ret
  exact ⟨c % n, 0, Int.emod_nonneg _ (by omega), Int.emod_lt_of_pos _ (by omega), rfl, rfl⟩

theorem xor_nonneg (X Y : Int) (h0 : 0 ≤ X) (h1 : X ≤ 1000000000) (g0 : 0 ≤ Y) (g1 : Y ≤ 1000000000) : 0 ≤ bits .xor .i64 X Y := by
  obtain ⟨x, rfl⟩ := Int.eq_ofNat_of_zero_le h0
  obtain ⟨y, rfl⟩ := Int.eq_ofNat_of_zero_le g0
  have hx : x < 2 ^ 31 := by omega
  have hy : y < 2 ^ 31 := by omega
  have hz : x ^^^ y < 2 ^ 31 := Nat.xor_lt_two_pow hx hy
  show 0 ≤ IntKind.i64.wrap ((BitVec.ofInt 64 (x : Int) ^^^ BitVec.ofInt 64 (y : Int)).toNat : Int)
  rw [BitVec.toNat_xor, BitVec.ofInt_natCast, BitVec.ofInt_natCast, BitVec.toNat_ofNat, BitVec.toNat_ofNat, Nat.mod_eq_of_lt (by omega), Nat.mod_eq_of_lt (by omega), IntWalk.i64_in _ (by omega)]
  omega

set_option maxHeartbeats 2000000 in
set_option maxRecDepth 100000 in
theorem pick_far (B b off len cap m1 m2 t : Nat) (p : Nat) (n c d : Int) (w : World)
    (hc0 : w.cell? ⟨B, 0, none⟩ = some (.slice (some ⟨b, off, none⟩) len cap)) (hc1 : w.cell? ⟨B, 1, none⟩ = some (.int .i64 p)) (hf : w.frozen? ⟨B, 1, none⟩ = false)
    (hb : b ≠ B) (hl : len ≤ p) (h1 : 1 ≤ len) (hlen : len ≤ 1048576)
    (hm1 : m1 < len) (hm2 : m2 < len) (ht : t ≤ p)
    (em1 : Hid ((p : Int).tmod (len : Int) = (m1 : Int))) (em2 : Hid (((p : Int) * 7 + 3).tmod (len : Int) = (m2 : Int))) (et : Hid ((p : Int).tdiv (len : Int) = (t : Int)))
    (hc : w.cell? ⟨b, off + m1, none⟩ = some (.int .u8 c)) (h0 : 0 ≤ c) (h255 : c ≤ 255)
    (hd : w.cell? ⟨b, off + m2, none⟩ = some (.int .u8 d)) (g0 : 0 ≤ d) (g255 : d ≤ 255)
    (hp : p ≤ 1000000) (hn : 1 ≤ n) (hn' : n ≤ 256) :
    Calls Try.prog 31 #[.pointer (some ⟨B, 0, none⟩), .int .i64 n] w (Picked B n p w) := by
  have hlt : decide (n < 1) = false := by simp; omega
  have hne : ((len : Int) == 0) = false := by simp; omega
  have hz : ¬ len = 0 := by omega
  go_enter Try.func31, Try.ntmps31
  go_wp2
  have a1 : (m1 : Int) < len := by omega
  have a2 : (m2 : Int) < len := by omega
  have b1 := IntWalk.i64_in ((p : Int) * 7) (by omega)
  have b2 := IntWalk.i64_in ((p : Int) * 7 + 3) (by omega)
  have b3 := IntWalk.i64_in (c * 131) (by omega)
  have b4 := IntWalk.i64_in (d * 1117) (by omega)
  have b5 := IntWalk.i64_in (c * 131 + d * 1117) (by omega)
  have b6 := IntWalk.i64_in ((p : Int) * 29) (by omega)
  have b7 := IntWalk.i64_in (c * 131 + d * 1117 + (p : Int) * 29) (by omega)
  have b8 := IntWalk.i64_in ((t : Int) * 53) (by omega)
  have b9 := IntWalk.i64_in (c * 131 + d * 1117 + (p : Int) * 29 + (t : Int) * 53) (by omega)
  have b10 := IntWalk.i64_in c (by omega)
  have b11 := IntWalk.i64_in d (by omega)
  have b12 := IntWalk.i64_in (t : Int) (by omega)
  have em1 := em1.out
  have em2 := em2.out
  have et := et.out
  go_quiet (fail)
  clear b1 b2 b3 b4 b5 b6 b7 b8 b9 b10 b11 b12 em1 em2 et
  obtain ⟨X, hX⟩ : ∃ X, c * 131 + d * 1117 + (p : Int) * 29 + (t : Int) * 53 = X := ⟨_, rfl⟩
  have hX0 : 0 ≤ X := by omega
  have hX1 : X ≤ 1000000000 := by omega
  rw [hX]
  clear hX
  go_wp2
  go_ret
  have hx := xor_nonneg X (X / 64) hX0 hX1 (by omega) (by omega)
  have e : (bits .xor .i64 X (X / 64)).tmod n = bits .xor .i64 X (X / 64) % n := Int.tmod_eq_emod_of_nonneg hx
  exact ⟨_, nq, by rw [e]; exact Int.emod_nonneg _ (by omega), by rw [e]; exact Int.emod_lt_of_pos _ (by omega), rfl, rfl⟩

/-- The reader's state: block B holds the bytes' slice and the count p. -/
structure Reads (B : Nat) (a : Option Addr) (len cap : Nat) (zs : List Int) (p : Nat) (w : World) : Prop where
  size : B < w.heap.size
  slice : w.cell? ⟨B, 0, none⟩ = some (.slice a len cap)
  count : w.cell? ⟨B, 1, none⟩ = some (.int .i64 p)
  free : w.frozen? ⟨B, 1, none⟩ = false
  row : IsRow .u8 w a len cap zs
  apart : ∀ x, a = some x → 0 < cap → x.block < B
  short : len ≤ 1048576

theorem wf_u8 {c : Int} (h : (Lit.int .u8 c).wf = true) : 0 ≤ c ∧ c ≤ 255 := by
  simp [Lit.wf, IntKind.min, IntKind.max, IntKind.signed, IntKind.bits] at h
  omega

theorem pick_any {B : Nat} {a : Option Addr} {len cap : Nat} {zs : List Int} {p : Nat} {w : World} (h : Reads B a len cap zs p w) (n : Int) (hp : p ≤ 1000000) (hn : 1 ≤ n) (hn' : n ≤ 256) :
    Calls Try.prog 31 #[.pointer (some ⟨B, 0, none⟩), .int .i64 n] w (Picked B n p w) := by
  have hs := h.short
  rcases h.row with ⟨rfl, rfl, rfl, rfl⟩ | ⟨x, rfl, hl, hm, hz, hcell, hwz⟩
  · exact pick_none B none 0 p n w h.slice h.count h.free hp hn hn'
  · by_cases h0 : len = 0
    · have hsl := h.slice
      rw [h0] at hsl
      exact pick_none B (some x) cap p n w hsl h.count h.free hp hn hn'
    · obtain ⟨b, off, spot⟩ := x
      have hspot : spot = none := by simpa [Addr.add] using World.cell?_spot (hcell 0 (by omega))
      subst hspot
      have hb : b ≠ B := by have := h.apart _ rfl (by omega); simp at this; omega
      have cellOf : ∀ i, i < len → ∃ c, w.cell? ⟨b, off + i, none⟩ = some (.int .u8 c) ∧ 0 ≤ c ∧ c ≤ 255 := by
        intro i hi
        have hi' : i < zs.length := by omega
        have ea : Addr.add ⟨b, off, none⟩ i = ⟨b, off + i, none⟩ := by unfold Addr.add; split <;> simp_all
        have hci := hcell i hi'
        rw [ea] at hci
        refine ⟨zs.getD i 0, hci, ?_⟩
        have : zs.getD i 0 ∈ zs := by simp [List.getD, hi']
        exact wf_u8 (hwz _ this)
      by_cases hnear : p < len
      · obtain ⟨c, hc, c0, c1⟩ := cellOf p hnear
        exact pick_near B b off len cap p n c w h.slice h.count h.free hb hnear hs hc c0 c1 hp hn hn'
      · have m1 : p % len < len := Nat.mod_lt _ (by omega)
        have m2 : (p * 7 + 3) % len < len := Nat.mod_lt _ (by omega)
        obtain ⟨c, hc, c0, c1⟩ := cellOf _ m1
        obtain ⟨d, hd, d0, d1⟩ := cellOf _ m2
        refine pick_far B b off len cap (p % len) ((p * 7 + 3) % len) (p / len) p n c d w h.slice h.count h.free hb (by omega) (by omega) hs m1 m2 (Nat.div_le_self _ _) ?_ ?_ ?_ hc c0 c1 hd d0 d1 hp hn hn'
        · exact Lib.hid (by rw [Int.tmod_eq_emod_of_nonneg (by omega)]; exact (Int.natCast_emod _ _).symm)
        · exact Lib.hid (by rw [Int.tmod_eq_emod_of_nonneg (by omega), show ((p : Int) * 7 + 3) = ((p * 7 + 3 : Nat) : Int) by omega]; exact (Int.natCast_emod _ _).symm)
        · exact Lib.hid (by rw [Int.tdiv_eq_ediv_of_nonneg (by omega)]; omega)

end Go.Proofs.Ytkeangeaemokhaa
