/-
  Words and small laws that all texts of this seat share: a slice of bytes that came in; the smaller and the larger of two whole numbers. No condition.
-/
import Derived.Test.YtkeangeaemokhaaRows
import Derived.WalkKit
import Derived.Below
namespace Go.Proofs.Ytkeangeaemokhaa
open Go.RowKit

/-- A slice of integers that came in: it is nil, or it leads to a row of cells that hold numbers of the kind. -/
def IsRow (k : IntKind) (w : World) (a : Option Addr) (len cap : Nat) (zs : List Int) : Prop :=
  (a = none ∧ len = 0 ∧ cap = 0 ∧ zs = []) ∨
  ∃ x, a = some x ∧ len ≤ cap ∧ cap ≤ maxLen ∧ zs.length = cap ∧ (∀ i, i < zs.length → w.cell? (x.add i) = some (.int k (zs.getD i 0))) ∧ ∀ n ∈ zs, (Lit.int k n).wf = true

theorem ret_int {k : IntKind} {a b : Int} (h : a = b) : Ending.returned (.int k a) = .returned (.int k b) := by rw [h]
theorem ret_bool {a b : Bool} (h : a = b) : Ending.returned (.bool a) = .returned (.bool b) := by rw [h]

def imin (a b : Int) : Int := if b < a then b else a
def imax (a b : Int) : Int := if b > a then b else a

theorem imin_cases (a b : Int) : (b < a ∧ imin a b = b) ∨ (a ≤ b ∧ imin a b = a) := by unfold imin; split <;> omega
theorem imax_cases (a b : Int) : (a < b ∧ imax a b = b) ∨ (b ≤ a ∧ imax a b = a) := by unfold imax; split <;> omega
theorem imin_lt {a b : Int} (h : a < b) : imin a b = a := by have := imin_cases a b; omega
theorem imin_ge {a b : Int} (h : ¬ a < b) : imin a b = b := by have := imin_cases a b; omega
theorem imax_gt {a b : Int} (h : b < a) : imax a b = a := by have := imax_cases a b; omega
theorem imax_le {a b : Int} (h : ¬ b < a) : imax a b = b := by have := imax_cases a b; omega
theorem imin_comm (a b : Int) : imin a b = imin b a := by have := imin_cases a b; have := imin_cases b a; omega
theorem imax_comm (a b : Int) : imax a b = imax b a := by have := imax_cases a b; have := imax_cases b a; omega
theorem imin_assoc (a b c : Int) : imin (imin a b) c = imin a (imin b c) := by
  have h1 := imin_cases a b; have h2 := imin_cases b c; have h3 := imin_cases (imin a b) c; have h4 := imin_cases a (imin b c); omega
theorem imax_assoc (a b c : Int) : imax (imax a b) c = imax a (imax b c) := by
  have h1 := imax_cases a b; have h2 := imax_cases b c; have h3 := imax_cases (imax a b) c; have h4 := imax_cases a (imax b c); omega
theorem imin_self (a : Int) : imin a a = a := by have := imin_cases a a; omega
theorem imax_self (a : Int) : imax a a = a := by have := imax_cases a a; omega
theorem imin_turn (a b c : Int) : imin (imin a b) c = imin (imin c a) b := by rw [imin_comm c a, imin_assoc a c b, imin_comm c b, ← imin_assoc]
theorem imax_turn (a b c : Int) : imax (imax a b) c = imax (imax c a) b := by rw [imax_comm c a, imax_assoc a c b, imax_comm c b, ← imax_assoc]
theorem imin_swap (a b c : Int) : imin (imin a b) c = imin (imin b a) c := by rw [imin_comm a b]
theorem imax_swap (a b c : Int) : imax (imax a b) c = imax (imax b a) c := by rw [imax_comm a b]

end Go.Proofs.Ytkeangeaemokhaa
