/-
  No cell of these rows narrows 'for every input' (looked for: loops, veiled, ifaces, maps, wideKeys, modest, calm, conditions, laid).
  DERIVED. THE GIVEN ROWS OF THIS SEAT. 10 by the template 'for every input the law returns true; each argument reads behind the call as it read before'; 0 by the template 'total and deterministic' (their statements: YtkjfffplalgmnaaTotals.lean).
  GIVEN WITH THE SEED: the statements are not yours to turn. If you find one false, say at which input.
  Laid BY PROGRAM, IN A SANDBOX (cutbox-rows.mjs): the forced cells as the released guide's own fill.sh prints them over the translation a2695333d59b1df9… (all of the seat's roots in one cut). By AI agents, Wed Nov 11 2026. No macro, syntax, notation, axiom, sorry.
-/
import Derived.Test.YtkjfffplalgmnaaChecked
import GoSem.Claim
import GoSem.ClaimJoined
import GoSem.ClaimMapViews
import Derived.JoinedTies
import Derived.KernelRfl
namespace Go.Proofs.Ytkjfffplalgmnaa
/- THE CELL 'sum', in the pinned program and in every row, IS THE sha256 OF THE DUMP (.gsa) THAT YtkjfffplalgmnaaProg.lean LOADS. Nothing in Lean hashes anything: it is a label: what it is worth is what the hold of that sum in a sandbox is worth. -/
noncomputable def Try.pinned : Pinned := { name := "ytkjfffplalgmnaa", sum := "a2695333d59b1df98891940d10f4f76e03cc7268b37979ac730f16d601121c62", checked := Try.checked }
namespace Rows
def none {H : Type} : Left H := { results := [], args := [] }

/-- 'laws.FnMaxInts': WHATEVER THE INPUT: true; the input reads as it did. -/
def fnMaxIntsSpec : ChangeSpec := { name := "fnMaxInts", fn := fun _ => fun
  | [d] => { results := [.lit (.bool true)], args := [d] }
  | _ => none }
def fnMaxIntsRow : OpenClaim := { program := "ytkjfffplalgmnaa", sum := "a2695333d59b1df98891940d10f4f76e03cc7268b37979ac730f16d601121c62", func := "loop.example/lib-comparemaps/laws.FnMaxInts", spec := "fnMaxInts", apart := false }
def FnMaxIntsSaid : Prop := fnMaxIntsRow.holds Try.pinned (OpenSpec.ofChange fnMaxIntsSpec)

/-- ITS FALSE NEIGHBOUR: 'it returns false'. Refute it at one input. -/
def fnMaxIntsWrong : ChangeSpec := { name := "fnMaxInts", fn := fun _ => fun
  | [d] => { results := [.lit (.bool false)], args := [d] }
  | _ => none }
def FnMaxIntsWrongFalsely : Prop := fnMaxIntsRow.holds Try.pinned (OpenSpec.ofChange fnMaxIntsWrong)

/-- 'laws.FnMinInts': WHATEVER THE INPUT: true; the input reads as it did. -/
def fnMinIntsSpec : ChangeSpec := { name := "fnMinInts", fn := fun _ => fun
  | [d] => { results := [.lit (.bool true)], args := [d] }
  | _ => none }
def fnMinIntsRow : OpenClaim := { program := "ytkjfffplalgmnaa", sum := "a2695333d59b1df98891940d10f4f76e03cc7268b37979ac730f16d601121c62", func := "loop.example/lib-comparemaps/laws.FnMinInts", spec := "fnMinInts", apart := false }
def FnMinIntsSaid : Prop := fnMinIntsRow.holds Try.pinned (OpenSpec.ofChange fnMinIntsSpec)

/-- ITS FALSE NEIGHBOUR: 'it returns false'. Refute it at one input. -/
def fnMinIntsWrong : ChangeSpec := { name := "fnMinInts", fn := fun _ => fun
  | [d] => { results := [.lit (.bool false)], args := [d] }
  | _ => none }
def FnMinIntsWrongFalsely : Prop := fnMinIntsRow.holds Try.pinned (OpenSpec.ofChange fnMinIntsWrong)

/-- 'laws.FnMaxInts3': WHATEVER THE INPUT: true; the input reads as it did. -/
def fnMaxInts3Spec : ChangeSpec := { name := "fnMaxInts3", fn := fun _ => fun
  | [d] => { results := [.lit (.bool true)], args := [d] }
  | _ => none }
def fnMaxInts3Row : OpenClaim := { program := "ytkjfffplalgmnaa", sum := "a2695333d59b1df98891940d10f4f76e03cc7268b37979ac730f16d601121c62", func := "loop.example/lib-comparemaps/laws.FnMaxInts3", spec := "fnMaxInts3", apart := false }
def FnMaxInts3Said : Prop := fnMaxInts3Row.holds Try.pinned (OpenSpec.ofChange fnMaxInts3Spec)

/-- ITS FALSE NEIGHBOUR: 'it returns false'. Refute it at one input. -/
def fnMaxInts3Wrong : ChangeSpec := { name := "fnMaxInts3", fn := fun _ => fun
  | [d] => { results := [.lit (.bool false)], args := [d] }
  | _ => none }
def FnMaxInts3WrongFalsely : Prop := fnMaxInts3Row.holds Try.pinned (OpenSpec.ofChange fnMaxInts3Wrong)

/-- 'laws.FnMaxIntsTurned': WHATEVER THE INPUT: true; the input reads as it did. -/
def fnMaxIntsTurnedSpec : ChangeSpec := { name := "fnMaxIntsTurned", fn := fun _ => fun
  | [d] => { results := [.lit (.bool true)], args := [d] }
  | _ => none }
def fnMaxIntsTurnedRow : OpenClaim := { program := "ytkjfffplalgmnaa", sum := "a2695333d59b1df98891940d10f4f76e03cc7268b37979ac730f16d601121c62", func := "loop.example/lib-comparemaps/laws.FnMaxIntsTurned", spec := "fnMaxIntsTurned", apart := false }
def FnMaxIntsTurnedSaid : Prop := fnMaxIntsTurnedRow.holds Try.pinned (OpenSpec.ofChange fnMaxIntsTurnedSpec)

/-- ITS FALSE NEIGHBOUR: 'it returns false'. Refute it at one input. -/
def fnMaxIntsTurnedWrong : ChangeSpec := { name := "fnMaxIntsTurned", fn := fun _ => fun
  | [d] => { results := [.lit (.bool false)], args := [d] }
  | _ => none }
def FnMaxIntsTurnedWrongFalsely : Prop := fnMaxIntsTurnedRow.holds Try.pinned (OpenSpec.ofChange fnMaxIntsTurnedWrong)

/-- 'laws.FnMinInts3': WHATEVER THE INPUT: true; the input reads as it did. -/
def fnMinInts3Spec : ChangeSpec := { name := "fnMinInts3", fn := fun _ => fun
  | [d] => { results := [.lit (.bool true)], args := [d] }
  | _ => none }
def fnMinInts3Row : OpenClaim := { program := "ytkjfffplalgmnaa", sum := "a2695333d59b1df98891940d10f4f76e03cc7268b37979ac730f16d601121c62", func := "loop.example/lib-comparemaps/laws.FnMinInts3", spec := "fnMinInts3", apart := false }
def FnMinInts3Said : Prop := fnMinInts3Row.holds Try.pinned (OpenSpec.ofChange fnMinInts3Spec)

/-- ITS FALSE NEIGHBOUR: 'it returns false'. Refute it at one input. -/
def fnMinInts3Wrong : ChangeSpec := { name := "fnMinInts3", fn := fun _ => fun
  | [d] => { results := [.lit (.bool false)], args := [d] }
  | _ => none }
def FnMinInts3WrongFalsely : Prop := fnMinInts3Row.holds Try.pinned (OpenSpec.ofChange fnMinInts3Wrong)

/-- 'laws.FnMinIntsTurned': WHATEVER THE INPUT: true; the input reads as it did. -/
def fnMinIntsTurnedSpec : ChangeSpec := { name := "fnMinIntsTurned", fn := fun _ => fun
  | [d] => { results := [.lit (.bool true)], args := [d] }
  | _ => none }
def fnMinIntsTurnedRow : OpenClaim := { program := "ytkjfffplalgmnaa", sum := "a2695333d59b1df98891940d10f4f76e03cc7268b37979ac730f16d601121c62", func := "loop.example/lib-comparemaps/laws.FnMinIntsTurned", spec := "fnMinIntsTurned", apart := false }
def FnMinIntsTurnedSaid : Prop := fnMinIntsTurnedRow.holds Try.pinned (OpenSpec.ofChange fnMinIntsTurnedSpec)

/-- ITS FALSE NEIGHBOUR: 'it returns false'. Refute it at one input. -/
def fnMinIntsTurnedWrong : ChangeSpec := { name := "fnMinIntsTurned", fn := fun _ => fun
  | [d] => { results := [.lit (.bool false)], args := [d] }
  | _ => none }
def FnMinIntsTurnedWrongFalsely : Prop := fnMinIntsTurnedRow.holds Try.pinned (OpenSpec.ofChange fnMinIntsTurnedWrong)

/-- 'laws.FnMinMaxIntsApart': WHATEVER THE INPUT: true; the input reads as it did. -/
def fnMinMaxIntsApartSpec : ChangeSpec := { name := "fnMinMaxIntsApart", fn := fun _ => fun
  | [d] => { results := [.lit (.bool true)], args := [d] }
  | _ => none }
def fnMinMaxIntsApartRow : OpenClaim := { program := "ytkjfffplalgmnaa", sum := "a2695333d59b1df98891940d10f4f76e03cc7268b37979ac730f16d601121c62", func := "loop.example/lib-comparemaps/laws.FnMinMaxIntsApart", spec := "fnMinMaxIntsApart", apart := false }
def FnMinMaxIntsApartSaid : Prop := fnMinMaxIntsApartRow.holds Try.pinned (OpenSpec.ofChange fnMinMaxIntsApartSpec)

/-- ITS FALSE NEIGHBOUR: 'it returns false'. Refute it at one input. -/
def fnMinMaxIntsApartWrong : ChangeSpec := { name := "fnMinMaxIntsApart", fn := fun _ => fun
  | [d] => { results := [.lit (.bool false)], args := [d] }
  | _ => none }
def FnMinMaxIntsApartWrongFalsely : Prop := fnMinMaxIntsApartRow.holds Try.pinned (OpenSpec.ofChange fnMinMaxIntsApartWrong)

/-- 'laws.FnMaxIntsOne': WHATEVER THE INPUT: true; the input reads as it did. -/
def fnMaxIntsOneSpec : ChangeSpec := { name := "fnMaxIntsOne", fn := fun _ => fun
  | [d] => { results := [.lit (.bool true)], args := [d] }
  | _ => none }
def fnMaxIntsOneRow : OpenClaim := { program := "ytkjfffplalgmnaa", sum := "a2695333d59b1df98891940d10f4f76e03cc7268b37979ac730f16d601121c62", func := "loop.example/lib-comparemaps/laws.FnMaxIntsOne", spec := "fnMaxIntsOne", apart := false }
def FnMaxIntsOneSaid : Prop := fnMaxIntsOneRow.holds Try.pinned (OpenSpec.ofChange fnMaxIntsOneSpec)

/-- ITS FALSE NEIGHBOUR: 'it returns false'. Refute it at one input. -/
def fnMaxIntsOneWrong : ChangeSpec := { name := "fnMaxIntsOne", fn := fun _ => fun
  | [d] => { results := [.lit (.bool false)], args := [d] }
  | _ => none }
def FnMaxIntsOneWrongFalsely : Prop := fnMaxIntsOneRow.holds Try.pinned (OpenSpec.ofChange fnMaxIntsOneWrong)

/-- 'laws.FnMinIntsOne': WHATEVER THE INPUT: true; the input reads as it did. -/
def fnMinIntsOneSpec : ChangeSpec := { name := "fnMinIntsOne", fn := fun _ => fun
  | [d] => { results := [.lit (.bool true)], args := [d] }
  | _ => none }
def fnMinIntsOneRow : OpenClaim := { program := "ytkjfffplalgmnaa", sum := "a2695333d59b1df98891940d10f4f76e03cc7268b37979ac730f16d601121c62", func := "loop.example/lib-comparemaps/laws.FnMinIntsOne", spec := "fnMinIntsOne", apart := false }
def FnMinIntsOneSaid : Prop := fnMinIntsOneRow.holds Try.pinned (OpenSpec.ofChange fnMinIntsOneSpec)

/-- ITS FALSE NEIGHBOUR: 'it returns false'. Refute it at one input. -/
def fnMinIntsOneWrong : ChangeSpec := { name := "fnMinIntsOne", fn := fun _ => fun
  | [d] => { results := [.lit (.bool false)], args := [d] }
  | _ => none }
def FnMinIntsOneWrongFalsely : Prop := fnMinIntsOneRow.holds Try.pinned (OpenSpec.ofChange fnMinIntsOneWrong)

/-- 'laws.FnMinMaxInts': WHATEVER THE INPUT: true; the input reads as it did. -/
def fnMinMaxIntsSpec : ChangeSpec := { name := "fnMinMaxInts", fn := fun _ => fun
  | [d] => { results := [.lit (.bool true)], args := [d] }
  | _ => none }
def fnMinMaxIntsRow : OpenClaim := { program := "ytkjfffplalgmnaa", sum := "a2695333d59b1df98891940d10f4f76e03cc7268b37979ac730f16d601121c62", func := "loop.example/lib-comparemaps/laws.FnMinMaxInts", spec := "fnMinMaxInts", apart := false }
def FnMinMaxIntsSaid : Prop := fnMinMaxIntsRow.holds Try.pinned (OpenSpec.ofChange fnMinMaxIntsSpec)

/-- ITS FALSE NEIGHBOUR: 'it returns false'. Refute it at one input. -/
def fnMinMaxIntsWrong : ChangeSpec := { name := "fnMinMaxInts", fn := fun _ => fun
  | [d] => { results := [.lit (.bool false)], args := [d] }
  | _ => none }
def FnMinMaxIntsWrongFalsely : Prop := fnMinMaxIntsRow.holds Try.pinned (OpenSpec.ofChange fnMinMaxIntsWrong)

/- THE SECOND FORM. 'bulk': how many values and letters a reading holds, each counted each time it is reached (what is shared counts as often as it is met; a slice's spare places count too). A statement '..UptoSaid' is the law's where the arguments, and the package variables that the reading takes, are together of bulk at most 1048576: NARROWER than '..Said'. Prove '..Said' where nothing that the law and all that it calls make is longer than what came in: it says more and counts as full. Else prove '..UptoSaid'. A law counts once. -/
mutual
def uptoBulk {H : Type} : DataW H → Nat
  | .lit (.string bytes) => bytes.length + 1
  | .lit _ => 1
  | .nil => 1
  | .ptr d => uptoBulk d + 1
  | .slice elems spare => uptoBulkAll elems + uptoBulkAll spare + 1
  | .agg parts => uptoBulkAll parts + 1
  | .iface _ d => uptoBulk d + 1
  | .map entries => uptoBulkEntries entries + 1
  | .held _ => 1
def uptoBulkAll {H : Type} : List (DataW H) → Nat
  | [] => 0
  | d :: r => uptoBulk d + uptoBulkAll r
def uptoBulkEntries {H : Type} : List (Lit × DataW H) → Nat
  | [] => 0
  | x :: r => uptoBulkEntry x + uptoBulkEntries r
def uptoBulkEntry {H : Type} : Lit × DataW H → Nat
  | (.string bytes, d) => bytes.length + uptoBulk d + 1
  | (_, d) => uptoBulk d + 1
 end
def uptoSmall : (H : Type) → List (DataW H) → Bool := fun _ ds => decide (uptoBulkAll ds ≤ 1048576)
def OpenSpec.upto (s : _root_.Go.ChangeSpec) : _root_.Go.OpenSpec := { _root_.Go.OpenSpec.ofChange s with cond := some uptoSmall }

/-- 'laws.FnMaxInts', WHERE WHAT IT READS IS OF BULK AT MOST 1048576: true; the input reads as it did. -/
def fnMaxIntsUptoRow : OpenClaim := { program := "ytkjfffplalgmnaa", sum := "a2695333d59b1df98891940d10f4f76e03cc7268b37979ac730f16d601121c62", func := "loop.example/lib-comparemaps/laws.FnMaxInts", spec := "fnMaxInts", apart := false, narrowed := true }
def FnMaxIntsUptoSaid : Prop := fnMaxIntsUptoRow.holds Try.pinned (OpenSpec.upto fnMaxIntsSpec)

/-- 'laws.FnMinInts', WHERE WHAT IT READS IS OF BULK AT MOST 1048576: true; the input reads as it did. -/
def fnMinIntsUptoRow : OpenClaim := { program := "ytkjfffplalgmnaa", sum := "a2695333d59b1df98891940d10f4f76e03cc7268b37979ac730f16d601121c62", func := "loop.example/lib-comparemaps/laws.FnMinInts", spec := "fnMinInts", apart := false, narrowed := true }
def FnMinIntsUptoSaid : Prop := fnMinIntsUptoRow.holds Try.pinned (OpenSpec.upto fnMinIntsSpec)

/-- 'laws.FnMaxInts3', WHERE WHAT IT READS IS OF BULK AT MOST 1048576: true; the input reads as it did. -/
def fnMaxInts3UptoRow : OpenClaim := { program := "ytkjfffplalgmnaa", sum := "a2695333d59b1df98891940d10f4f76e03cc7268b37979ac730f16d601121c62", func := "loop.example/lib-comparemaps/laws.FnMaxInts3", spec := "fnMaxInts3", apart := false, narrowed := true }
def FnMaxInts3UptoSaid : Prop := fnMaxInts3UptoRow.holds Try.pinned (OpenSpec.upto fnMaxInts3Spec)

/-- 'laws.FnMaxIntsTurned', WHERE WHAT IT READS IS OF BULK AT MOST 1048576: true; the input reads as it did. -/
def fnMaxIntsTurnedUptoRow : OpenClaim := { program := "ytkjfffplalgmnaa", sum := "a2695333d59b1df98891940d10f4f76e03cc7268b37979ac730f16d601121c62", func := "loop.example/lib-comparemaps/laws.FnMaxIntsTurned", spec := "fnMaxIntsTurned", apart := false, narrowed := true }
def FnMaxIntsTurnedUptoSaid : Prop := fnMaxIntsTurnedUptoRow.holds Try.pinned (OpenSpec.upto fnMaxIntsTurnedSpec)

/-- 'laws.FnMinInts3', WHERE WHAT IT READS IS OF BULK AT MOST 1048576: true; the input reads as it did. -/
def fnMinInts3UptoRow : OpenClaim := { program := "ytkjfffplalgmnaa", sum := "a2695333d59b1df98891940d10f4f76e03cc7268b37979ac730f16d601121c62", func := "loop.example/lib-comparemaps/laws.FnMinInts3", spec := "fnMinInts3", apart := false, narrowed := true }
def FnMinInts3UptoSaid : Prop := fnMinInts3UptoRow.holds Try.pinned (OpenSpec.upto fnMinInts3Spec)

/-- 'laws.FnMinIntsTurned', WHERE WHAT IT READS IS OF BULK AT MOST 1048576: true; the input reads as it did. -/
def fnMinIntsTurnedUptoRow : OpenClaim := { program := "ytkjfffplalgmnaa", sum := "a2695333d59b1df98891940d10f4f76e03cc7268b37979ac730f16d601121c62", func := "loop.example/lib-comparemaps/laws.FnMinIntsTurned", spec := "fnMinIntsTurned", apart := false, narrowed := true }
def FnMinIntsTurnedUptoSaid : Prop := fnMinIntsTurnedUptoRow.holds Try.pinned (OpenSpec.upto fnMinIntsTurnedSpec)

/-- 'laws.FnMinMaxIntsApart', WHERE WHAT IT READS IS OF BULK AT MOST 1048576: true; the input reads as it did. -/
def fnMinMaxIntsApartUptoRow : OpenClaim := { program := "ytkjfffplalgmnaa", sum := "a2695333d59b1df98891940d10f4f76e03cc7268b37979ac730f16d601121c62", func := "loop.example/lib-comparemaps/laws.FnMinMaxIntsApart", spec := "fnMinMaxIntsApart", apart := false, narrowed := true }
def FnMinMaxIntsApartUptoSaid : Prop := fnMinMaxIntsApartUptoRow.holds Try.pinned (OpenSpec.upto fnMinMaxIntsApartSpec)

/-- 'laws.FnMaxIntsOne', WHERE WHAT IT READS IS OF BULK AT MOST 1048576: true; the input reads as it did. -/
def fnMaxIntsOneUptoRow : OpenClaim := { program := "ytkjfffplalgmnaa", sum := "a2695333d59b1df98891940d10f4f76e03cc7268b37979ac730f16d601121c62", func := "loop.example/lib-comparemaps/laws.FnMaxIntsOne", spec := "fnMaxIntsOne", apart := false, narrowed := true }
def FnMaxIntsOneUptoSaid : Prop := fnMaxIntsOneUptoRow.holds Try.pinned (OpenSpec.upto fnMaxIntsOneSpec)

/-- 'laws.FnMinIntsOne', WHERE WHAT IT READS IS OF BULK AT MOST 1048576: true; the input reads as it did. -/
def fnMinIntsOneUptoRow : OpenClaim := { program := "ytkjfffplalgmnaa", sum := "a2695333d59b1df98891940d10f4f76e03cc7268b37979ac730f16d601121c62", func := "loop.example/lib-comparemaps/laws.FnMinIntsOne", spec := "fnMinIntsOne", apart := false, narrowed := true }
def FnMinIntsOneUptoSaid : Prop := fnMinIntsOneUptoRow.holds Try.pinned (OpenSpec.upto fnMinIntsOneSpec)

/-- 'laws.FnMinMaxInts', WHERE WHAT IT READS IS OF BULK AT MOST 1048576: true; the input reads as it did. -/
def fnMinMaxIntsUptoRow : OpenClaim := { program := "ytkjfffplalgmnaa", sum := "a2695333d59b1df98891940d10f4f76e03cc7268b37979ac730f16d601121c62", func := "loop.example/lib-comparemaps/laws.FnMinMaxInts", spec := "fnMinMaxInts", apart := false, narrowed := true }
def FnMinMaxIntsUptoSaid : Prop := fnMinMaxIntsUptoRow.holds Try.pinned (OpenSpec.upto fnMinMaxIntsSpec)

end Rows
end Go.Proofs.Ytkjfffplalgmnaa
