/-
  No cell of these rows narrows 'for every input' (looked for: loops, veiled, ifaces, maps, wideKeys, modest, calm, conditions, laid).
  DERIVED. THE GIVEN ROWS OF THIS SEAT. 10 by the template 'for every input the law returns true; each argument reads behind the call as it read before'; 0 by the template 'total and deterministic' (their statements: YtblelcdokoaccaaTotals.lean).
  GIVEN WITH THE SEED: the statements are not yours to turn. If you find one false, say at which input.
  Laid BY PROGRAM, IN A SANDBOX (cutbox-rows.mjs): the forced cells as the released guide's own fill.sh prints them over the translation c12436a2778e4e96… (all of the seat's roots in one cut). By AI agents, Wed Nov 11 2026. No macro, syntax, notation, axiom, sorry.
-/
import Derived.Test.YtblelcdokoaccaaChecked
import GoSem.Claim
import GoSem.ClaimJoined
import GoSem.ClaimMapViews
import Derived.JoinedTies
import Derived.KernelRfl
namespace Go.Proofs.Ytblelcdokoaccaa
/- THE CELL 'sum', in the pinned program and in every row, IS THE sha256 OF THE DUMP (.gsa) THAT YtblelcdokoaccaaProg.lean LOADS. Nothing in Lean hashes anything: it is a label: what it is worth is what the hold of that sum in a sandbox is worth. -/
noncomputable def Try.pinned : Pinned := { name := "ytblelcdokoaccaa", sum := "c12436a2778e4e9676530291fee5f48bf412d5b48ec20a2533dadb03bd1b8d52", checked := Try.checked }
namespace Rows
def none {H : Type} : Left H := { results := [], args := [] }

/-- 'laws.FnMaxTexts': WHATEVER THE INPUT: true; the input reads as it did. -/
def fnMaxTextsSpec : ChangeSpec := { name := "fnMaxTexts", fn := fun _ => fun
  | [d] => { results := [.lit (.bool true)], args := [d] }
  | _ => none }
def fnMaxTextsRow : OpenClaim := { program := "ytblelcdokoaccaa", sum := "c12436a2778e4e9676530291fee5f48bf412d5b48ec20a2533dadb03bd1b8d52", func := "loop.example/lib-comparemaps/laws.FnMaxTexts", spec := "fnMaxTexts", apart := false }
def FnMaxTextsSaid : Prop := fnMaxTextsRow.holds Try.pinned (OpenSpec.ofChange fnMaxTextsSpec)

/-- ITS FALSE NEIGHBOUR: 'it returns false'. Refute it at one input. -/
def fnMaxTextsWrong : ChangeSpec := { name := "fnMaxTexts", fn := fun _ => fun
  | [d] => { results := [.lit (.bool false)], args := [d] }
  | _ => none }
def FnMaxTextsWrongFalsely : Prop := fnMaxTextsRow.holds Try.pinned (OpenSpec.ofChange fnMaxTextsWrong)

/-- 'laws.FnMinTexts': WHATEVER THE INPUT: true; the input reads as it did. -/
def fnMinTextsSpec : ChangeSpec := { name := "fnMinTexts", fn := fun _ => fun
  | [d] => { results := [.lit (.bool true)], args := [d] }
  | _ => none }
def fnMinTextsRow : OpenClaim := { program := "ytblelcdokoaccaa", sum := "c12436a2778e4e9676530291fee5f48bf412d5b48ec20a2533dadb03bd1b8d52", func := "loop.example/lib-comparemaps/laws.FnMinTexts", spec := "fnMinTexts", apart := false }
def FnMinTextsSaid : Prop := fnMinTextsRow.holds Try.pinned (OpenSpec.ofChange fnMinTextsSpec)

/-- ITS FALSE NEIGHBOUR: 'it returns false'. Refute it at one input. -/
def fnMinTextsWrong : ChangeSpec := { name := "fnMinTexts", fn := fun _ => fun
  | [d] => { results := [.lit (.bool false)], args := [d] }
  | _ => none }
def FnMinTextsWrongFalsely : Prop := fnMinTextsRow.holds Try.pinned (OpenSpec.ofChange fnMinTextsWrong)

/-- 'laws.FnMaxTexts3': WHATEVER THE INPUT: true; the input reads as it did. -/
def fnMaxTexts3Spec : ChangeSpec := { name := "fnMaxTexts3", fn := fun _ => fun
  | [d] => { results := [.lit (.bool true)], args := [d] }
  | _ => none }
def fnMaxTexts3Row : OpenClaim := { program := "ytblelcdokoaccaa", sum := "c12436a2778e4e9676530291fee5f48bf412d5b48ec20a2533dadb03bd1b8d52", func := "loop.example/lib-comparemaps/laws.FnMaxTexts3", spec := "fnMaxTexts3", apart := false }
def FnMaxTexts3Said : Prop := fnMaxTexts3Row.holds Try.pinned (OpenSpec.ofChange fnMaxTexts3Spec)

/-- ITS FALSE NEIGHBOUR: 'it returns false'. Refute it at one input. -/
def fnMaxTexts3Wrong : ChangeSpec := { name := "fnMaxTexts3", fn := fun _ => fun
  | [d] => { results := [.lit (.bool false)], args := [d] }
  | _ => none }
def FnMaxTexts3WrongFalsely : Prop := fnMaxTexts3Row.holds Try.pinned (OpenSpec.ofChange fnMaxTexts3Wrong)

/-- 'laws.FnMaxTextsTurned': WHATEVER THE INPUT: true; the input reads as it did. -/
def fnMaxTextsTurnedSpec : ChangeSpec := { name := "fnMaxTextsTurned", fn := fun _ => fun
  | [d] => { results := [.lit (.bool true)], args := [d] }
  | _ => none }
def fnMaxTextsTurnedRow : OpenClaim := { program := "ytblelcdokoaccaa", sum := "c12436a2778e4e9676530291fee5f48bf412d5b48ec20a2533dadb03bd1b8d52", func := "loop.example/lib-comparemaps/laws.FnMaxTextsTurned", spec := "fnMaxTextsTurned", apart := false }
def FnMaxTextsTurnedSaid : Prop := fnMaxTextsTurnedRow.holds Try.pinned (OpenSpec.ofChange fnMaxTextsTurnedSpec)

/-- ITS FALSE NEIGHBOUR: 'it returns false'. Refute it at one input. -/
def fnMaxTextsTurnedWrong : ChangeSpec := { name := "fnMaxTextsTurned", fn := fun _ => fun
  | [d] => { results := [.lit (.bool false)], args := [d] }
  | _ => none }
def FnMaxTextsTurnedWrongFalsely : Prop := fnMaxTextsTurnedRow.holds Try.pinned (OpenSpec.ofChange fnMaxTextsTurnedWrong)

/-- 'laws.FnMinMaxTextsApart': WHATEVER THE INPUT: true; the input reads as it did. -/
def fnMinMaxTextsApartSpec : ChangeSpec := { name := "fnMinMaxTextsApart", fn := fun _ => fun
  | [d] => { results := [.lit (.bool true)], args := [d] }
  | _ => none }
def fnMinMaxTextsApartRow : OpenClaim := { program := "ytblelcdokoaccaa", sum := "c12436a2778e4e9676530291fee5f48bf412d5b48ec20a2533dadb03bd1b8d52", func := "loop.example/lib-comparemaps/laws.FnMinMaxTextsApart", spec := "fnMinMaxTextsApart", apart := false }
def FnMinMaxTextsApartSaid : Prop := fnMinMaxTextsApartRow.holds Try.pinned (OpenSpec.ofChange fnMinMaxTextsApartSpec)

/-- ITS FALSE NEIGHBOUR: 'it returns false'. Refute it at one input. -/
def fnMinMaxTextsApartWrong : ChangeSpec := { name := "fnMinMaxTextsApart", fn := fun _ => fun
  | [d] => { results := [.lit (.bool false)], args := [d] }
  | _ => none }
def FnMinMaxTextsApartWrongFalsely : Prop := fnMinMaxTextsApartRow.holds Try.pinned (OpenSpec.ofChange fnMinMaxTextsApartWrong)

/-- 'laws.FnMinTexts3': WHATEVER THE INPUT: true; the input reads as it did. -/
def fnMinTexts3Spec : ChangeSpec := { name := "fnMinTexts3", fn := fun _ => fun
  | [d] => { results := [.lit (.bool true)], args := [d] }
  | _ => none }
def fnMinTexts3Row : OpenClaim := { program := "ytblelcdokoaccaa", sum := "c12436a2778e4e9676530291fee5f48bf412d5b48ec20a2533dadb03bd1b8d52", func := "loop.example/lib-comparemaps/laws.FnMinTexts3", spec := "fnMinTexts3", apart := false }
def FnMinTexts3Said : Prop := fnMinTexts3Row.holds Try.pinned (OpenSpec.ofChange fnMinTexts3Spec)

/-- ITS FALSE NEIGHBOUR: 'it returns false'. Refute it at one input. -/
def fnMinTexts3Wrong : ChangeSpec := { name := "fnMinTexts3", fn := fun _ => fun
  | [d] => { results := [.lit (.bool false)], args := [d] }
  | _ => none }
def FnMinTexts3WrongFalsely : Prop := fnMinTexts3Row.holds Try.pinned (OpenSpec.ofChange fnMinTexts3Wrong)

/-- 'laws.FnMinTextsTurned': WHATEVER THE INPUT: true; the input reads as it did. -/
def fnMinTextsTurnedSpec : ChangeSpec := { name := "fnMinTextsTurned", fn := fun _ => fun
  | [d] => { results := [.lit (.bool true)], args := [d] }
  | _ => none }
def fnMinTextsTurnedRow : OpenClaim := { program := "ytblelcdokoaccaa", sum := "c12436a2778e4e9676530291fee5f48bf412d5b48ec20a2533dadb03bd1b8d52", func := "loop.example/lib-comparemaps/laws.FnMinTextsTurned", spec := "fnMinTextsTurned", apart := false }
def FnMinTextsTurnedSaid : Prop := fnMinTextsTurnedRow.holds Try.pinned (OpenSpec.ofChange fnMinTextsTurnedSpec)

/-- ITS FALSE NEIGHBOUR: 'it returns false'. Refute it at one input. -/
def fnMinTextsTurnedWrong : ChangeSpec := { name := "fnMinTextsTurned", fn := fun _ => fun
  | [d] => { results := [.lit (.bool false)], args := [d] }
  | _ => none }
def FnMinTextsTurnedWrongFalsely : Prop := fnMinTextsTurnedRow.holds Try.pinned (OpenSpec.ofChange fnMinTextsTurnedWrong)

/-- 'laws.FnMaxTextsOne': WHATEVER THE INPUT: true; the input reads as it did. -/
def fnMaxTextsOneSpec : ChangeSpec := { name := "fnMaxTextsOne", fn := fun _ => fun
  | [d] => { results := [.lit (.bool true)], args := [d] }
  | _ => none }
def fnMaxTextsOneRow : OpenClaim := { program := "ytblelcdokoaccaa", sum := "c12436a2778e4e9676530291fee5f48bf412d5b48ec20a2533dadb03bd1b8d52", func := "loop.example/lib-comparemaps/laws.FnMaxTextsOne", spec := "fnMaxTextsOne", apart := false }
def FnMaxTextsOneSaid : Prop := fnMaxTextsOneRow.holds Try.pinned (OpenSpec.ofChange fnMaxTextsOneSpec)

/-- ITS FALSE NEIGHBOUR: 'it returns false'. Refute it at one input. -/
def fnMaxTextsOneWrong : ChangeSpec := { name := "fnMaxTextsOne", fn := fun _ => fun
  | [d] => { results := [.lit (.bool false)], args := [d] }
  | _ => none }
def FnMaxTextsOneWrongFalsely : Prop := fnMaxTextsOneRow.holds Try.pinned (OpenSpec.ofChange fnMaxTextsOneWrong)

/-- 'laws.FnMinTextsOne': WHATEVER THE INPUT: true; the input reads as it did. -/
def fnMinTextsOneSpec : ChangeSpec := { name := "fnMinTextsOne", fn := fun _ => fun
  | [d] => { results := [.lit (.bool true)], args := [d] }
  | _ => none }
def fnMinTextsOneRow : OpenClaim := { program := "ytblelcdokoaccaa", sum := "c12436a2778e4e9676530291fee5f48bf412d5b48ec20a2533dadb03bd1b8d52", func := "loop.example/lib-comparemaps/laws.FnMinTextsOne", spec := "fnMinTextsOne", apart := false }
def FnMinTextsOneSaid : Prop := fnMinTextsOneRow.holds Try.pinned (OpenSpec.ofChange fnMinTextsOneSpec)

/-- ITS FALSE NEIGHBOUR: 'it returns false'. Refute it at one input. -/
def fnMinTextsOneWrong : ChangeSpec := { name := "fnMinTextsOne", fn := fun _ => fun
  | [d] => { results := [.lit (.bool false)], args := [d] }
  | _ => none }
def FnMinTextsOneWrongFalsely : Prop := fnMinTextsOneRow.holds Try.pinned (OpenSpec.ofChange fnMinTextsOneWrong)

/-- 'laws.FnMinMaxTexts': WHATEVER THE INPUT: true; the input reads as it did. -/
def fnMinMaxTextsSpec : ChangeSpec := { name := "fnMinMaxTexts", fn := fun _ => fun
  | [d] => { results := [.lit (.bool true)], args := [d] }
  | _ => none }
def fnMinMaxTextsRow : OpenClaim := { program := "ytblelcdokoaccaa", sum := "c12436a2778e4e9676530291fee5f48bf412d5b48ec20a2533dadb03bd1b8d52", func := "loop.example/lib-comparemaps/laws.FnMinMaxTexts", spec := "fnMinMaxTexts", apart := false }
def FnMinMaxTextsSaid : Prop := fnMinMaxTextsRow.holds Try.pinned (OpenSpec.ofChange fnMinMaxTextsSpec)

/-- ITS FALSE NEIGHBOUR: 'it returns false'. Refute it at one input. -/
def fnMinMaxTextsWrong : ChangeSpec := { name := "fnMinMaxTexts", fn := fun _ => fun
  | [d] => { results := [.lit (.bool false)], args := [d] }
  | _ => none }
def FnMinMaxTextsWrongFalsely : Prop := fnMinMaxTextsRow.holds Try.pinned (OpenSpec.ofChange fnMinMaxTextsWrong)

/- THE SECOND FORM. 'bulk': how many values and letters a reading holds, each counted each time it is reached (what is shared counts as often as it is met; a slice's spare places count too). A statement '..UptoSaid' is the law's where the arguments, and the package variables that the reading takes, are together of bulk at most 1048576: NARROWER than '..Said'. Prove '..Said' where nothing that the law and all that it calls make is longer than what came in: it says more and counts as full. Else prove '..UptoSaid'. A law counts once. -/
mutual
def uptoBulk {H : Type} : DataW H → Nat
  | .lit (.string bytes) => bytes.length + 1
  | .lit _ => 1
  | .nil => 1
  | .ptr d => uptoBulk d + 1
  | .slice elems spare => uptoBulkAll elems + uptoBulkAll spare + 1
  | .agg parts => uptoBulkAll parts + 1
  | .iface _ d => uptoBulk d + 1
  | .map entries => uptoBulkEntries entries + 1
  | .held _ => 1
def uptoBulkAll {H : Type} : List (DataW H) → Nat
  | [] => 0
  | d :: r => uptoBulk d + uptoBulkAll r
def uptoBulkEntries {H : Type} : List (Lit × DataW H) → Nat
  | [] => 0
  | x :: r => uptoBulkEntry x + uptoBulkEntries r
def uptoBulkEntry {H : Type} : Lit × DataW H → Nat
  | (.string bytes, d) => bytes.length + uptoBulk d + 1
  | (_, d) => uptoBulk d + 1
 end
def uptoSmall : (H : Type) → List (DataW H) → Bool := fun _ ds => decide (uptoBulkAll ds ≤ 1048576)
def OpenSpec.upto (s : _root_.Go.ChangeSpec) : _root_.Go.OpenSpec := { _root_.Go.OpenSpec.ofChange s with cond := some uptoSmall }

/-- 'laws.FnMaxTexts', WHERE WHAT IT READS IS OF BULK AT MOST 1048576: true; the input reads as it did. -/
def fnMaxTextsUptoRow : OpenClaim := { program := "ytblelcdokoaccaa", sum := "c12436a2778e4e9676530291fee5f48bf412d5b48ec20a2533dadb03bd1b8d52", func := "loop.example/lib-comparemaps/laws.FnMaxTexts", spec := "fnMaxTexts", apart := false, narrowed := true }
def FnMaxTextsUptoSaid : Prop := fnMaxTextsUptoRow.holds Try.pinned (OpenSpec.upto fnMaxTextsSpec)

/-- 'laws.FnMinTexts', WHERE WHAT IT READS IS OF BULK AT MOST 1048576: true; the input reads as it did. -/
def fnMinTextsUptoRow : OpenClaim := { program := "ytblelcdokoaccaa", sum := "c12436a2778e4e9676530291fee5f48bf412d5b48ec20a2533dadb03bd1b8d52", func := "loop.example/lib-comparemaps/laws.FnMinTexts", spec := "fnMinTexts", apart := false, narrowed := true }
def FnMinTextsUptoSaid : Prop := fnMinTextsUptoRow.holds Try.pinned (OpenSpec.upto fnMinTextsSpec)

/-- 'laws.FnMaxTexts3', WHERE WHAT IT READS IS OF BULK AT MOST 1048576: true; the input reads as it did. -/
def fnMaxTexts3UptoRow : OpenClaim := { program := "ytblelcdokoaccaa", sum := "c12436a2778e4e9676530291fee5f48bf412d5b48ec20a2533dadb03bd1b8d52", func := "loop.example/lib-comparemaps/laws.FnMaxTexts3", spec := "fnMaxTexts3", apart := false, narrowed := true }
def FnMaxTexts3UptoSaid : Prop := fnMaxTexts3UptoRow.holds Try.pinned (OpenSpec.upto fnMaxTexts3Spec)

/-- 'laws.FnMaxTextsTurned', WHERE WHAT IT READS IS OF BULK AT MOST 1048576: true; the input reads as it did. -/
def fnMaxTextsTurnedUptoRow : OpenClaim := { program := "ytblelcdokoaccaa", sum := "c12436a2778e4e9676530291fee5f48bf412d5b48ec20a2533dadb03bd1b8d52", func := "loop.example/lib-comparemaps/laws.FnMaxTextsTurned", spec := "fnMaxTextsTurned", apart := false, narrowed := true }
def FnMaxTextsTurnedUptoSaid : Prop := fnMaxTextsTurnedUptoRow.holds Try.pinned (OpenSpec.upto fnMaxTextsTurnedSpec)

/-- 'laws.FnMinMaxTextsApart', WHERE WHAT IT READS IS OF BULK AT MOST 1048576: true; the input reads as it did. -/
def fnMinMaxTextsApartUptoRow : OpenClaim := { program := "ytblelcdokoaccaa", sum := "c12436a2778e4e9676530291fee5f48bf412d5b48ec20a2533dadb03bd1b8d52", func := "loop.example/lib-comparemaps/laws.FnMinMaxTextsApart", spec := "fnMinMaxTextsApart", apart := false, narrowed := true }
def FnMinMaxTextsApartUptoSaid : Prop := fnMinMaxTextsApartUptoRow.holds Try.pinned (OpenSpec.upto fnMinMaxTextsApartSpec)

/-- 'laws.FnMinTexts3', WHERE WHAT IT READS IS OF BULK AT MOST 1048576: true; the input reads as it did. -/
def fnMinTexts3UptoRow : OpenClaim := { program := "ytblelcdokoaccaa", sum := "c12436a2778e4e9676530291fee5f48bf412d5b48ec20a2533dadb03bd1b8d52", func := "loop.example/lib-comparemaps/laws.FnMinTexts3", spec := "fnMinTexts3", apart := false, narrowed := true }
def FnMinTexts3UptoSaid : Prop := fnMinTexts3UptoRow.holds Try.pinned (OpenSpec.upto fnMinTexts3Spec)

/-- 'laws.FnMinTextsTurned', WHERE WHAT IT READS IS OF BULK AT MOST 1048576: true; the input reads as it did. -/
def fnMinTextsTurnedUptoRow : OpenClaim := { program := "ytblelcdokoaccaa", sum := "c12436a2778e4e9676530291fee5f48bf412d5b48ec20a2533dadb03bd1b8d52", func := "loop.example/lib-comparemaps/laws.FnMinTextsTurned", spec := "fnMinTextsTurned", apart := false, narrowed := true }
def FnMinTextsTurnedUptoSaid : Prop := fnMinTextsTurnedUptoRow.holds Try.pinned (OpenSpec.upto fnMinTextsTurnedSpec)

/-- 'laws.FnMaxTextsOne', WHERE WHAT IT READS IS OF BULK AT MOST 1048576: true; the input reads as it did. -/
def fnMaxTextsOneUptoRow : OpenClaim := { program := "ytblelcdokoaccaa", sum := "c12436a2778e4e9676530291fee5f48bf412d5b48ec20a2533dadb03bd1b8d52", func := "loop.example/lib-comparemaps/laws.FnMaxTextsOne", spec := "fnMaxTextsOne", apart := false, narrowed := true }
def FnMaxTextsOneUptoSaid : Prop := fnMaxTextsOneUptoRow.holds Try.pinned (OpenSpec.upto fnMaxTextsOneSpec)

/-- 'laws.FnMinTextsOne', WHERE WHAT IT READS IS OF BULK AT MOST 1048576: true; the input reads as it did. -/
def fnMinTextsOneUptoRow : OpenClaim := { program := "ytblelcdokoaccaa", sum := "c12436a2778e4e9676530291fee5f48bf412d5b48ec20a2533dadb03bd1b8d52", func := "loop.example/lib-comparemaps/laws.FnMinTextsOne", spec := "fnMinTextsOne", apart := false, narrowed := true }
def FnMinTextsOneUptoSaid : Prop := fnMinTextsOneUptoRow.holds Try.pinned (OpenSpec.upto fnMinTextsOneSpec)

/-- 'laws.FnMinMaxTexts', WHERE WHAT IT READS IS OF BULK AT MOST 1048576: true; the input reads as it did. -/
def fnMinMaxTextsUptoRow : OpenClaim := { program := "ytblelcdokoaccaa", sum := "c12436a2778e4e9676530291fee5f48bf412d5b48ec20a2533dadb03bd1b8d52", func := "loop.example/lib-comparemaps/laws.FnMinMaxTexts", spec := "fnMinMaxTexts", apart := false, narrowed := true }
def FnMinMaxTextsUptoSaid : Prop := fnMinMaxTextsUptoRow.holds Try.pinned (OpenSpec.upto fnMinMaxTextsSpec)

end Rows
end Go.Proofs.Ytblelcdokoaccaa
