/-
  No cell of these rows narrows 'for every input' (looked for: loops, veiled, ifaces, maps, wideKeys, modest, calm, conditions, laid).
  DERIVED. THE GIVEN ROWS OF THIS SEAT. 10 by the template 'for every input the law returns true; each argument reads behind the call as it read before'; 0 by the template 'total and deterministic' (their statements: YtdeaigeimakolaaTotals.lean).
  GIVEN WITH THE SEED: the statements are not yours to turn. If you find one false, say at which input.
  Laid BY PROGRAM, IN A SANDBOX (cutbox-rows.mjs): the forced cells as the released guide's own fill.sh prints them over the translation d5a9b4a34803942b… (all of the seat's roots in one cut). By AI agents, Wed Nov 11 2026. No macro, syntax, notation, axiom, sorry.
-/
import Derived.Test.YtdeaigeimakolaaChecked
import GoSem.Claim
import GoSem.ClaimJoined
import GoSem.ClaimMapViews
import Derived.JoinedTies
import Derived.KernelRfl
namespace Go.Proofs.Ytdeaigeimakolaa
/- THE CELL 'sum', in the pinned program and in every row, IS THE sha256 OF THE DUMP (.gsa) THAT YtdeaigeimakolaaProg.lean LOADS. Nothing in Lean hashes anything: it is a label: what it is worth is what the hold of that sum in a sandbox is worth. -/
noncomputable def Try.pinned : Pinned := { name := "ytdeaigeimakolaa", sum := "d5a9b4a34803942bccc6d703d23251942c6060da1a7c5671de7559b88bd7d097", checked := Try.checked }
namespace Rows
def none {H : Type} : Left H := { results := [], args := [] }

/-- 'laws.FnMinMaxUints': WHATEVER THE INPUT: true; the input reads as it did. -/
def fnMinMaxUintsSpec : ChangeSpec := { name := "fnMinMaxUints", fn := fun _ => fun
  | [d] => { results := [.lit (.bool true)], args := [d] }
  | _ => none }
def fnMinMaxUintsRow : OpenClaim := { program := "ytdeaigeimakolaa", sum := "d5a9b4a34803942bccc6d703d23251942c6060da1a7c5671de7559b88bd7d097", func := "loop.example/lib-comparemaps/laws.FnMinMaxUints", spec := "fnMinMaxUints", apart := false }
def FnMinMaxUintsSaid : Prop := fnMinMaxUintsRow.holds Try.pinned (OpenSpec.ofChange fnMinMaxUintsSpec)

/-- ITS FALSE NEIGHBOUR: 'it returns false'. Refute it at one input. -/
def fnMinMaxUintsWrong : ChangeSpec := { name := "fnMinMaxUints", fn := fun _ => fun
  | [d] => { results := [.lit (.bool false)], args := [d] }
  | _ => none }
def FnMinMaxUintsWrongFalsely : Prop := fnMinMaxUintsRow.holds Try.pinned (OpenSpec.ofChange fnMinMaxUintsWrong)

/-- 'laws.FnMaxUints': WHATEVER THE INPUT: true; the input reads as it did. -/
def fnMaxUintsSpec : ChangeSpec := { name := "fnMaxUints", fn := fun _ => fun
  | [d] => { results := [.lit (.bool true)], args := [d] }
  | _ => none }
def fnMaxUintsRow : OpenClaim := { program := "ytdeaigeimakolaa", sum := "d5a9b4a34803942bccc6d703d23251942c6060da1a7c5671de7559b88bd7d097", func := "loop.example/lib-comparemaps/laws.FnMaxUints", spec := "fnMaxUints", apart := false }
def FnMaxUintsSaid : Prop := fnMaxUintsRow.holds Try.pinned (OpenSpec.ofChange fnMaxUintsSpec)

/-- ITS FALSE NEIGHBOUR: 'it returns false'. Refute it at one input. -/
def fnMaxUintsWrong : ChangeSpec := { name := "fnMaxUints", fn := fun _ => fun
  | [d] => { results := [.lit (.bool false)], args := [d] }
  | _ => none }
def FnMaxUintsWrongFalsely : Prop := fnMaxUintsRow.holds Try.pinned (OpenSpec.ofChange fnMaxUintsWrong)

/-- 'laws.FnMinUints': WHATEVER THE INPUT: true; the input reads as it did. -/
def fnMinUintsSpec : ChangeSpec := { name := "fnMinUints", fn := fun _ => fun
  | [d] => { results := [.lit (.bool true)], args := [d] }
  | _ => none }
def fnMinUintsRow : OpenClaim := { program := "ytdeaigeimakolaa", sum := "d5a9b4a34803942bccc6d703d23251942c6060da1a7c5671de7559b88bd7d097", func := "loop.example/lib-comparemaps/laws.FnMinUints", spec := "fnMinUints", apart := false }
def FnMinUintsSaid : Prop := fnMinUintsRow.holds Try.pinned (OpenSpec.ofChange fnMinUintsSpec)

/-- ITS FALSE NEIGHBOUR: 'it returns false'. Refute it at one input. -/
def fnMinUintsWrong : ChangeSpec := { name := "fnMinUints", fn := fun _ => fun
  | [d] => { results := [.lit (.bool false)], args := [d] }
  | _ => none }
def FnMinUintsWrongFalsely : Prop := fnMinUintsRow.holds Try.pinned (OpenSpec.ofChange fnMinUintsWrong)

/-- 'laws.FnMaxUints3': WHATEVER THE INPUT: true; the input reads as it did. -/
def fnMaxUints3Spec : ChangeSpec := { name := "fnMaxUints3", fn := fun _ => fun
  | [d] => { results := [.lit (.bool true)], args := [d] }
  | _ => none }
def fnMaxUints3Row : OpenClaim := { program := "ytdeaigeimakolaa", sum := "d5a9b4a34803942bccc6d703d23251942c6060da1a7c5671de7559b88bd7d097", func := "loop.example/lib-comparemaps/laws.FnMaxUints3", spec := "fnMaxUints3", apart := false }
def FnMaxUints3Said : Prop := fnMaxUints3Row.holds Try.pinned (OpenSpec.ofChange fnMaxUints3Spec)

/-- ITS FALSE NEIGHBOUR: 'it returns false'. Refute it at one input. -/
def fnMaxUints3Wrong : ChangeSpec := { name := "fnMaxUints3", fn := fun _ => fun
  | [d] => { results := [.lit (.bool false)], args := [d] }
  | _ => none }
def FnMaxUints3WrongFalsely : Prop := fnMaxUints3Row.holds Try.pinned (OpenSpec.ofChange fnMaxUints3Wrong)

/-- 'laws.FnMaxUintsTurned': WHATEVER THE INPUT: true; the input reads as it did. -/
def fnMaxUintsTurnedSpec : ChangeSpec := { name := "fnMaxUintsTurned", fn := fun _ => fun
  | [d] => { results := [.lit (.bool true)], args := [d] }
  | _ => none }
def fnMaxUintsTurnedRow : OpenClaim := { program := "ytdeaigeimakolaa", sum := "d5a9b4a34803942bccc6d703d23251942c6060da1a7c5671de7559b88bd7d097", func := "loop.example/lib-comparemaps/laws.FnMaxUintsTurned", spec := "fnMaxUintsTurned", apart := false }
def FnMaxUintsTurnedSaid : Prop := fnMaxUintsTurnedRow.holds Try.pinned (OpenSpec.ofChange fnMaxUintsTurnedSpec)

/-- ITS FALSE NEIGHBOUR: 'it returns false'. Refute it at one input. -/
def fnMaxUintsTurnedWrong : ChangeSpec := { name := "fnMaxUintsTurned", fn := fun _ => fun
  | [d] => { results := [.lit (.bool false)], args := [d] }
  | _ => none }
def FnMaxUintsTurnedWrongFalsely : Prop := fnMaxUintsTurnedRow.holds Try.pinned (OpenSpec.ofChange fnMaxUintsTurnedWrong)

/-- 'laws.FnMinMaxUintsApart': WHATEVER THE INPUT: true; the input reads as it did. -/
def fnMinMaxUintsApartSpec : ChangeSpec := { name := "fnMinMaxUintsApart", fn := fun _ => fun
  | [d] => { results := [.lit (.bool true)], args := [d] }
  | _ => none }
def fnMinMaxUintsApartRow : OpenClaim := { program := "ytdeaigeimakolaa", sum := "d5a9b4a34803942bccc6d703d23251942c6060da1a7c5671de7559b88bd7d097", func := "loop.example/lib-comparemaps/laws.FnMinMaxUintsApart", spec := "fnMinMaxUintsApart", apart := false }
def FnMinMaxUintsApartSaid : Prop := fnMinMaxUintsApartRow.holds Try.pinned (OpenSpec.ofChange fnMinMaxUintsApartSpec)

/-- ITS FALSE NEIGHBOUR: 'it returns false'. Refute it at one input. -/
def fnMinMaxUintsApartWrong : ChangeSpec := { name := "fnMinMaxUintsApart", fn := fun _ => fun
  | [d] => { results := [.lit (.bool false)], args := [d] }
  | _ => none }
def FnMinMaxUintsApartWrongFalsely : Prop := fnMinMaxUintsApartRow.holds Try.pinned (OpenSpec.ofChange fnMinMaxUintsApartWrong)

/-- 'laws.FnMinUints3': WHATEVER THE INPUT: true; the input reads as it did. -/
def fnMinUints3Spec : ChangeSpec := { name := "fnMinUints3", fn := fun _ => fun
  | [d] => { results := [.lit (.bool true)], args := [d] }
  | _ => none }
def fnMinUints3Row : OpenClaim := { program := "ytdeaigeimakolaa", sum := "d5a9b4a34803942bccc6d703d23251942c6060da1a7c5671de7559b88bd7d097", func := "loop.example/lib-comparemaps/laws.FnMinUints3", spec := "fnMinUints3", apart := false }
def FnMinUints3Said : Prop := fnMinUints3Row.holds Try.pinned (OpenSpec.ofChange fnMinUints3Spec)

/-- ITS FALSE NEIGHBOUR: 'it returns false'. Refute it at one input. -/
def fnMinUints3Wrong : ChangeSpec := { name := "fnMinUints3", fn := fun _ => fun
  | [d] => { results := [.lit (.bool false)], args := [d] }
  | _ => none }
def FnMinUints3WrongFalsely : Prop := fnMinUints3Row.holds Try.pinned (OpenSpec.ofChange fnMinUints3Wrong)

/-- 'laws.FnMinUintsTurned': WHATEVER THE INPUT: true; the input reads as it did. -/
def fnMinUintsTurnedSpec : ChangeSpec := { name := "fnMinUintsTurned", fn := fun _ => fun
  | [d] => { results := [.lit (.bool true)], args := [d] }
  | _ => none }
def fnMinUintsTurnedRow : OpenClaim := { program := "ytdeaigeimakolaa", sum := "d5a9b4a34803942bccc6d703d23251942c6060da1a7c5671de7559b88bd7d097", func := "loop.example/lib-comparemaps/laws.FnMinUintsTurned", spec := "fnMinUintsTurned", apart := false }
def FnMinUintsTurnedSaid : Prop := fnMinUintsTurnedRow.holds Try.pinned (OpenSpec.ofChange fnMinUintsTurnedSpec)

/-- ITS FALSE NEIGHBOUR: 'it returns false'. Refute it at one input. -/
def fnMinUintsTurnedWrong : ChangeSpec := { name := "fnMinUintsTurned", fn := fun _ => fun
  | [d] => { results := [.lit (.bool false)], args := [d] }
  | _ => none }
def FnMinUintsTurnedWrongFalsely : Prop := fnMinUintsTurnedRow.holds Try.pinned (OpenSpec.ofChange fnMinUintsTurnedWrong)

/-- 'laws.FnMaxUintsOne': WHATEVER THE INPUT: true; the input reads as it did. -/
def fnMaxUintsOneSpec : ChangeSpec := { name := "fnMaxUintsOne", fn := fun _ => fun
  | [d] => { results := [.lit (.bool true)], args := [d] }
  | _ => none }
def fnMaxUintsOneRow : OpenClaim := { program := "ytdeaigeimakolaa", sum := "d5a9b4a34803942bccc6d703d23251942c6060da1a7c5671de7559b88bd7d097", func := "loop.example/lib-comparemaps/laws.FnMaxUintsOne", spec := "fnMaxUintsOne", apart := false }
def FnMaxUintsOneSaid : Prop := fnMaxUintsOneRow.holds Try.pinned (OpenSpec.ofChange fnMaxUintsOneSpec)

/-- ITS FALSE NEIGHBOUR: 'it returns false'. Refute it at one input. -/
def fnMaxUintsOneWrong : ChangeSpec := { name := "fnMaxUintsOne", fn := fun _ => fun
  | [d] => { results := [.lit (.bool false)], args := [d] }
  | _ => none }
def FnMaxUintsOneWrongFalsely : Prop := fnMaxUintsOneRow.holds Try.pinned (OpenSpec.ofChange fnMaxUintsOneWrong)

/-- 'laws.FnMinUintsOne': WHATEVER THE INPUT: true; the input reads as it did. -/
def fnMinUintsOneSpec : ChangeSpec := { name := "fnMinUintsOne", fn := fun _ => fun
  | [d] => { results := [.lit (.bool true)], args := [d] }
  | _ => none }
def fnMinUintsOneRow : OpenClaim := { program := "ytdeaigeimakolaa", sum := "d5a9b4a34803942bccc6d703d23251942c6060da1a7c5671de7559b88bd7d097", func := "loop.example/lib-comparemaps/laws.FnMinUintsOne", spec := "fnMinUintsOne", apart := false }
def FnMinUintsOneSaid : Prop := fnMinUintsOneRow.holds Try.pinned (OpenSpec.ofChange fnMinUintsOneSpec)

/-- ITS FALSE NEIGHBOUR: 'it returns false'. Refute it at one input. -/
def fnMinUintsOneWrong : ChangeSpec := { name := "fnMinUintsOne", fn := fun _ => fun
  | [d] => { results := [.lit (.bool false)], args := [d] }
  | _ => none }
def FnMinUintsOneWrongFalsely : Prop := fnMinUintsOneRow.holds Try.pinned (OpenSpec.ofChange fnMinUintsOneWrong)

/- THE SECOND FORM. 'bulk': how many values and letters a reading holds, each counted each time it is reached (what is shared counts as often as it is met; a slice's spare places count too). A statement '..UptoSaid' is the law's where the arguments, and the package variables that the reading takes, are together of bulk at most 1048576: NARROWER than '..Said'. Prove '..Said' where nothing that the law and all that it calls make is longer than what came in: it says more and counts as full. Else prove '..UptoSaid'. A law counts once. -/
mutual
def uptoBulk {H : Type} : DataW H → Nat
  | .lit (.string bytes) => bytes.length + 1
  | .lit _ => 1
  | .nil => 1
  | .ptr d => uptoBulk d + 1
  | .slice elems spare => uptoBulkAll elems + uptoBulkAll spare + 1
  | .agg parts => uptoBulkAll parts + 1
  | .iface _ d => uptoBulk d + 1
  | .map entries => uptoBulkEntries entries + 1
  | .held _ => 1
def uptoBulkAll {H : Type} : List (DataW H) → Nat
  | [] => 0
  | d :: r => uptoBulk d + uptoBulkAll r
def uptoBulkEntries {H : Type} : List (Lit × DataW H) → Nat
  | [] => 0
  | x :: r => uptoBulkEntry x + uptoBulkEntries r
def uptoBulkEntry {H : Type} : Lit × DataW H → Nat
  | (.string bytes, d) => bytes.length + uptoBulk d + 1
  | (_, d) => uptoBulk d + 1
 end
def uptoSmall : (H : Type) → List (DataW H) → Bool := fun _ ds => decide (uptoBulkAll ds ≤ 1048576)
def OpenSpec.upto (s : _root_.Go.ChangeSpec) : _root_.Go.OpenSpec := { _root_.Go.OpenSpec.ofChange s with cond := some uptoSmall }

/-- 'laws.FnMinMaxUints', WHERE WHAT IT READS IS OF BULK AT MOST 1048576: true; the input reads as it did. -/
def fnMinMaxUintsUptoRow : OpenClaim := { program := "ytdeaigeimakolaa", sum := "d5a9b4a34803942bccc6d703d23251942c6060da1a7c5671de7559b88bd7d097", func := "loop.example/lib-comparemaps/laws.FnMinMaxUints", spec := "fnMinMaxUints", apart := false, narrowed := true }
def FnMinMaxUintsUptoSaid : Prop := fnMinMaxUintsUptoRow.holds Try.pinned (OpenSpec.upto fnMinMaxUintsSpec)

/-- 'laws.FnMaxUints', WHERE WHAT IT READS IS OF BULK AT MOST 1048576: true; the input reads as it did. -/
def fnMaxUintsUptoRow : OpenClaim := { program := "ytdeaigeimakolaa", sum := "d5a9b4a34803942bccc6d703d23251942c6060da1a7c5671de7559b88bd7d097", func := "loop.example/lib-comparemaps/laws.FnMaxUints", spec := "fnMaxUints", apart := false, narrowed := true }
def FnMaxUintsUptoSaid : Prop := fnMaxUintsUptoRow.holds Try.pinned (OpenSpec.upto fnMaxUintsSpec)

/-- 'laws.FnMinUints', WHERE WHAT IT READS IS OF BULK AT MOST 1048576: true; the input reads as it did. -/
def fnMinUintsUptoRow : OpenClaim := { program := "ytdeaigeimakolaa", sum := "d5a9b4a34803942bccc6d703d23251942c6060da1a7c5671de7559b88bd7d097", func := "loop.example/lib-comparemaps/laws.FnMinUints", spec := "fnMinUints", apart := false, narrowed := true }
def FnMinUintsUptoSaid : Prop := fnMinUintsUptoRow.holds Try.pinned (OpenSpec.upto fnMinUintsSpec)

/-- 'laws.FnMaxUints3', WHERE WHAT IT READS IS OF BULK AT MOST 1048576: true; the input reads as it did. -/
def fnMaxUints3UptoRow : OpenClaim := { program := "ytdeaigeimakolaa", sum := "d5a9b4a34803942bccc6d703d23251942c6060da1a7c5671de7559b88bd7d097", func := "loop.example/lib-comparemaps/laws.FnMaxUints3", spec := "fnMaxUints3", apart := false, narrowed := true }
def FnMaxUints3UptoSaid : Prop := fnMaxUints3UptoRow.holds Try.pinned (OpenSpec.upto fnMaxUints3Spec)

/-- 'laws.FnMaxUintsTurned', WHERE WHAT IT READS IS OF BULK AT MOST 1048576: true; the input reads as it did. -/
def fnMaxUintsTurnedUptoRow : OpenClaim := { program := "ytdeaigeimakolaa", sum := "d5a9b4a34803942bccc6d703d23251942c6060da1a7c5671de7559b88bd7d097", func := "loop.example/lib-comparemaps/laws.FnMaxUintsTurned", spec := "fnMaxUintsTurned", apart := false, narrowed := true }
def FnMaxUintsTurnedUptoSaid : Prop := fnMaxUintsTurnedUptoRow.holds Try.pinned (OpenSpec.upto fnMaxUintsTurnedSpec)

/-- 'laws.FnMinMaxUintsApart', WHERE WHAT IT READS IS OF BULK AT MOST 1048576: true; the input reads as it did. -/
def fnMinMaxUintsApartUptoRow : OpenClaim := { program := "ytdeaigeimakolaa", sum := "d5a9b4a34803942bccc6d703d23251942c6060da1a7c5671de7559b88bd7d097", func := "loop.example/lib-comparemaps/laws.FnMinMaxUintsApart", spec := "fnMinMaxUintsApart", apart := false, narrowed := true }
def FnMinMaxUintsApartUptoSaid : Prop := fnMinMaxUintsApartUptoRow.holds Try.pinned (OpenSpec.upto fnMinMaxUintsApartSpec)

/-- 'laws.FnMinUints3', WHERE WHAT IT READS IS OF BULK AT MOST 1048576: true; the input reads as it did. -/
def fnMinUints3UptoRow : OpenClaim := { program := "ytdeaigeimakolaa", sum := "d5a9b4a34803942bccc6d703d23251942c6060da1a7c5671de7559b88bd7d097", func := "loop.example/lib-comparemaps/laws.FnMinUints3", spec := "fnMinUints3", apart := false, narrowed := true }
def FnMinUints3UptoSaid : Prop := fnMinUints3UptoRow.holds Try.pinned (OpenSpec.upto fnMinUints3Spec)

/-- 'laws.FnMinUintsTurned', WHERE WHAT IT READS IS OF BULK AT MOST 1048576: true; the input reads as it did. -/
def fnMinUintsTurnedUptoRow : OpenClaim := { program := "ytdeaigeimakolaa", sum := "d5a9b4a34803942bccc6d703d23251942c6060da1a7c5671de7559b88bd7d097", func := "loop.example/lib-comparemaps/laws.FnMinUintsTurned", spec := "fnMinUintsTurned", apart := false, narrowed := true }
def FnMinUintsTurnedUptoSaid : Prop := fnMinUintsTurnedUptoRow.holds Try.pinned (OpenSpec.upto fnMinUintsTurnedSpec)

/-- 'laws.FnMaxUintsOne', WHERE WHAT IT READS IS OF BULK AT MOST 1048576: true; the input reads as it did. -/
def fnMaxUintsOneUptoRow : OpenClaim := { program := "ytdeaigeimakolaa", sum := "d5a9b4a34803942bccc6d703d23251942c6060da1a7c5671de7559b88bd7d097", func := "loop.example/lib-comparemaps/laws.FnMaxUintsOne", spec := "fnMaxUintsOne", apart := false, narrowed := true }
def FnMaxUintsOneUptoSaid : Prop := fnMaxUintsOneUptoRow.holds Try.pinned (OpenSpec.upto fnMaxUintsOneSpec)

/-- 'laws.FnMinUintsOne', WHERE WHAT IT READS IS OF BULK AT MOST 1048576: true; the input reads as it did. -/
def fnMinUintsOneUptoRow : OpenClaim := { program := "ytdeaigeimakolaa", sum := "d5a9b4a34803942bccc6d703d23251942c6060da1a7c5671de7559b88bd7d097", func := "loop.example/lib-comparemaps/laws.FnMinUintsOne", spec := "fnMinUintsOne", apart := false, narrowed := true }
def FnMinUintsOneUptoSaid : Prop := fnMinUintsOneUptoRow.holds Try.pinned (OpenSpec.upto fnMinUintsOneSpec)

end Rows
end Go.Proofs.Ytdeaigeimakolaa
