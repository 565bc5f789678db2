/-
  No cell of these rows narrows 'for every input' (looked for: loops, veiled, ifaces, maps, wideKeys, modest, calm, conditions, laid).
  DERIVED. THE GIVEN ROWS OF THIS SEAT. 8 by the template 'for every input the law returns true; each argument reads behind the call as it read before'; 0 by the template 'total and deterministic' (their statements: YtbmkijgnaemfmaaTotals.lean).
  GIVEN WITH THE SEED: the statements are not yours to turn. If you find one false, say at which input.
  Laid BY PROGRAM, IN A SANDBOX (cutbox-rows.mjs): the forced cells as the released guide's own fill.sh prints them over the translation 6806805b2f064316… (all of the seat's roots in one cut). By AI agents, Wed Nov 11 2026. No macro, syntax, notation, axiom, sorry.
-/
import Derived.Test.YtbmkijgnaemfmaaChecked
import GoSem.Claim
import GoSem.ClaimJoined
import GoSem.ClaimMapViews
import Derived.JoinedTies
import Derived.KernelRfl
namespace Go.Proofs.Ytbmkijgnaemfmaa
/- THE CELL 'sum', in the pinned program and in every row, IS THE sha256 OF THE DUMP (.gsa) THAT YtbmkijgnaemfmaaProg.lean LOADS. Nothing in Lean hashes anything: it is a label: what it is worth is what the hold of that sum in a sandbox is worth. -/
noncomputable def Try.pinned : Pinned := { name := "ytbmkijgnaemfmaa", sum := "6806805b2f064316ea9da6961d0efe39bbde8a9f8079408db7c8500d9829ab8b", checked := Try.checked }
namespace Rows
def none {H : Type} : Left H := { results := [], args := [] }

/-- 'laws.FnExactMaxFloats': WHATEVER THE INPUT: true; the input reads as it did. -/
def fnExactMaxFloatsSpec : ChangeSpec := { name := "fnExactMaxFloats", fn := fun _ => fun
  | [d1, d2] => { results := [.lit (.bool true)], args := [d1, d2] }
  | _ => none }
def fnExactMaxFloatsRow : OpenClaim := { program := "ytbmkijgnaemfmaa", sum := "6806805b2f064316ea9da6961d0efe39bbde8a9f8079408db7c8500d9829ab8b", func := "loop.example/lib-comparemaps/laws.FnExactMaxFloats", spec := "fnExactMaxFloats", inPlace := ["math.Float64bits"], apart := false }
def FnExactMaxFloatsSaid : Prop := fnExactMaxFloatsRow.holds Try.pinned (OpenSpec.ofChange fnExactMaxFloatsSpec)

/-- ITS FALSE NEIGHBOUR: 'it returns false'. Refute it at one input. -/
def fnExactMaxFloatsWrong : ChangeSpec := { name := "fnExactMaxFloats", fn := fun _ => fun
  | [d1, d2] => { results := [.lit (.bool false)], args := [d1, d2] }
  | _ => none }
def FnExactMaxFloatsWrongFalsely : Prop := fnExactMaxFloatsRow.holds Try.pinned (OpenSpec.ofChange fnExactMaxFloatsWrong)

/-- 'laws.FnExactMaxFloats3': WHATEVER THE INPUT: true; the input reads as it did. -/
def fnExactMaxFloats3Spec : ChangeSpec := { name := "fnExactMaxFloats3", fn := fun _ => fun
  | [d1, d2, d3] => { results := [.lit (.bool true)], args := [d1, d2, d3] }
  | _ => none }
def fnExactMaxFloats3Row : OpenClaim := { program := "ytbmkijgnaemfmaa", sum := "6806805b2f064316ea9da6961d0efe39bbde8a9f8079408db7c8500d9829ab8b", func := "loop.example/lib-comparemaps/laws.FnExactMaxFloats3", spec := "fnExactMaxFloats3", inPlace := ["math.Float64bits"], apart := false }
def FnExactMaxFloats3Said : Prop := fnExactMaxFloats3Row.holds Try.pinned (OpenSpec.ofChange fnExactMaxFloats3Spec)

/-- ITS FALSE NEIGHBOUR: 'it returns false'. Refute it at one input. -/
def fnExactMaxFloats3Wrong : ChangeSpec := { name := "fnExactMaxFloats3", fn := fun _ => fun
  | [d1, d2, d3] => { results := [.lit (.bool false)], args := [d1, d2, d3] }
  | _ => none }
def FnExactMaxFloats3WrongFalsely : Prop := fnExactMaxFloats3Row.holds Try.pinned (OpenSpec.ofChange fnExactMaxFloats3Wrong)

/-- 'laws.FnExactMaxSmalls': WHATEVER THE INPUT: true; the input reads as it did. -/
def fnExactMaxSmallsSpec : ChangeSpec := { name := "fnExactMaxSmalls", fn := fun _ => fun
  | [d1, d2] => { results := [.lit (.bool true)], args := [d1, d2] }
  | _ => none }
def fnExactMaxSmallsRow : OpenClaim := { program := "ytbmkijgnaemfmaa", sum := "6806805b2f064316ea9da6961d0efe39bbde8a9f8079408db7c8500d9829ab8b", func := "loop.example/lib-comparemaps/laws.FnExactMaxSmalls", spec := "fnExactMaxSmalls", inPlace := ["math.Float64bits"], apart := false }
def FnExactMaxSmallsSaid : Prop := fnExactMaxSmallsRow.holds Try.pinned (OpenSpec.ofChange fnExactMaxSmallsSpec)

/-- ITS FALSE NEIGHBOUR: 'it returns false'. Refute it at one input. -/
def fnExactMaxSmallsWrong : ChangeSpec := { name := "fnExactMaxSmalls", fn := fun _ => fun
  | [d1, d2] => { results := [.lit (.bool false)], args := [d1, d2] }
  | _ => none }
def FnExactMaxSmallsWrongFalsely : Prop := fnExactMaxSmallsRow.holds Try.pinned (OpenSpec.ofChange fnExactMaxSmallsWrong)

/-- 'laws.FnExactMaxSmalls3': WHATEVER THE INPUT: true; the input reads as it did. -/
def fnExactMaxSmalls3Spec : ChangeSpec := { name := "fnExactMaxSmalls3", fn := fun _ => fun
  | [d1, d2, d3] => { results := [.lit (.bool true)], args := [d1, d2, d3] }
  | _ => none }
def fnExactMaxSmalls3Row : OpenClaim := { program := "ytbmkijgnaemfmaa", sum := "6806805b2f064316ea9da6961d0efe39bbde8a9f8079408db7c8500d9829ab8b", func := "loop.example/lib-comparemaps/laws.FnExactMaxSmalls3", spec := "fnExactMaxSmalls3", inPlace := ["math.Float64bits"], apart := false }
def FnExactMaxSmalls3Said : Prop := fnExactMaxSmalls3Row.holds Try.pinned (OpenSpec.ofChange fnExactMaxSmalls3Spec)

/-- ITS FALSE NEIGHBOUR: 'it returns false'. Refute it at one input. -/
def fnExactMaxSmalls3Wrong : ChangeSpec := { name := "fnExactMaxSmalls3", fn := fun _ => fun
  | [d1, d2, d3] => { results := [.lit (.bool false)], args := [d1, d2, d3] }
  | _ => none }
def FnExactMaxSmalls3WrongFalsely : Prop := fnExactMaxSmalls3Row.holds Try.pinned (OpenSpec.ofChange fnExactMaxSmalls3Wrong)

/-- 'laws.FnExactMinFloats': WHATEVER THE INPUT: true; the input reads as it did. -/
def fnExactMinFloatsSpec : ChangeSpec := { name := "fnExactMinFloats", fn := fun _ => fun
  | [d1, d2] => { results := [.lit (.bool true)], args := [d1, d2] }
  | _ => none }
def fnExactMinFloatsRow : OpenClaim := { program := "ytbmkijgnaemfmaa", sum := "6806805b2f064316ea9da6961d0efe39bbde8a9f8079408db7c8500d9829ab8b", func := "loop.example/lib-comparemaps/laws.FnExactMinFloats", spec := "fnExactMinFloats", inPlace := ["math.Float64bits"], apart := false }
def FnExactMinFloatsSaid : Prop := fnExactMinFloatsRow.holds Try.pinned (OpenSpec.ofChange fnExactMinFloatsSpec)

/-- ITS FALSE NEIGHBOUR: 'it returns false'. Refute it at one input. -/
def fnExactMinFloatsWrong : ChangeSpec := { name := "fnExactMinFloats", fn := fun _ => fun
  | [d1, d2] => { results := [.lit (.bool false)], args := [d1, d2] }
  | _ => none }
def FnExactMinFloatsWrongFalsely : Prop := fnExactMinFloatsRow.holds Try.pinned (OpenSpec.ofChange fnExactMinFloatsWrong)

/-- 'laws.FnExactMinFloats3': WHATEVER THE INPUT: true; the input reads as it did. -/
def fnExactMinFloats3Spec : ChangeSpec := { name := "fnExactMinFloats3", fn := fun _ => fun
  | [d1, d2, d3] => { results := [.lit (.bool true)], args := [d1, d2, d3] }
  | _ => none }
def fnExactMinFloats3Row : OpenClaim := { program := "ytbmkijgnaemfmaa", sum := "6806805b2f064316ea9da6961d0efe39bbde8a9f8079408db7c8500d9829ab8b", func := "loop.example/lib-comparemaps/laws.FnExactMinFloats3", spec := "fnExactMinFloats3", inPlace := ["math.Float64bits"], apart := false }
def FnExactMinFloats3Said : Prop := fnExactMinFloats3Row.holds Try.pinned (OpenSpec.ofChange fnExactMinFloats3Spec)

/-- ITS FALSE NEIGHBOUR: 'it returns false'. Refute it at one input. -/
def fnExactMinFloats3Wrong : ChangeSpec := { name := "fnExactMinFloats3", fn := fun _ => fun
  | [d1, d2, d3] => { results := [.lit (.bool false)], args := [d1, d2, d3] }
  | _ => none }
def FnExactMinFloats3WrongFalsely : Prop := fnExactMinFloats3Row.holds Try.pinned (OpenSpec.ofChange fnExactMinFloats3Wrong)

/-- 'laws.FnExactMinSmalls': WHATEVER THE INPUT: true; the input reads as it did. -/
def fnExactMinSmallsSpec : ChangeSpec := { name := "fnExactMinSmalls", fn := fun _ => fun
  | [d1, d2] => { results := [.lit (.bool true)], args := [d1, d2] }
  | _ => none }
def fnExactMinSmallsRow : OpenClaim := { program := "ytbmkijgnaemfmaa", sum := "6806805b2f064316ea9da6961d0efe39bbde8a9f8079408db7c8500d9829ab8b", func := "loop.example/lib-comparemaps/laws.FnExactMinSmalls", spec := "fnExactMinSmalls", inPlace := ["math.Float64bits"], apart := false }
def FnExactMinSmallsSaid : Prop := fnExactMinSmallsRow.holds Try.pinned (OpenSpec.ofChange fnExactMinSmallsSpec)

/-- ITS FALSE NEIGHBOUR: 'it returns false'. Refute it at one input. -/
def fnExactMinSmallsWrong : ChangeSpec := { name := "fnExactMinSmalls", fn := fun _ => fun
  | [d1, d2] => { results := [.lit (.bool false)], args := [d1, d2] }
  | _ => none }
def FnExactMinSmallsWrongFalsely : Prop := fnExactMinSmallsRow.holds Try.pinned (OpenSpec.ofChange fnExactMinSmallsWrong)

/-- 'laws.FnExactMinSmalls3': WHATEVER THE INPUT: true; the input reads as it did. -/
def fnExactMinSmalls3Spec : ChangeSpec := { name := "fnExactMinSmalls3", fn := fun _ => fun
  | [d1, d2, d3] => { results := [.lit (.bool true)], args := [d1, d2, d3] }
  | _ => none }
def fnExactMinSmalls3Row : OpenClaim := { program := "ytbmkijgnaemfmaa", sum := "6806805b2f064316ea9da6961d0efe39bbde8a9f8079408db7c8500d9829ab8b", func := "loop.example/lib-comparemaps/laws.FnExactMinSmalls3", spec := "fnExactMinSmalls3", inPlace := ["math.Float64bits"], apart := false }
def FnExactMinSmalls3Said : Prop := fnExactMinSmalls3Row.holds Try.pinned (OpenSpec.ofChange fnExactMinSmalls3Spec)

/-- ITS FALSE NEIGHBOUR: 'it returns false'. Refute it at one input. -/
def fnExactMinSmalls3Wrong : ChangeSpec := { name := "fnExactMinSmalls3", fn := fun _ => fun
  | [d1, d2, d3] => { results := [.lit (.bool false)], args := [d1, d2, d3] }
  | _ => none }
def FnExactMinSmalls3WrongFalsely : Prop := fnExactMinSmalls3Row.holds Try.pinned (OpenSpec.ofChange fnExactMinSmalls3Wrong)

/- THE SECOND FORM. 'bulk': how many values and letters a reading holds, each counted each time it is reached (what is shared counts as often as it is met; a slice's spare places count too). A statement '..UptoSaid' is the law's where the arguments, and the package variables that the reading takes, are together of bulk at most 1048576: NARROWER than '..Said'. Prove '..Said' where nothing that the law and all that it calls make is longer than what came in: it says more and counts as full. Else prove '..UptoSaid'. A law counts once. -/
mutual
def uptoBulk {H : Type} : DataW H → Nat
  | .lit (.string bytes) => bytes.length + 1
  | .lit _ => 1
  | .nil => 1
  | .ptr d => uptoBulk d + 1
  | .slice elems spare => uptoBulkAll elems + uptoBulkAll spare + 1
  | .agg parts => uptoBulkAll parts + 1
  | .iface _ d => uptoBulk d + 1
  | .map entries => uptoBulkEntries entries + 1
  | .held _ => 1
def uptoBulkAll {H : Type} : List (DataW H) → Nat
  | [] => 0
  | d :: r => uptoBulk d + uptoBulkAll r
def uptoBulkEntries {H : Type} : List (Lit × DataW H) → Nat
  | [] => 0
  | x :: r => uptoBulkEntry x + uptoBulkEntries r
def uptoBulkEntry {H : Type} : Lit × DataW H → Nat
  | (.string bytes, d) => bytes.length + uptoBulk d + 1
  | (_, d) => uptoBulk d + 1
 end
def uptoSmall : (H : Type) → List (DataW H) → Bool := fun _ ds => decide (uptoBulkAll ds ≤ 1048576)
def OpenSpec.upto (s : _root_.Go.ChangeSpec) : _root_.Go.OpenSpec := { _root_.Go.OpenSpec.ofChange s with cond := some uptoSmall }

/-- 'laws.FnExactMaxFloats', WHERE WHAT IT READS IS OF BULK AT MOST 1048576: true; the input reads as it did. -/
def fnExactMaxFloatsUptoRow : OpenClaim := { program := "ytbmkijgnaemfmaa", sum := "6806805b2f064316ea9da6961d0efe39bbde8a9f8079408db7c8500d9829ab8b", func := "loop.example/lib-comparemaps/laws.FnExactMaxFloats", spec := "fnExactMaxFloats", inPlace := ["math.Float64bits"], apart := false, narrowed := true }
def FnExactMaxFloatsUptoSaid : Prop := fnExactMaxFloatsUptoRow.holds Try.pinned (OpenSpec.upto fnExactMaxFloatsSpec)

/-- 'laws.FnExactMaxFloats3', WHERE WHAT IT READS IS OF BULK AT MOST 1048576: true; the input reads as it did. -/
def fnExactMaxFloats3UptoRow : OpenClaim := { program := "ytbmkijgnaemfmaa", sum := "6806805b2f064316ea9da6961d0efe39bbde8a9f8079408db7c8500d9829ab8b", func := "loop.example/lib-comparemaps/laws.FnExactMaxFloats3", spec := "fnExactMaxFloats3", inPlace := ["math.Float64bits"], apart := false, narrowed := true }
def FnExactMaxFloats3UptoSaid : Prop := fnExactMaxFloats3UptoRow.holds Try.pinned (OpenSpec.upto fnExactMaxFloats3Spec)

/-- 'laws.FnExactMaxSmalls', WHERE WHAT IT READS IS OF BULK AT MOST 1048576: true; the input reads as it did. -/
def fnExactMaxSmallsUptoRow : OpenClaim := { program := "ytbmkijgnaemfmaa", sum := "6806805b2f064316ea9da6961d0efe39bbde8a9f8079408db7c8500d9829ab8b", func := "loop.example/lib-comparemaps/laws.FnExactMaxSmalls", spec := "fnExactMaxSmalls", inPlace := ["math.Float64bits"], apart := false, narrowed := true }
def FnExactMaxSmallsUptoSaid : Prop := fnExactMaxSmallsUptoRow.holds Try.pinned (OpenSpec.upto fnExactMaxSmallsSpec)

/-- 'laws.FnExactMaxSmalls3', WHERE WHAT IT READS IS OF BULK AT MOST 1048576: true; the input reads as it did. -/
def fnExactMaxSmalls3UptoRow : OpenClaim := { program := "ytbmkijgnaemfmaa", sum := "6806805b2f064316ea9da6961d0efe39bbde8a9f8079408db7c8500d9829ab8b", func := "loop.example/lib-comparemaps/laws.FnExactMaxSmalls3", spec := "fnExactMaxSmalls3", inPlace := ["math.Float64bits"], apart := false, narrowed := true }
def FnExactMaxSmalls3UptoSaid : Prop := fnExactMaxSmalls3UptoRow.holds Try.pinned (OpenSpec.upto fnExactMaxSmalls3Spec)

/-- 'laws.FnExactMinFloats', WHERE WHAT IT READS IS OF BULK AT MOST 1048576: true; the input reads as it did. -/
def fnExactMinFloatsUptoRow : OpenClaim := { program := "ytbmkijgnaemfmaa", sum := "6806805b2f064316ea9da6961d0efe39bbde8a9f8079408db7c8500d9829ab8b", func := "loop.example/lib-comparemaps/laws.FnExactMinFloats", spec := "fnExactMinFloats", inPlace := ["math.Float64bits"], apart := false, narrowed := true }
def FnExactMinFloatsUptoSaid : Prop := fnExactMinFloatsUptoRow.holds Try.pinned (OpenSpec.upto fnExactMinFloatsSpec)

/-- 'laws.FnExactMinFloats3', WHERE WHAT IT READS IS OF BULK AT MOST 1048576: true; the input reads as it did. -/
def fnExactMinFloats3UptoRow : OpenClaim := { program := "ytbmkijgnaemfmaa", sum := "6806805b2f064316ea9da6961d0efe39bbde8a9f8079408db7c8500d9829ab8b", func := "loop.example/lib-comparemaps/laws.FnExactMinFloats3", spec := "fnExactMinFloats3", inPlace := ["math.Float64bits"], apart := false, narrowed := true }
def FnExactMinFloats3UptoSaid : Prop := fnExactMinFloats3UptoRow.holds Try.pinned (OpenSpec.upto fnExactMinFloats3Spec)

/-- 'laws.FnExactMinSmalls', WHERE WHAT IT READS IS OF BULK AT MOST 1048576: true; the input reads as it did. -/
def fnExactMinSmallsUptoRow : OpenClaim := { program := "ytbmkijgnaemfmaa", sum := "6806805b2f064316ea9da6961d0efe39bbde8a9f8079408db7c8500d9829ab8b", func := "loop.example/lib-comparemaps/laws.FnExactMinSmalls", spec := "fnExactMinSmalls", inPlace := ["math.Float64bits"], apart := false, narrowed := true }
def FnExactMinSmallsUptoSaid : Prop := fnExactMinSmallsUptoRow.holds Try.pinned (OpenSpec.upto fnExactMinSmallsSpec)

/-- 'laws.FnExactMinSmalls3', WHERE WHAT IT READS IS OF BULK AT MOST 1048576: true; the input reads as it did. -/
def fnExactMinSmalls3UptoRow : OpenClaim := { program := "ytbmkijgnaemfmaa", sum := "6806805b2f064316ea9da6961d0efe39bbde8a9f8079408db7c8500d9829ab8b", func := "loop.example/lib-comparemaps/laws.FnExactMinSmalls3", spec := "fnExactMinSmalls3", inPlace := ["math.Float64bits"], apart := false, narrowed := true }
def FnExactMinSmalls3UptoSaid : Prop := fnExactMinSmalls3UptoRow.holds Try.pinned (OpenSpec.upto fnExactMinSmalls3Spec)

end Rows
end Go.Proofs.Ytbmkijgnaemfmaa
