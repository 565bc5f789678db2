/-
  No cell of these rows narrows 'for every input' (looked for: loops, veiled, ifaces, maps, wideKeys, modest, calm, conditions, laid).
  DERIVED. THE GIVEN ROWS OF THIS SEAT. 10 by the template 'for every input the law returns true; each argument reads behind the call as it read before'; 0 by the template 'total and deterministic' (their statements: YtnahhiphofdijaaTotals.lean).
  GIVEN WITH THE SEED: the statements are not yours to turn. If you find one false, say at which input.
  Laid BY PROGRAM, IN A SANDBOX (cutbox-rows.mjs): the forced cells as the released guide's own fill.sh prints them over the translation 05462e2f949a0cc7… (all of the seat's roots in one cut). By AI agents, Wed Nov 11 2026. No macro, syntax, notation, axiom, sorry.
-/
import Derived.Test.YtnahhiphofdijaaChecked
import GoSem.Claim
import GoSem.ClaimJoined
import GoSem.ClaimMapViews
import Derived.JoinedTies
import Derived.KernelRfl
namespace Go.Proofs.Ytnahhiphofdijaa
/- THE CELL 'sum', in the pinned program and in every row, IS THE sha256 OF THE DUMP (.gsa) THAT YtnahhiphofdijaaProg.lean LOADS. Nothing in Lean hashes anything: it is a label: what it is worth is what the hold of that sum in a sandbox is worth. -/
noncomputable def Try.pinned : Pinned := { name := "ytnahhiphofdijaa", sum := "05462e2f949a0cc72921213505be9d93cde151785708f38e1e05232192e0fa1d", checked := Try.checked }
namespace Rows
def none {H : Type} : Left H := { results := [], args := [] }

/-- 'laws.FnMinMaxFloats': WHATEVER THE INPUT: true; the input reads as it did. -/
def fnMinMaxFloatsSpec : ChangeSpec := { name := "fnMinMaxFloats", fn := fun _ => fun
  | [d] => { results := [.lit (.bool true)], args := [d] }
  | _ => none }
def fnMinMaxFloatsRow : OpenClaim := { program := "ytnahhiphofdijaa", sum := "05462e2f949a0cc72921213505be9d93cde151785708f38e1e05232192e0fa1d", func := "loop.example/lib-comparemaps/laws.FnMinMaxFloats", spec := "fnMinMaxFloats", inPlace := ["math.Float64bits", "math.Float64frombits"], apart := false }
def FnMinMaxFloatsSaid : Prop := fnMinMaxFloatsRow.holds Try.pinned (OpenSpec.ofChange fnMinMaxFloatsSpec)

/-- ITS FALSE NEIGHBOUR: 'it returns false'. Refute it at one input. -/
def fnMinMaxFloatsWrong : ChangeSpec := { name := "fnMinMaxFloats", fn := fun _ => fun
  | [d] => { results := [.lit (.bool false)], args := [d] }
  | _ => none }
def FnMinMaxFloatsWrongFalsely : Prop := fnMinMaxFloatsRow.holds Try.pinned (OpenSpec.ofChange fnMinMaxFloatsWrong)

/-- 'laws.FnMaxFloats': WHATEVER THE INPUT: true; the input reads as it did. -/
def fnMaxFloatsSpec : ChangeSpec := { name := "fnMaxFloats", fn := fun _ => fun
  | [d] => { results := [.lit (.bool true)], args := [d] }
  | _ => none }
def fnMaxFloatsRow : OpenClaim := { program := "ytnahhiphofdijaa", sum := "05462e2f949a0cc72921213505be9d93cde151785708f38e1e05232192e0fa1d", func := "loop.example/lib-comparemaps/laws.FnMaxFloats", spec := "fnMaxFloats", inPlace := ["math.Float64bits", "math.Float64frombits"], apart := false }
def FnMaxFloatsSaid : Prop := fnMaxFloatsRow.holds Try.pinned (OpenSpec.ofChange fnMaxFloatsSpec)

/-- ITS FALSE NEIGHBOUR: 'it returns false'. Refute it at one input. -/
def fnMaxFloatsWrong : ChangeSpec := { name := "fnMaxFloats", fn := fun _ => fun
  | [d] => { results := [.lit (.bool false)], args := [d] }
  | _ => none }
def FnMaxFloatsWrongFalsely : Prop := fnMaxFloatsRow.holds Try.pinned (OpenSpec.ofChange fnMaxFloatsWrong)

/-- 'laws.FnMinFloats': WHATEVER THE INPUT: true; the input reads as it did. -/
def fnMinFloatsSpec : ChangeSpec := { name := "fnMinFloats", fn := fun _ => fun
  | [d] => { results := [.lit (.bool true)], args := [d] }
  | _ => none }
def fnMinFloatsRow : OpenClaim := { program := "ytnahhiphofdijaa", sum := "05462e2f949a0cc72921213505be9d93cde151785708f38e1e05232192e0fa1d", func := "loop.example/lib-comparemaps/laws.FnMinFloats", spec := "fnMinFloats", inPlace := ["math.Float64bits", "math.Float64frombits"], apart := false }
def FnMinFloatsSaid : Prop := fnMinFloatsRow.holds Try.pinned (OpenSpec.ofChange fnMinFloatsSpec)

/-- ITS FALSE NEIGHBOUR: 'it returns false'. Refute it at one input. -/
def fnMinFloatsWrong : ChangeSpec := { name := "fnMinFloats", fn := fun _ => fun
  | [d] => { results := [.lit (.bool false)], args := [d] }
  | _ => none }
def FnMinFloatsWrongFalsely : Prop := fnMinFloatsRow.holds Try.pinned (OpenSpec.ofChange fnMinFloatsWrong)

/-- 'laws.FnMaxFloats3': WHATEVER THE INPUT: true; the input reads as it did. -/
def fnMaxFloats3Spec : ChangeSpec := { name := "fnMaxFloats3", fn := fun _ => fun
  | [d] => { results := [.lit (.bool true)], args := [d] }
  | _ => none }
def fnMaxFloats3Row : OpenClaim := { program := "ytnahhiphofdijaa", sum := "05462e2f949a0cc72921213505be9d93cde151785708f38e1e05232192e0fa1d", func := "loop.example/lib-comparemaps/laws.FnMaxFloats3", spec := "fnMaxFloats3", inPlace := ["math.Float64bits", "math.Float64frombits"], apart := false }
def FnMaxFloats3Said : Prop := fnMaxFloats3Row.holds Try.pinned (OpenSpec.ofChange fnMaxFloats3Spec)

/-- ITS FALSE NEIGHBOUR: 'it returns false'. Refute it at one input. -/
def fnMaxFloats3Wrong : ChangeSpec := { name := "fnMaxFloats3", fn := fun _ => fun
  | [d] => { results := [.lit (.bool false)], args := [d] }
  | _ => none }
def FnMaxFloats3WrongFalsely : Prop := fnMaxFloats3Row.holds Try.pinned (OpenSpec.ofChange fnMaxFloats3Wrong)

/-- 'laws.FnMaxFloatsTurned': WHATEVER THE INPUT: true; the input reads as it did. -/
def fnMaxFloatsTurnedSpec : ChangeSpec := { name := "fnMaxFloatsTurned", fn := fun _ => fun
  | [d] => { results := [.lit (.bool true)], args := [d] }
  | _ => none }
def fnMaxFloatsTurnedRow : OpenClaim := { program := "ytnahhiphofdijaa", sum := "05462e2f949a0cc72921213505be9d93cde151785708f38e1e05232192e0fa1d", func := "loop.example/lib-comparemaps/laws.FnMaxFloatsTurned", spec := "fnMaxFloatsTurned", inPlace := ["math.Float64bits", "math.Float64frombits"], apart := false }
def FnMaxFloatsTurnedSaid : Prop := fnMaxFloatsTurnedRow.holds Try.pinned (OpenSpec.ofChange fnMaxFloatsTurnedSpec)

/-- ITS FALSE NEIGHBOUR: 'it returns false'. Refute it at one input. -/
def fnMaxFloatsTurnedWrong : ChangeSpec := { name := "fnMaxFloatsTurned", fn := fun _ => fun
  | [d] => { results := [.lit (.bool false)], args := [d] }
  | _ => none }
def FnMaxFloatsTurnedWrongFalsely : Prop := fnMaxFloatsTurnedRow.holds Try.pinned (OpenSpec.ofChange fnMaxFloatsTurnedWrong)

/-- 'laws.FnMinFloats3': WHATEVER THE INPUT: true; the input reads as it did. -/
def fnMinFloats3Spec : ChangeSpec := { name := "fnMinFloats3", fn := fun _ => fun
  | [d] => { results := [.lit (.bool true)], args := [d] }
  | _ => none }
def fnMinFloats3Row : OpenClaim := { program := "ytnahhiphofdijaa", sum := "05462e2f949a0cc72921213505be9d93cde151785708f38e1e05232192e0fa1d", func := "loop.example/lib-comparemaps/laws.FnMinFloats3", spec := "fnMinFloats3", inPlace := ["math.Float64bits", "math.Float64frombits"], apart := false }
def FnMinFloats3Said : Prop := fnMinFloats3Row.holds Try.pinned (OpenSpec.ofChange fnMinFloats3Spec)

/-- ITS FALSE NEIGHBOUR: 'it returns false'. Refute it at one input. -/
def fnMinFloats3Wrong : ChangeSpec := { name := "fnMinFloats3", fn := fun _ => fun
  | [d] => { results := [.lit (.bool false)], args := [d] }
  | _ => none }
def FnMinFloats3WrongFalsely : Prop := fnMinFloats3Row.holds Try.pinned (OpenSpec.ofChange fnMinFloats3Wrong)

/-- 'laws.FnMinFloatsTurned': WHATEVER THE INPUT: true; the input reads as it did. -/
def fnMinFloatsTurnedSpec : ChangeSpec := { name := "fnMinFloatsTurned", fn := fun _ => fun
  | [d] => { results := [.lit (.bool true)], args := [d] }
  | _ => none }
def fnMinFloatsTurnedRow : OpenClaim := { program := "ytnahhiphofdijaa", sum := "05462e2f949a0cc72921213505be9d93cde151785708f38e1e05232192e0fa1d", func := "loop.example/lib-comparemaps/laws.FnMinFloatsTurned", spec := "fnMinFloatsTurned", inPlace := ["math.Float64bits", "math.Float64frombits"], apart := false }
def FnMinFloatsTurnedSaid : Prop := fnMinFloatsTurnedRow.holds Try.pinned (OpenSpec.ofChange fnMinFloatsTurnedSpec)

/-- ITS FALSE NEIGHBOUR: 'it returns false'. Refute it at one input. -/
def fnMinFloatsTurnedWrong : ChangeSpec := { name := "fnMinFloatsTurned", fn := fun _ => fun
  | [d] => { results := [.lit (.bool false)], args := [d] }
  | _ => none }
def FnMinFloatsTurnedWrongFalsely : Prop := fnMinFloatsTurnedRow.holds Try.pinned (OpenSpec.ofChange fnMinFloatsTurnedWrong)

/-- 'laws.FnMinMaxFloatsApart': WHATEVER THE INPUT: true; the input reads as it did. -/
def fnMinMaxFloatsApartSpec : ChangeSpec := { name := "fnMinMaxFloatsApart", fn := fun _ => fun
  | [d] => { results := [.lit (.bool true)], args := [d] }
  | _ => none }
def fnMinMaxFloatsApartRow : OpenClaim := { program := "ytnahhiphofdijaa", sum := "05462e2f949a0cc72921213505be9d93cde151785708f38e1e05232192e0fa1d", func := "loop.example/lib-comparemaps/laws.FnMinMaxFloatsApart", spec := "fnMinMaxFloatsApart", inPlace := ["math.Float64bits", "math.Float64frombits"], apart := false }
def FnMinMaxFloatsApartSaid : Prop := fnMinMaxFloatsApartRow.holds Try.pinned (OpenSpec.ofChange fnMinMaxFloatsApartSpec)

/-- ITS FALSE NEIGHBOUR: 'it returns false'. Refute it at one input. -/
def fnMinMaxFloatsApartWrong : ChangeSpec := { name := "fnMinMaxFloatsApart", fn := fun _ => fun
  | [d] => { results := [.lit (.bool false)], args := [d] }
  | _ => none }
def FnMinMaxFloatsApartWrongFalsely : Prop := fnMinMaxFloatsApartRow.holds Try.pinned (OpenSpec.ofChange fnMinMaxFloatsApartWrong)

/-- 'laws.FnMaxFloatsOne': WHATEVER THE INPUT: true; the input reads as it did. -/
def fnMaxFloatsOneSpec : ChangeSpec := { name := "fnMaxFloatsOne", fn := fun _ => fun
  | [d] => { results := [.lit (.bool true)], args := [d] }
  | _ => none }
def fnMaxFloatsOneRow : OpenClaim := { program := "ytnahhiphofdijaa", sum := "05462e2f949a0cc72921213505be9d93cde151785708f38e1e05232192e0fa1d", func := "loop.example/lib-comparemaps/laws.FnMaxFloatsOne", spec := "fnMaxFloatsOne", inPlace := ["math.Float64bits", "math.Float64frombits"], apart := false }
def FnMaxFloatsOneSaid : Prop := fnMaxFloatsOneRow.holds Try.pinned (OpenSpec.ofChange fnMaxFloatsOneSpec)

/-- ITS FALSE NEIGHBOUR: 'it returns false'. Refute it at one input. -/
def fnMaxFloatsOneWrong : ChangeSpec := { name := "fnMaxFloatsOne", fn := fun _ => fun
  | [d] => { results := [.lit (.bool false)], args := [d] }
  | _ => none }
def FnMaxFloatsOneWrongFalsely : Prop := fnMaxFloatsOneRow.holds Try.pinned (OpenSpec.ofChange fnMaxFloatsOneWrong)

/-- 'laws.FnMinFloatsOne': WHATEVER THE INPUT: true; the input reads as it did. -/
def fnMinFloatsOneSpec : ChangeSpec := { name := "fnMinFloatsOne", fn := fun _ => fun
  | [d] => { results := [.lit (.bool true)], args := [d] }
  | _ => none }
def fnMinFloatsOneRow : OpenClaim := { program := "ytnahhiphofdijaa", sum := "05462e2f949a0cc72921213505be9d93cde151785708f38e1e05232192e0fa1d", func := "loop.example/lib-comparemaps/laws.FnMinFloatsOne", spec := "fnMinFloatsOne", inPlace := ["math.Float64bits", "math.Float64frombits"], apart := false }
def FnMinFloatsOneSaid : Prop := fnMinFloatsOneRow.holds Try.pinned (OpenSpec.ofChange fnMinFloatsOneSpec)

/-- ITS FALSE NEIGHBOUR: 'it returns false'. Refute it at one input. -/
def fnMinFloatsOneWrong : ChangeSpec := { name := "fnMinFloatsOne", fn := fun _ => fun
  | [d] => { results := [.lit (.bool false)], args := [d] }
  | _ => none }
def FnMinFloatsOneWrongFalsely : Prop := fnMinFloatsOneRow.holds Try.pinned (OpenSpec.ofChange fnMinFloatsOneWrong)

/- THE SECOND FORM. 'bulk': how many values and letters a reading holds, each counted each time it is reached (what is shared counts as often as it is met; a slice's spare places count too). A statement '..UptoSaid' is the law's where the arguments, and the package variables that the reading takes, are together of bulk at most 1048576: NARROWER than '..Said'. Prove '..Said' where nothing that the law and all that it calls make is longer than what came in: it says more and counts as full. Else prove '..UptoSaid'. A law counts once. -/
mutual
def uptoBulk {H : Type} : DataW H → Nat
  | .lit (.string bytes) => bytes.length + 1
  | .lit _ => 1
  | .nil => 1
  | .ptr d => uptoBulk d + 1
  | .slice elems spare => uptoBulkAll elems + uptoBulkAll spare + 1
  | .agg parts => uptoBulkAll parts + 1
  | .iface _ d => uptoBulk d + 1
  | .map entries => uptoBulkEntries entries + 1
  | .held _ => 1
def uptoBulkAll {H : Type} : List (DataW H) → Nat
  | [] => 0
  | d :: r => uptoBulk d + uptoBulkAll r
def uptoBulkEntries {H : Type} : List (Lit × DataW H) → Nat
  | [] => 0
  | x :: r => uptoBulkEntry x + uptoBulkEntries r
def uptoBulkEntry {H : Type} : Lit × DataW H → Nat
  | (.string bytes, d) => bytes.length + uptoBulk d + 1
  | (_, d) => uptoBulk d + 1
 end
def uptoSmall : (H : Type) → List (DataW H) → Bool := fun _ ds => decide (uptoBulkAll ds ≤ 1048576)
def OpenSpec.upto (s : _root_.Go.ChangeSpec) : _root_.Go.OpenSpec := { _root_.Go.OpenSpec.ofChange s with cond := some uptoSmall }

/-- 'laws.FnMinMaxFloats', WHERE WHAT IT READS IS OF BULK AT MOST 1048576: true; the input reads as it did. -/
def fnMinMaxFloatsUptoRow : OpenClaim := { program := "ytnahhiphofdijaa", sum := "05462e2f949a0cc72921213505be9d93cde151785708f38e1e05232192e0fa1d", func := "loop.example/lib-comparemaps/laws.FnMinMaxFloats", spec := "fnMinMaxFloats", inPlace := ["math.Float64bits", "math.Float64frombits"], apart := false, narrowed := true }
def FnMinMaxFloatsUptoSaid : Prop := fnMinMaxFloatsUptoRow.holds Try.pinned (OpenSpec.upto fnMinMaxFloatsSpec)

/-- 'laws.FnMaxFloats', WHERE WHAT IT READS IS OF BULK AT MOST 1048576: true; the input reads as it did. -/
def fnMaxFloatsUptoRow : OpenClaim := { program := "ytnahhiphofdijaa", sum := "05462e2f949a0cc72921213505be9d93cde151785708f38e1e05232192e0fa1d", func := "loop.example/lib-comparemaps/laws.FnMaxFloats", spec := "fnMaxFloats", inPlace := ["math.Float64bits", "math.Float64frombits"], apart := false, narrowed := true }
def FnMaxFloatsUptoSaid : Prop := fnMaxFloatsUptoRow.holds Try.pinned (OpenSpec.upto fnMaxFloatsSpec)

/-- 'laws.FnMinFloats', WHERE WHAT IT READS IS OF BULK AT MOST 1048576: true; the input reads as it did. -/
def fnMinFloatsUptoRow : OpenClaim := { program := "ytnahhiphofdijaa", sum := "05462e2f949a0cc72921213505be9d93cde151785708f38e1e05232192e0fa1d", func := "loop.example/lib-comparemaps/laws.FnMinFloats", spec := "fnMinFloats", inPlace := ["math.Float64bits", "math.Float64frombits"], apart := false, narrowed := true }
def FnMinFloatsUptoSaid : Prop := fnMinFloatsUptoRow.holds Try.pinned (OpenSpec.upto fnMinFloatsSpec)

/-- 'laws.FnMaxFloats3', WHERE WHAT IT READS IS OF BULK AT MOST 1048576: true; the input reads as it did. -/
def fnMaxFloats3UptoRow : OpenClaim := { program := "ytnahhiphofdijaa", sum := "05462e2f949a0cc72921213505be9d93cde151785708f38e1e05232192e0fa1d", func := "loop.example/lib-comparemaps/laws.FnMaxFloats3", spec := "fnMaxFloats3", inPlace := ["math.Float64bits", "math.Float64frombits"], apart := false, narrowed := true }
def FnMaxFloats3UptoSaid : Prop := fnMaxFloats3UptoRow.holds Try.pinned (OpenSpec.upto fnMaxFloats3Spec)

/-- 'laws.FnMaxFloatsTurned', WHERE WHAT IT READS IS OF BULK AT MOST 1048576: true; the input reads as it did. -/
def fnMaxFloatsTurnedUptoRow : OpenClaim := { program := "ytnahhiphofdijaa", sum := "05462e2f949a0cc72921213505be9d93cde151785708f38e1e05232192e0fa1d", func := "loop.example/lib-comparemaps/laws.FnMaxFloatsTurned", spec := "fnMaxFloatsTurned", inPlace := ["math.Float64bits", "math.Float64frombits"], apart := false, narrowed := true }
def FnMaxFloatsTurnedUptoSaid : Prop := fnMaxFloatsTurnedUptoRow.holds Try.pinned (OpenSpec.upto fnMaxFloatsTurnedSpec)

/-- 'laws.FnMinFloats3', WHERE WHAT IT READS IS OF BULK AT MOST 1048576: true; the input reads as it did. -/
def fnMinFloats3UptoRow : OpenClaim := { program := "ytnahhiphofdijaa", sum := "05462e2f949a0cc72921213505be9d93cde151785708f38e1e05232192e0fa1d", func := "loop.example/lib-comparemaps/laws.FnMinFloats3", spec := "fnMinFloats3", inPlace := ["math.Float64bits", "math.Float64frombits"], apart := false, narrowed := true }
def FnMinFloats3UptoSaid : Prop := fnMinFloats3UptoRow.holds Try.pinned (OpenSpec.upto fnMinFloats3Spec)

/-- 'laws.FnMinFloatsTurned', WHERE WHAT IT READS IS OF BULK AT MOST 1048576: true; the input reads as it did. -/
def fnMinFloatsTurnedUptoRow : OpenClaim := { program := "ytnahhiphofdijaa", sum := "05462e2f949a0cc72921213505be9d93cde151785708f38e1e05232192e0fa1d", func := "loop.example/lib-comparemaps/laws.FnMinFloatsTurned", spec := "fnMinFloatsTurned", inPlace := ["math.Float64bits", "math.Float64frombits"], apart := false, narrowed := true }
def FnMinFloatsTurnedUptoSaid : Prop := fnMinFloatsTurnedUptoRow.holds Try.pinned (OpenSpec.upto fnMinFloatsTurnedSpec)

/-- 'laws.FnMinMaxFloatsApart', WHERE WHAT IT READS IS OF BULK AT MOST 1048576: true; the input reads as it did. -/
def fnMinMaxFloatsApartUptoRow : OpenClaim := { program := "ytnahhiphofdijaa", sum := "05462e2f949a0cc72921213505be9d93cde151785708f38e1e05232192e0fa1d", func := "loop.example/lib-comparemaps/laws.FnMinMaxFloatsApart", spec := "fnMinMaxFloatsApart", inPlace := ["math.Float64bits", "math.Float64frombits"], apart := false, narrowed := true }
def FnMinMaxFloatsApartUptoSaid : Prop := fnMinMaxFloatsApartUptoRow.holds Try.pinned (OpenSpec.upto fnMinMaxFloatsApartSpec)

/-- 'laws.FnMaxFloatsOne', WHERE WHAT IT READS IS OF BULK AT MOST 1048576: true; the input reads as it did. -/
def fnMaxFloatsOneUptoRow : OpenClaim := { program := "ytnahhiphofdijaa", sum := "05462e2f949a0cc72921213505be9d93cde151785708f38e1e05232192e0fa1d", func := "loop.example/lib-comparemaps/laws.FnMaxFloatsOne", spec := "fnMaxFloatsOne", inPlace := ["math.Float64bits", "math.Float64frombits"], apart := false, narrowed := true }
def FnMaxFloatsOneUptoSaid : Prop := fnMaxFloatsOneUptoRow.holds Try.pinned (OpenSpec.upto fnMaxFloatsOneSpec)

/-- 'laws.FnMinFloatsOne', WHERE WHAT IT READS IS OF BULK AT MOST 1048576: true; the input reads as it did. -/
def fnMinFloatsOneUptoRow : OpenClaim := { program := "ytnahhiphofdijaa", sum := "05462e2f949a0cc72921213505be9d93cde151785708f38e1e05232192e0fa1d", func := "loop.example/lib-comparemaps/laws.FnMinFloatsOne", spec := "fnMinFloatsOne", inPlace := ["math.Float64bits", "math.Float64frombits"], apart := false, narrowed := true }
def FnMinFloatsOneUptoSaid : Prop := fnMinFloatsOneUptoRow.holds Try.pinned (OpenSpec.upto fnMinFloatsOneSpec)

end Rows
end Go.Proofs.Ytnahhiphofdijaa
