/-
  No cell of these rows narrows 'for every input' (looked for: loops, veiled, ifaces, maps, wideKeys, modest, calm, conditions, laid).
  DERIVED. THE GIVEN ROWS OF THIS SEAT. 10 by the template 'for every input the law returns true; each argument reads behind the call as it read before'; 0 by the template 'total and deterministic' (their statements: YtkeangeaemokhaaTotals.lean).
  GIVEN WITH THE SEED: the statements are not yours to turn. If you find one false, say at which input.
  Laid BY PROGRAM, IN A SANDBOX (cutbox-rows.mjs): the forced cells as the released guide's own fill.sh prints them over the translation 9753debd8b8933c3… (all of the seat's roots in one cut). By AI agents, Wed Nov 11 2026. No macro, syntax, notation, axiom, sorry.
-/
import Derived.Test.YtkeangeaemokhaaChecked
import GoSem.Claim
import GoSem.ClaimJoined
import GoSem.ClaimMapViews
import Derived.JoinedTies
import Derived.KernelRfl
namespace Go.Proofs.Ytkeangeaemokhaa
/- THE CELL 'sum', in the pinned program and in every row, IS THE sha256 OF THE DUMP (.gsa) THAT YtkeangeaemokhaaProg.lean LOADS. Nothing in Lean hashes anything: it is a label: what it is worth is what the hold of that sum in a sandbox is worth. -/
noncomputable def Try.pinned : Pinned := { name := "ytkeangeaemokhaa", sum := "9753debd8b8933c3691c38816bf001a5f08878c32aedef7b0b76d71b237799dc", checked := Try.checked }
namespace Rows
def none {H : Type} : Left H := { results := [], args := [] }

/-- 'laws.FnMinMaxSmalls': WHATEVER THE INPUT: true; the input reads as it did. -/
def fnMinMaxSmallsSpec : ChangeSpec := { name := "fnMinMaxSmalls", fn := fun _ => fun
  | [d] => { results := [.lit (.bool true)], args := [d] }
  | _ => none }
def fnMinMaxSmallsRow : OpenClaim := { program := "ytkeangeaemokhaa", sum := "9753debd8b8933c3691c38816bf001a5f08878c32aedef7b0b76d71b237799dc", func := "loop.example/lib-comparemaps/laws.FnMinMaxSmalls", spec := "fnMinMaxSmalls", inPlace := ["math.Float64bits", "math.Float64frombits", "math.Float32frombits"], apart := false }
def FnMinMaxSmallsSaid : Prop := fnMinMaxSmallsRow.holds Try.pinned (OpenSpec.ofChange fnMinMaxSmallsSpec)

/-- ITS FALSE NEIGHBOUR: 'it returns false'. Refute it at one input. -/
def fnMinMaxSmallsWrong : ChangeSpec := { name := "fnMinMaxSmalls", fn := fun _ => fun
  | [d] => { results := [.lit (.bool false)], args := [d] }
  | _ => none }
def FnMinMaxSmallsWrongFalsely : Prop := fnMinMaxSmallsRow.holds Try.pinned (OpenSpec.ofChange fnMinMaxSmallsWrong)

/-- 'laws.FnMaxSmalls': WHATEVER THE INPUT: true; the input reads as it did. -/
def fnMaxSmallsSpec : ChangeSpec := { name := "fnMaxSmalls", fn := fun _ => fun
  | [d] => { results := [.lit (.bool true)], args := [d] }
  | _ => none }
def fnMaxSmallsRow : OpenClaim := { program := "ytkeangeaemokhaa", sum := "9753debd8b8933c3691c38816bf001a5f08878c32aedef7b0b76d71b237799dc", func := "loop.example/lib-comparemaps/laws.FnMaxSmalls", spec := "fnMaxSmalls", inPlace := ["math.Float64bits", "math.Float64frombits", "math.Float32frombits"], apart := false }
def FnMaxSmallsSaid : Prop := fnMaxSmallsRow.holds Try.pinned (OpenSpec.ofChange fnMaxSmallsSpec)

/-- ITS FALSE NEIGHBOUR: 'it returns false'. Refute it at one input. -/
def fnMaxSmallsWrong : ChangeSpec := { name := "fnMaxSmalls", fn := fun _ => fun
  | [d] => { results := [.lit (.bool false)], args := [d] }
  | _ => none }
def FnMaxSmallsWrongFalsely : Prop := fnMaxSmallsRow.holds Try.pinned (OpenSpec.ofChange fnMaxSmallsWrong)

/-- 'laws.FnMinSmalls': WHATEVER THE INPUT: true; the input reads as it did. -/
def fnMinSmallsSpec : ChangeSpec := { name := "fnMinSmalls", fn := fun _ => fun
  | [d] => { results := [.lit (.bool true)], args := [d] }
  | _ => none }
def fnMinSmallsRow : OpenClaim := { program := "ytkeangeaemokhaa", sum := "9753debd8b8933c3691c38816bf001a5f08878c32aedef7b0b76d71b237799dc", func := "loop.example/lib-comparemaps/laws.FnMinSmalls", spec := "fnMinSmalls", inPlace := ["math.Float64bits", "math.Float64frombits", "math.Float32frombits"], apart := false }
def FnMinSmallsSaid : Prop := fnMinSmallsRow.holds Try.pinned (OpenSpec.ofChange fnMinSmallsSpec)

/-- ITS FALSE NEIGHBOUR: 'it returns false'. Refute it at one input. -/
def fnMinSmallsWrong : ChangeSpec := { name := "fnMinSmalls", fn := fun _ => fun
  | [d] => { results := [.lit (.bool false)], args := [d] }
  | _ => none }
def FnMinSmallsWrongFalsely : Prop := fnMinSmallsRow.holds Try.pinned (OpenSpec.ofChange fnMinSmallsWrong)

/-- 'laws.FnMaxSmalls3': WHATEVER THE INPUT: true; the input reads as it did. -/
def fnMaxSmalls3Spec : ChangeSpec := { name := "fnMaxSmalls3", fn := fun _ => fun
  | [d] => { results := [.lit (.bool true)], args := [d] }
  | _ => none }
def fnMaxSmalls3Row : OpenClaim := { program := "ytkeangeaemokhaa", sum := "9753debd8b8933c3691c38816bf001a5f08878c32aedef7b0b76d71b237799dc", func := "loop.example/lib-comparemaps/laws.FnMaxSmalls3", spec := "fnMaxSmalls3", inPlace := ["math.Float64bits", "math.Float64frombits", "math.Float32frombits"], apart := false }
def FnMaxSmalls3Said : Prop := fnMaxSmalls3Row.holds Try.pinned (OpenSpec.ofChange fnMaxSmalls3Spec)

/-- ITS FALSE NEIGHBOUR: 'it returns false'. Refute it at one input. -/
def fnMaxSmalls3Wrong : ChangeSpec := { name := "fnMaxSmalls3", fn := fun _ => fun
  | [d] => { results := [.lit (.bool false)], args := [d] }
  | _ => none }
def FnMaxSmalls3WrongFalsely : Prop := fnMaxSmalls3Row.holds Try.pinned (OpenSpec.ofChange fnMaxSmalls3Wrong)

/-- 'laws.FnMaxSmallsTurned': WHATEVER THE INPUT: true; the input reads as it did. -/
def fnMaxSmallsTurnedSpec : ChangeSpec := { name := "fnMaxSmallsTurned", fn := fun _ => fun
  | [d] => { results := [.lit (.bool true)], args := [d] }
  | _ => none }
def fnMaxSmallsTurnedRow : OpenClaim := { program := "ytkeangeaemokhaa", sum := "9753debd8b8933c3691c38816bf001a5f08878c32aedef7b0b76d71b237799dc", func := "loop.example/lib-comparemaps/laws.FnMaxSmallsTurned", spec := "fnMaxSmallsTurned", inPlace := ["math.Float64bits", "math.Float64frombits", "math.Float32frombits"], apart := false }
def FnMaxSmallsTurnedSaid : Prop := fnMaxSmallsTurnedRow.holds Try.pinned (OpenSpec.ofChange fnMaxSmallsTurnedSpec)

/-- ITS FALSE NEIGHBOUR: 'it returns false'. Refute it at one input. -/
def fnMaxSmallsTurnedWrong : ChangeSpec := { name := "fnMaxSmallsTurned", fn := fun _ => fun
  | [d] => { results := [.lit (.bool false)], args := [d] }
  | _ => none }
def FnMaxSmallsTurnedWrongFalsely : Prop := fnMaxSmallsTurnedRow.holds Try.pinned (OpenSpec.ofChange fnMaxSmallsTurnedWrong)

/-- 'laws.FnMinMaxSmallsApart': WHATEVER THE INPUT: true; the input reads as it did. -/
def fnMinMaxSmallsApartSpec : ChangeSpec := { name := "fnMinMaxSmallsApart", fn := fun _ => fun
  | [d] => { results := [.lit (.bool true)], args := [d] }
  | _ => none }
def fnMinMaxSmallsApartRow : OpenClaim := { program := "ytkeangeaemokhaa", sum := "9753debd8b8933c3691c38816bf001a5f08878c32aedef7b0b76d71b237799dc", func := "loop.example/lib-comparemaps/laws.FnMinMaxSmallsApart", spec := "fnMinMaxSmallsApart", inPlace := ["math.Float64bits", "math.Float64frombits", "math.Float32frombits"], apart := false }
def FnMinMaxSmallsApartSaid : Prop := fnMinMaxSmallsApartRow.holds Try.pinned (OpenSpec.ofChange fnMinMaxSmallsApartSpec)

/-- ITS FALSE NEIGHBOUR: 'it returns false'. Refute it at one input. -/
def fnMinMaxSmallsApartWrong : ChangeSpec := { name := "fnMinMaxSmallsApart", fn := fun _ => fun
  | [d] => { results := [.lit (.bool false)], args := [d] }
  | _ => none }
def FnMinMaxSmallsApartWrongFalsely : Prop := fnMinMaxSmallsApartRow.holds Try.pinned (OpenSpec.ofChange fnMinMaxSmallsApartWrong)

/-- 'laws.FnMinSmalls3': WHATEVER THE INPUT: true; the input reads as it did. -/
def fnMinSmalls3Spec : ChangeSpec := { name := "fnMinSmalls3", fn := fun _ => fun
  | [d] => { results := [.lit (.bool true)], args := [d] }
  | _ => none }
def fnMinSmalls3Row : OpenClaim := { program := "ytkeangeaemokhaa", sum := "9753debd8b8933c3691c38816bf001a5f08878c32aedef7b0b76d71b237799dc", func := "loop.example/lib-comparemaps/laws.FnMinSmalls3", spec := "fnMinSmalls3", inPlace := ["math.Float64bits", "math.Float64frombits", "math.Float32frombits"], apart := false }
def FnMinSmalls3Said : Prop := fnMinSmalls3Row.holds Try.pinned (OpenSpec.ofChange fnMinSmalls3Spec)

/-- ITS FALSE NEIGHBOUR: 'it returns false'. Refute it at one input. -/
def fnMinSmalls3Wrong : ChangeSpec := { name := "fnMinSmalls3", fn := fun _ => fun
  | [d] => { results := [.lit (.bool false)], args := [d] }
  | _ => none }
def FnMinSmalls3WrongFalsely : Prop := fnMinSmalls3Row.holds Try.pinned (OpenSpec.ofChange fnMinSmalls3Wrong)

/-- 'laws.FnMinSmallsTurned': WHATEVER THE INPUT: true; the input reads as it did. -/
def fnMinSmallsTurnedSpec : ChangeSpec := { name := "fnMinSmallsTurned", fn := fun _ => fun
  | [d] => { results := [.lit (.bool true)], args := [d] }
  | _ => none }
def fnMinSmallsTurnedRow : OpenClaim := { program := "ytkeangeaemokhaa", sum := "9753debd8b8933c3691c38816bf001a5f08878c32aedef7b0b76d71b237799dc", func := "loop.example/lib-comparemaps/laws.FnMinSmallsTurned", spec := "fnMinSmallsTurned", inPlace := ["math.Float64bits", "math.Float64frombits", "math.Float32frombits"], apart := false }
def FnMinSmallsTurnedSaid : Prop := fnMinSmallsTurnedRow.holds Try.pinned (OpenSpec.ofChange fnMinSmallsTurnedSpec)

/-- ITS FALSE NEIGHBOUR: 'it returns false'. Refute it at one input. -/
def fnMinSmallsTurnedWrong : ChangeSpec := { name := "fnMinSmallsTurned", fn := fun _ => fun
  | [d] => { results := [.lit (.bool false)], args := [d] }
  | _ => none }
def FnMinSmallsTurnedWrongFalsely : Prop := fnMinSmallsTurnedRow.holds Try.pinned (OpenSpec.ofChange fnMinSmallsTurnedWrong)

/-- 'laws.FnMaxSmallsOne': WHATEVER THE INPUT: true; the input reads as it did. -/
def fnMaxSmallsOneSpec : ChangeSpec := { name := "fnMaxSmallsOne", fn := fun _ => fun
  | [d] => { results := [.lit (.bool true)], args := [d] }
  | _ => none }
def fnMaxSmallsOneRow : OpenClaim := { program := "ytkeangeaemokhaa", sum := "9753debd8b8933c3691c38816bf001a5f08878c32aedef7b0b76d71b237799dc", func := "loop.example/lib-comparemaps/laws.FnMaxSmallsOne", spec := "fnMaxSmallsOne", inPlace := ["math.Float64bits", "math.Float64frombits", "math.Float32frombits"], apart := false }
def FnMaxSmallsOneSaid : Prop := fnMaxSmallsOneRow.holds Try.pinned (OpenSpec.ofChange fnMaxSmallsOneSpec)

/-- ITS FALSE NEIGHBOUR: 'it returns false'. Refute it at one input. -/
def fnMaxSmallsOneWrong : ChangeSpec := { name := "fnMaxSmallsOne", fn := fun _ => fun
  | [d] => { results := [.lit (.bool false)], args := [d] }
  | _ => none }
def FnMaxSmallsOneWrongFalsely : Prop := fnMaxSmallsOneRow.holds Try.pinned (OpenSpec.ofChange fnMaxSmallsOneWrong)

/-- 'laws.FnMinSmallsOne': WHATEVER THE INPUT: true; the input reads as it did. -/
def fnMinSmallsOneSpec : ChangeSpec := { name := "fnMinSmallsOne", fn := fun _ => fun
  | [d] => { results := [.lit (.bool true)], args := [d] }
  | _ => none }
def fnMinSmallsOneRow : OpenClaim := { program := "ytkeangeaemokhaa", sum := "9753debd8b8933c3691c38816bf001a5f08878c32aedef7b0b76d71b237799dc", func := "loop.example/lib-comparemaps/laws.FnMinSmallsOne", spec := "fnMinSmallsOne", inPlace := ["math.Float64bits", "math.Float64frombits", "math.Float32frombits"], apart := false }
def FnMinSmallsOneSaid : Prop := fnMinSmallsOneRow.holds Try.pinned (OpenSpec.ofChange fnMinSmallsOneSpec)

/-- ITS FALSE NEIGHBOUR: 'it returns false'. Refute it at one input. -/
def fnMinSmallsOneWrong : ChangeSpec := { name := "fnMinSmallsOne", fn := fun _ => fun
  | [d] => { results := [.lit (.bool false)], args := [d] }
  | _ => none }
def FnMinSmallsOneWrongFalsely : Prop := fnMinSmallsOneRow.holds Try.pinned (OpenSpec.ofChange fnMinSmallsOneWrong)

/- THE SECOND FORM. 'bulk': how many values and letters a reading holds, each counted each time it is reached (what is shared counts as often as it is met; a slice's spare places count too). A statement '..UptoSaid' is the law's where the arguments, and the package variables that the reading takes, are together of bulk at most 1048576: NARROWER than '..Said'. Prove '..Said' where nothing that the law and all that it calls make is longer than what came in: it says more and counts as full. Else prove '..UptoSaid'. A law counts once. -/
mutual
def uptoBulk {H : Type} : DataW H → Nat
  | .lit (.string bytes) => bytes.length + 1
  | .lit _ => 1
  | .nil => 1
  | .ptr d => uptoBulk d + 1
  | .slice elems spare => uptoBulkAll elems + uptoBulkAll spare + 1
  | .agg parts => uptoBulkAll parts + 1
  | .iface _ d => uptoBulk d + 1
  | .map entries => uptoBulkEntries entries + 1
  | .held _ => 1
def uptoBulkAll {H : Type} : List (DataW H) → Nat
  | [] => 0
  | d :: r => uptoBulk d + uptoBulkAll r
def uptoBulkEntries {H : Type} : List (Lit × DataW H) → Nat
  | [] => 0
  | x :: r => uptoBulkEntry x + uptoBulkEntries r
def uptoBulkEntry {H : Type} : Lit × DataW H → Nat
  | (.string bytes, d) => bytes.length + uptoBulk d + 1
  | (_, d) => uptoBulk d + 1
 end
def uptoSmall : (H : Type) → List (DataW H) → Bool := fun _ ds => decide (uptoBulkAll ds ≤ 1048576)
def OpenSpec.upto (s : _root_.Go.ChangeSpec) : _root_.Go.OpenSpec := { _root_.Go.OpenSpec.ofChange s with cond := some uptoSmall }

/-- 'laws.FnMinMaxSmalls', WHERE WHAT IT READS IS OF BULK AT MOST 1048576: true; the input reads as it did. -/
def fnMinMaxSmallsUptoRow : OpenClaim := { program := "ytkeangeaemokhaa", sum := "9753debd8b8933c3691c38816bf001a5f08878c32aedef7b0b76d71b237799dc", func := "loop.example/lib-comparemaps/laws.FnMinMaxSmalls", spec := "fnMinMaxSmalls", inPlace := ["math.Float64bits", "math.Float64frombits", "math.Float32frombits"], apart := false, narrowed := true }
def FnMinMaxSmallsUptoSaid : Prop := fnMinMaxSmallsUptoRow.holds Try.pinned (OpenSpec.upto fnMinMaxSmallsSpec)

/-- 'laws.FnMaxSmalls', WHERE WHAT IT READS IS OF BULK AT MOST 1048576: true; the input reads as it did. -/
def fnMaxSmallsUptoRow : OpenClaim := { program := "ytkeangeaemokhaa", sum := "9753debd8b8933c3691c38816bf001a5f08878c32aedef7b0b76d71b237799dc", func := "loop.example/lib-comparemaps/laws.FnMaxSmalls", spec := "fnMaxSmalls", inPlace := ["math.Float64bits", "math.Float64frombits", "math.Float32frombits"], apart := false, narrowed := true }
def FnMaxSmallsUptoSaid : Prop := fnMaxSmallsUptoRow.holds Try.pinned (OpenSpec.upto fnMaxSmallsSpec)

/-- 'laws.FnMinSmalls', WHERE WHAT IT READS IS OF BULK AT MOST 1048576: true; the input reads as it did. -/
def fnMinSmallsUptoRow : OpenClaim := { program := "ytkeangeaemokhaa", sum := "9753debd8b8933c3691c38816bf001a5f08878c32aedef7b0b76d71b237799dc", func := "loop.example/lib-comparemaps/laws.FnMinSmalls", spec := "fnMinSmalls", inPlace := ["math.Float64bits", "math.Float64frombits", "math.Float32frombits"], apart := false, narrowed := true }
def FnMinSmallsUptoSaid : Prop := fnMinSmallsUptoRow.holds Try.pinned (OpenSpec.upto fnMinSmallsSpec)

/-- 'laws.FnMaxSmalls3', WHERE WHAT IT READS IS OF BULK AT MOST 1048576: true; the input reads as it did. -/
def fnMaxSmalls3UptoRow : OpenClaim := { program := "ytkeangeaemokhaa", sum := "9753debd8b8933c3691c38816bf001a5f08878c32aedef7b0b76d71b237799dc", func := "loop.example/lib-comparemaps/laws.FnMaxSmalls3", spec := "fnMaxSmalls3", inPlace := ["math.Float64bits", "math.Float64frombits", "math.Float32frombits"], apart := false, narrowed := true }
def FnMaxSmalls3UptoSaid : Prop := fnMaxSmalls3UptoRow.holds Try.pinned (OpenSpec.upto fnMaxSmalls3Spec)

/-- 'laws.FnMaxSmallsTurned', WHERE WHAT IT READS IS OF BULK AT MOST 1048576: true; the input reads as it did. -/
def fnMaxSmallsTurnedUptoRow : OpenClaim := { program := "ytkeangeaemokhaa", sum := "9753debd8b8933c3691c38816bf001a5f08878c32aedef7b0b76d71b237799dc", func := "loop.example/lib-comparemaps/laws.FnMaxSmallsTurned", spec := "fnMaxSmallsTurned", inPlace := ["math.Float64bits", "math.Float64frombits", "math.Float32frombits"], apart := false, narrowed := true }
def FnMaxSmallsTurnedUptoSaid : Prop := fnMaxSmallsTurnedUptoRow.holds Try.pinned (OpenSpec.upto fnMaxSmallsTurnedSpec)

/-- 'laws.FnMinMaxSmallsApart', WHERE WHAT IT READS IS OF BULK AT MOST 1048576: true; the input reads as it did. -/
def fnMinMaxSmallsApartUptoRow : OpenClaim := { program := "ytkeangeaemokhaa", sum := "9753debd8b8933c3691c38816bf001a5f08878c32aedef7b0b76d71b237799dc", func := "loop.example/lib-comparemaps/laws.FnMinMaxSmallsApart", spec := "fnMinMaxSmallsApart", inPlace := ["math.Float64bits", "math.Float64frombits", "math.Float32frombits"], apart := false, narrowed := true }
def FnMinMaxSmallsApartUptoSaid : Prop := fnMinMaxSmallsApartUptoRow.holds Try.pinned (OpenSpec.upto fnMinMaxSmallsApartSpec)

/-- 'laws.FnMinSmalls3', WHERE WHAT IT READS IS OF BULK AT MOST 1048576: true; the input reads as it did. -/
def fnMinSmalls3UptoRow : OpenClaim := { program := "ytkeangeaemokhaa", sum := "9753debd8b8933c3691c38816bf001a5f08878c32aedef7b0b76d71b237799dc", func := "loop.example/lib-comparemaps/laws.FnMinSmalls3", spec := "fnMinSmalls3", inPlace := ["math.Float64bits", "math.Float64frombits", "math.Float32frombits"], apart := false, narrowed := true }
def FnMinSmalls3UptoSaid : Prop := fnMinSmalls3UptoRow.holds Try.pinned (OpenSpec.upto fnMinSmalls3Spec)

/-- 'laws.FnMinSmallsTurned', WHERE WHAT IT READS IS OF BULK AT MOST 1048576: true; the input reads as it did. -/
def fnMinSmallsTurnedUptoRow : OpenClaim := { program := "ytkeangeaemokhaa", sum := "9753debd8b8933c3691c38816bf001a5f08878c32aedef7b0b76d71b237799dc", func := "loop.example/lib-comparemaps/laws.FnMinSmallsTurned", spec := "fnMinSmallsTurned", inPlace := ["math.Float64bits", "math.Float64frombits", "math.Float32frombits"], apart := false, narrowed := true }
def FnMinSmallsTurnedUptoSaid : Prop := fnMinSmallsTurnedUptoRow.holds Try.pinned (OpenSpec.upto fnMinSmallsTurnedSpec)

/-- 'laws.FnMaxSmallsOne', WHERE WHAT IT READS IS OF BULK AT MOST 1048576: true; the input reads as it did. -/
def fnMaxSmallsOneUptoRow : OpenClaim := { program := "ytkeangeaemokhaa", sum := "9753debd8b8933c3691c38816bf001a5f08878c32aedef7b0b76d71b237799dc", func := "loop.example/lib-comparemaps/laws.FnMaxSmallsOne", spec := "fnMaxSmallsOne", inPlace := ["math.Float64bits", "math.Float64frombits", "math.Float32frombits"], apart := false, narrowed := true }
def FnMaxSmallsOneUptoSaid : Prop := fnMaxSmallsOneUptoRow.holds Try.pinned (OpenSpec.upto fnMaxSmallsOneSpec)

/-- 'laws.FnMinSmallsOne', WHERE WHAT IT READS IS OF BULK AT MOST 1048576: true; the input reads as it did. -/
def fnMinSmallsOneUptoRow : OpenClaim := { program := "ytkeangeaemokhaa", sum := "9753debd8b8933c3691c38816bf001a5f08878c32aedef7b0b76d71b237799dc", func := "loop.example/lib-comparemaps/laws.FnMinSmallsOne", spec := "fnMinSmallsOne", inPlace := ["math.Float64bits", "math.Float64frombits", "math.Float32frombits"], apart := false, narrowed := true }
def FnMinSmallsOneUptoSaid : Prop := fnMinSmallsOneUptoRow.holds Try.pinned (OpenSpec.upto fnMinSmallsOneSpec)

end Rows
end Go.Proofs.Ytkeangeaemokhaa
