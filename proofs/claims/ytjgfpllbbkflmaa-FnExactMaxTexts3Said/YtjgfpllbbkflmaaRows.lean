/-
  No cell of these rows narrows 'for every input' (looked for: loops, veiled, ifaces, maps, wideKeys, modest, calm, conditions, laid).
  DERIVED. THE GIVEN ROWS OF THIS SEAT. 12 by the template 'for every input the law returns true; each argument reads behind the call as it read before'; 0 by the template 'total and deterministic' (their statements: YtjgfpllbbkflmaaTotals.lean).
  GIVEN WITH THE SEED: the statements are not yours to turn. If you find one false, say at which input.
  Laid BY PROGRAM, IN A SANDBOX (cutbox-rows.mjs): the forced cells as the released guide's own fill.sh prints them over the translation 33f8689a51eabe37… (all of the seat's roots in one cut). By AI agents, Wed Nov 11 2026. No macro, syntax, notation, axiom, sorry.
-/
import Derived.Test.YtjgfpllbbkflmaaChecked
import GoSem.Claim
import GoSem.ClaimJoined
import GoSem.ClaimMapViews
import Derived.JoinedTies
import Derived.KernelRfl
namespace Go.Proofs.Ytjgfpllbbkflmaa
/- THE CELL 'sum', in the pinned program and in every row, IS THE sha256 OF THE DUMP (.gsa) THAT YtjgfpllbbkflmaaProg.lean LOADS. Nothing in Lean hashes anything: it is a label: what it is worth is what the hold of that sum in a sandbox is worth. -/
noncomputable def Try.pinned : Pinned := { name := "ytjgfpllbbkflmaa", sum := "33f8689a51eabe379a31a47a3164bf3ce9101097005276414a736c35279e74c9", checked := Try.checked }
namespace Rows
def none {H : Type} : Left H := { results := [], args := [] }

/-- 'laws.FnExactMaxInts': WHATEVER THE INPUT: true; the input reads as it did. -/
def fnExactMaxIntsSpec : ChangeSpec := { name := "fnExactMaxInts", fn := fun _ => fun
  | [d1, d2] => { results := [.lit (.bool true)], args := [d1, d2] }
  | _ => none }
def fnExactMaxIntsRow : OpenClaim := { program := "ytjgfpllbbkflmaa", sum := "33f8689a51eabe379a31a47a3164bf3ce9101097005276414a736c35279e74c9", func := "loop.example/lib-comparemaps/laws.FnExactMaxInts", spec := "fnExactMaxInts", apart := false }
def FnExactMaxIntsSaid : Prop := fnExactMaxIntsRow.holds Try.pinned (OpenSpec.ofChange fnExactMaxIntsSpec)

/-- ITS FALSE NEIGHBOUR: 'it returns false'. Refute it at one input. -/
def fnExactMaxIntsWrong : ChangeSpec := { name := "fnExactMaxInts", fn := fun _ => fun
  | [d1, d2] => { results := [.lit (.bool false)], args := [d1, d2] }
  | _ => none }
def FnExactMaxIntsWrongFalsely : Prop := fnExactMaxIntsRow.holds Try.pinned (OpenSpec.ofChange fnExactMaxIntsWrong)

/-- 'laws.FnExactMaxInts3': WHATEVER THE INPUT: true; the input reads as it did. -/
def fnExactMaxInts3Spec : ChangeSpec := { name := "fnExactMaxInts3", fn := fun _ => fun
  | [d1, d2, d3] => { results := [.lit (.bool true)], args := [d1, d2, d3] }
  | _ => none }
def fnExactMaxInts3Row : OpenClaim := { program := "ytjgfpllbbkflmaa", sum := "33f8689a51eabe379a31a47a3164bf3ce9101097005276414a736c35279e74c9", func := "loop.example/lib-comparemaps/laws.FnExactMaxInts3", spec := "fnExactMaxInts3", apart := false }
def FnExactMaxInts3Said : Prop := fnExactMaxInts3Row.holds Try.pinned (OpenSpec.ofChange fnExactMaxInts3Spec)

/-- ITS FALSE NEIGHBOUR: 'it returns false'. Refute it at one input. -/
def fnExactMaxInts3Wrong : ChangeSpec := { name := "fnExactMaxInts3", fn := fun _ => fun
  | [d1, d2, d3] => { results := [.lit (.bool false)], args := [d1, d2, d3] }
  | _ => none }
def FnExactMaxInts3WrongFalsely : Prop := fnExactMaxInts3Row.holds Try.pinned (OpenSpec.ofChange fnExactMaxInts3Wrong)

/-- 'laws.FnExactMaxTexts': WHATEVER THE INPUT: true; the input reads as it did. -/
def fnExactMaxTextsSpec : ChangeSpec := { name := "fnExactMaxTexts", fn := fun _ => fun
  | [d1, d2] => { results := [.lit (.bool true)], args := [d1, d2] }
  | _ => none }
def fnExactMaxTextsRow : OpenClaim := { program := "ytjgfpllbbkflmaa", sum := "33f8689a51eabe379a31a47a3164bf3ce9101097005276414a736c35279e74c9", func := "loop.example/lib-comparemaps/laws.FnExactMaxTexts", spec := "fnExactMaxTexts", apart := false }
def FnExactMaxTextsSaid : Prop := fnExactMaxTextsRow.holds Try.pinned (OpenSpec.ofChange fnExactMaxTextsSpec)

/-- ITS FALSE NEIGHBOUR: 'it returns false'. Refute it at one input. -/
def fnExactMaxTextsWrong : ChangeSpec := { name := "fnExactMaxTexts", fn := fun _ => fun
  | [d1, d2] => { results := [.lit (.bool false)], args := [d1, d2] }
  | _ => none }
def FnExactMaxTextsWrongFalsely : Prop := fnExactMaxTextsRow.holds Try.pinned (OpenSpec.ofChange fnExactMaxTextsWrong)

/-- 'laws.FnExactMaxTexts3': WHATEVER THE INPUT: true; the input reads as it did. -/
def fnExactMaxTexts3Spec : ChangeSpec := { name := "fnExactMaxTexts3", fn := fun _ => fun
  | [d1, d2, d3] => { results := [.lit (.bool true)], args := [d1, d2, d3] }
  | _ => none }
def fnExactMaxTexts3Row : OpenClaim := { program := "ytjgfpllbbkflmaa", sum := "33f8689a51eabe379a31a47a3164bf3ce9101097005276414a736c35279e74c9", func := "loop.example/lib-comparemaps/laws.FnExactMaxTexts3", spec := "fnExactMaxTexts3", apart := false }
def FnExactMaxTexts3Said : Prop := fnExactMaxTexts3Row.holds Try.pinned (OpenSpec.ofChange fnExactMaxTexts3Spec)

/-- ITS FALSE NEIGHBOUR: 'it returns false'. Refute it at one input. -/
def fnExactMaxTexts3Wrong : ChangeSpec := { name := "fnExactMaxTexts3", fn := fun _ => fun
  | [d1, d2, d3] => { results := [.lit (.bool false)], args := [d1, d2, d3] }
  | _ => none }
def FnExactMaxTexts3WrongFalsely : Prop := fnExactMaxTexts3Row.holds Try.pinned (OpenSpec.ofChange fnExactMaxTexts3Wrong)

/-- 'laws.FnExactMaxUints': WHATEVER THE INPUT: true; the input reads as it did. -/
def fnExactMaxUintsSpec : ChangeSpec := { name := "fnExactMaxUints", fn := fun _ => fun
  | [d1, d2] => { results := [.lit (.bool true)], args := [d1, d2] }
  | _ => none }
def fnExactMaxUintsRow : OpenClaim := { program := "ytjgfpllbbkflmaa", sum := "33f8689a51eabe379a31a47a3164bf3ce9101097005276414a736c35279e74c9", func := "loop.example/lib-comparemaps/laws.FnExactMaxUints", spec := "fnExactMaxUints", apart := false }
def FnExactMaxUintsSaid : Prop := fnExactMaxUintsRow.holds Try.pinned (OpenSpec.ofChange fnExactMaxUintsSpec)

/-- ITS FALSE NEIGHBOUR: 'it returns false'. Refute it at one input. -/
def fnExactMaxUintsWrong : ChangeSpec := { name := "fnExactMaxUints", fn := fun _ => fun
  | [d1, d2] => { results := [.lit (.bool false)], args := [d1, d2] }
  | _ => none }
def FnExactMaxUintsWrongFalsely : Prop := fnExactMaxUintsRow.holds Try.pinned (OpenSpec.ofChange fnExactMaxUintsWrong)

/-- 'laws.FnExactMaxUints3': WHATEVER THE INPUT: true; the input reads as it did. -/
def fnExactMaxUints3Spec : ChangeSpec := { name := "fnExactMaxUints3", fn := fun _ => fun
  | [d1, d2, d3] => { results := [.lit (.bool true)], args := [d1, d2, d3] }
  | _ => none }
def fnExactMaxUints3Row : OpenClaim := { program := "ytjgfpllbbkflmaa", sum := "33f8689a51eabe379a31a47a3164bf3ce9101097005276414a736c35279e74c9", func := "loop.example/lib-comparemaps/laws.FnExactMaxUints3", spec := "fnExactMaxUints3", apart := false }
def FnExactMaxUints3Said : Prop := fnExactMaxUints3Row.holds Try.pinned (OpenSpec.ofChange fnExactMaxUints3Spec)

/-- ITS FALSE NEIGHBOUR: 'it returns false'. Refute it at one input. -/
def fnExactMaxUints3Wrong : ChangeSpec := { name := "fnExactMaxUints3", fn := fun _ => fun
  | [d1, d2, d3] => { results := [.lit (.bool false)], args := [d1, d2, d3] }
  | _ => none }
def FnExactMaxUints3WrongFalsely : Prop := fnExactMaxUints3Row.holds Try.pinned (OpenSpec.ofChange fnExactMaxUints3Wrong)

/-- 'laws.FnExactMinInts': WHATEVER THE INPUT: true; the input reads as it did. -/
def fnExactMinIntsSpec : ChangeSpec := { name := "fnExactMinInts", fn := fun _ => fun
  | [d1, d2] => { results := [.lit (.bool true)], args := [d1, d2] }
  | _ => none }
def fnExactMinIntsRow : OpenClaim := { program := "ytjgfpllbbkflmaa", sum := "33f8689a51eabe379a31a47a3164bf3ce9101097005276414a736c35279e74c9", func := "loop.example/lib-comparemaps/laws.FnExactMinInts", spec := "fnExactMinInts", apart := false }
def FnExactMinIntsSaid : Prop := fnExactMinIntsRow.holds Try.pinned (OpenSpec.ofChange fnExactMinIntsSpec)

/-- ITS FALSE NEIGHBOUR: 'it returns false'. Refute it at one input. -/
def fnExactMinIntsWrong : ChangeSpec := { name := "fnExactMinInts", fn := fun _ => fun
  | [d1, d2] => { results := [.lit (.bool false)], args := [d1, d2] }
  | _ => none }
def FnExactMinIntsWrongFalsely : Prop := fnExactMinIntsRow.holds Try.pinned (OpenSpec.ofChange fnExactMinIntsWrong)

/-- 'laws.FnExactMinInts3': WHATEVER THE INPUT: true; the input reads as it did. -/
def fnExactMinInts3Spec : ChangeSpec := { name := "fnExactMinInts3", fn := fun _ => fun
  | [d1, d2, d3] => { results := [.lit (.bool true)], args := [d1, d2, d3] }
  | _ => none }
def fnExactMinInts3Row : OpenClaim := { program := "ytjgfpllbbkflmaa", sum := "33f8689a51eabe379a31a47a3164bf3ce9101097005276414a736c35279e74c9", func := "loop.example/lib-comparemaps/laws.FnExactMinInts3", spec := "fnExactMinInts3", apart := false }
def FnExactMinInts3Said : Prop := fnExactMinInts3Row.holds Try.pinned (OpenSpec.ofChange fnExactMinInts3Spec)

/-- ITS FALSE NEIGHBOUR: 'it returns false'. Refute it at one input. -/
def fnExactMinInts3Wrong : ChangeSpec := { name := "fnExactMinInts3", fn := fun _ => fun
  | [d1, d2, d3] => { results := [.lit (.bool false)], args := [d1, d2, d3] }
  | _ => none }
def FnExactMinInts3WrongFalsely : Prop := fnExactMinInts3Row.holds Try.pinned (OpenSpec.ofChange fnExactMinInts3Wrong)

/-- 'laws.FnExactMinTexts': WHATEVER THE INPUT: true; the input reads as it did. -/
def fnExactMinTextsSpec : ChangeSpec := { name := "fnExactMinTexts", fn := fun _ => fun
  | [d1, d2] => { results := [.lit (.bool true)], args := [d1, d2] }
  | _ => none }
def fnExactMinTextsRow : OpenClaim := { program := "ytjgfpllbbkflmaa", sum := "33f8689a51eabe379a31a47a3164bf3ce9101097005276414a736c35279e74c9", func := "loop.example/lib-comparemaps/laws.FnExactMinTexts", spec := "fnExactMinTexts", apart := false }
def FnExactMinTextsSaid : Prop := fnExactMinTextsRow.holds Try.pinned (OpenSpec.ofChange fnExactMinTextsSpec)

/-- ITS FALSE NEIGHBOUR: 'it returns false'. Refute it at one input. -/
def fnExactMinTextsWrong : ChangeSpec := { name := "fnExactMinTexts", fn := fun _ => fun
  | [d1, d2] => { results := [.lit (.bool false)], args := [d1, d2] }
  | _ => none }
def FnExactMinTextsWrongFalsely : Prop := fnExactMinTextsRow.holds Try.pinned (OpenSpec.ofChange fnExactMinTextsWrong)

/-- 'laws.FnExactMinTexts3': WHATEVER THE INPUT: true; the input reads as it did. -/
def fnExactMinTexts3Spec : ChangeSpec := { name := "fnExactMinTexts3", fn := fun _ => fun
  | [d1, d2, d3] => { results := [.lit (.bool true)], args := [d1, d2, d3] }
  | _ => none }
def fnExactMinTexts3Row : OpenClaim := { program := "ytjgfpllbbkflmaa", sum := "33f8689a51eabe379a31a47a3164bf3ce9101097005276414a736c35279e74c9", func := "loop.example/lib-comparemaps/laws.FnExactMinTexts3", spec := "fnExactMinTexts3", apart := false }
def FnExactMinTexts3Said : Prop := fnExactMinTexts3Row.holds Try.pinned (OpenSpec.ofChange fnExactMinTexts3Spec)

/-- ITS FALSE NEIGHBOUR: 'it returns false'. Refute it at one input. -/
def fnExactMinTexts3Wrong : ChangeSpec := { name := "fnExactMinTexts3", fn := fun _ => fun
  | [d1, d2, d3] => { results := [.lit (.bool false)], args := [d1, d2, d3] }
  | _ => none }
def FnExactMinTexts3WrongFalsely : Prop := fnExactMinTexts3Row.holds Try.pinned (OpenSpec.ofChange fnExactMinTexts3Wrong)

/-- 'laws.FnExactMinUints': WHATEVER THE INPUT: true; the input reads as it did. -/
def fnExactMinUintsSpec : ChangeSpec := { name := "fnExactMinUints", fn := fun _ => fun
  | [d1, d2] => { results := [.lit (.bool true)], args := [d1, d2] }
  | _ => none }
def fnExactMinUintsRow : OpenClaim := { program := "ytjgfpllbbkflmaa", sum := "33f8689a51eabe379a31a47a3164bf3ce9101097005276414a736c35279e74c9", func := "loop.example/lib-comparemaps/laws.FnExactMinUints", spec := "fnExactMinUints", apart := false }
def FnExactMinUintsSaid : Prop := fnExactMinUintsRow.holds Try.pinned (OpenSpec.ofChange fnExactMinUintsSpec)

/-- ITS FALSE NEIGHBOUR: 'it returns false'. Refute it at one input. -/
def fnExactMinUintsWrong : ChangeSpec := { name := "fnExactMinUints", fn := fun _ => fun
  | [d1, d2] => { results := [.lit (.bool false)], args := [d1, d2] }
  | _ => none }
def FnExactMinUintsWrongFalsely : Prop := fnExactMinUintsRow.holds Try.pinned (OpenSpec.ofChange fnExactMinUintsWrong)

/-- 'laws.FnExactMinUints3': WHATEVER THE INPUT: true; the input reads as it did. -/
def fnExactMinUints3Spec : ChangeSpec := { name := "fnExactMinUints3", fn := fun _ => fun
  | [d1, d2, d3] => { results := [.lit (.bool true)], args := [d1, d2, d3] }
  | _ => none }
def fnExactMinUints3Row : OpenClaim := { program := "ytjgfpllbbkflmaa", sum := "33f8689a51eabe379a31a47a3164bf3ce9101097005276414a736c35279e74c9", func := "loop.example/lib-comparemaps/laws.FnExactMinUints3", spec := "fnExactMinUints3", apart := false }
def FnExactMinUints3Said : Prop := fnExactMinUints3Row.holds Try.pinned (OpenSpec.ofChange fnExactMinUints3Spec)

/-- ITS FALSE NEIGHBOUR: 'it returns false'. Refute it at one input. -/
def fnExactMinUints3Wrong : ChangeSpec := { name := "fnExactMinUints3", fn := fun _ => fun
  | [d1, d2, d3] => { results := [.lit (.bool false)], args := [d1, d2, d3] }
  | _ => none }
def FnExactMinUints3WrongFalsely : Prop := fnExactMinUints3Row.holds Try.pinned (OpenSpec.ofChange fnExactMinUints3Wrong)

/- THE SECOND FORM. 'bulk': how many values and letters a reading holds, each counted each time it is reached (what is shared counts as often as it is met; a slice's spare places count too). A statement '..UptoSaid' is the law's where the arguments, and the package variables that the reading takes, are together of bulk at most 1048576: NARROWER than '..Said'. Prove '..Said' where nothing that the law and all that it calls make is longer than what came in: it says more and counts as full. Else prove '..UptoSaid'. A law counts once. -/
mutual
def uptoBulk {H : Type} : DataW H → Nat
  | .lit (.string bytes) => bytes.length + 1
  | .lit _ => 1
  | .nil => 1
  | .ptr d => uptoBulk d + 1
  | .slice elems spare => uptoBulkAll elems + uptoBulkAll spare + 1
  | .agg parts => uptoBulkAll parts + 1
  | .iface _ d => uptoBulk d + 1
  | .map entries => uptoBulkEntries entries + 1
  | .held _ => 1
def uptoBulkAll {H : Type} : List (DataW H) → Nat
  | [] => 0
  | d :: r => uptoBulk d + uptoBulkAll r
def uptoBulkEntries {H : Type} : List (Lit × DataW H) → Nat
  | [] => 0
  | x :: r => uptoBulkEntry x + uptoBulkEntries r
def uptoBulkEntry {H : Type} : Lit × DataW H → Nat
  | (.string bytes, d) => bytes.length + uptoBulk d + 1
  | (_, d) => uptoBulk d + 1
 end
def uptoSmall : (H : Type) → List (DataW H) → Bool := fun _ ds => decide (uptoBulkAll ds ≤ 1048576)
def OpenSpec.upto (s : _root_.Go.ChangeSpec) : _root_.Go.OpenSpec := { _root_.Go.OpenSpec.ofChange s with cond := some uptoSmall }

/-- 'laws.FnExactMaxInts', WHERE WHAT IT READS IS OF BULK AT MOST 1048576: true; the input reads as it did. -/
def fnExactMaxIntsUptoRow : OpenClaim := { program := "ytjgfpllbbkflmaa", sum := "33f8689a51eabe379a31a47a3164bf3ce9101097005276414a736c35279e74c9", func := "loop.example/lib-comparemaps/laws.FnExactMaxInts", spec := "fnExactMaxInts", apart := false, narrowed := true }
def FnExactMaxIntsUptoSaid : Prop := fnExactMaxIntsUptoRow.holds Try.pinned (OpenSpec.upto fnExactMaxIntsSpec)

/-- 'laws.FnExactMaxInts3', WHERE WHAT IT READS IS OF BULK AT MOST 1048576: true; the input reads as it did. -/
def fnExactMaxInts3UptoRow : OpenClaim := { program := "ytjgfpllbbkflmaa", sum := "33f8689a51eabe379a31a47a3164bf3ce9101097005276414a736c35279e74c9", func := "loop.example/lib-comparemaps/laws.FnExactMaxInts3", spec := "fnExactMaxInts3", apart := false, narrowed := true }
def FnExactMaxInts3UptoSaid : Prop := fnExactMaxInts3UptoRow.holds Try.pinned (OpenSpec.upto fnExactMaxInts3Spec)

/-- 'laws.FnExactMaxTexts', WHERE WHAT IT READS IS OF BULK AT MOST 1048576: true; the input reads as it did. -/
def fnExactMaxTextsUptoRow : OpenClaim := { program := "ytjgfpllbbkflmaa", sum := "33f8689a51eabe379a31a47a3164bf3ce9101097005276414a736c35279e74c9", func := "loop.example/lib-comparemaps/laws.FnExactMaxTexts", spec := "fnExactMaxTexts", apart := false, narrowed := true }
def FnExactMaxTextsUptoSaid : Prop := fnExactMaxTextsUptoRow.holds Try.pinned (OpenSpec.upto fnExactMaxTextsSpec)

/-- 'laws.FnExactMaxTexts3', WHERE WHAT IT READS IS OF BULK AT MOST 1048576: true; the input reads as it did. -/
def fnExactMaxTexts3UptoRow : OpenClaim := { program := "ytjgfpllbbkflmaa", sum := "33f8689a51eabe379a31a47a3164bf3ce9101097005276414a736c35279e74c9", func := "loop.example/lib-comparemaps/laws.FnExactMaxTexts3", spec := "fnExactMaxTexts3", apart := false, narrowed := true }
def FnExactMaxTexts3UptoSaid : Prop := fnExactMaxTexts3UptoRow.holds Try.pinned (OpenSpec.upto fnExactMaxTexts3Spec)

/-- 'laws.FnExactMaxUints', WHERE WHAT IT READS IS OF BULK AT MOST 1048576: true; the input reads as it did. -/
def fnExactMaxUintsUptoRow : OpenClaim := { program := "ytjgfpllbbkflmaa", sum := "33f8689a51eabe379a31a47a3164bf3ce9101097005276414a736c35279e74c9", func := "loop.example/lib-comparemaps/laws.FnExactMaxUints", spec := "fnExactMaxUints", apart := false, narrowed := true }
def FnExactMaxUintsUptoSaid : Prop := fnExactMaxUintsUptoRow.holds Try.pinned (OpenSpec.upto fnExactMaxUintsSpec)

/-- 'laws.FnExactMaxUints3', WHERE WHAT IT READS IS OF BULK AT MOST 1048576: true; the input reads as it did. -/
def fnExactMaxUints3UptoRow : OpenClaim := { program := "ytjgfpllbbkflmaa", sum := "33f8689a51eabe379a31a47a3164bf3ce9101097005276414a736c35279e74c9", func := "loop.example/lib-comparemaps/laws.FnExactMaxUints3", spec := "fnExactMaxUints3", apart := false, narrowed := true }
def FnExactMaxUints3UptoSaid : Prop := fnExactMaxUints3UptoRow.holds Try.pinned (OpenSpec.upto fnExactMaxUints3Spec)

/-- 'laws.FnExactMinInts', WHERE WHAT IT READS IS OF BULK AT MOST 1048576: true; the input reads as it did. -/
def fnExactMinIntsUptoRow : OpenClaim := { program := "ytjgfpllbbkflmaa", sum := "33f8689a51eabe379a31a47a3164bf3ce9101097005276414a736c35279e74c9", func := "loop.example/lib-comparemaps/laws.FnExactMinInts", spec := "fnExactMinInts", apart := false, narrowed := true }
def FnExactMinIntsUptoSaid : Prop := fnExactMinIntsUptoRow.holds Try.pinned (OpenSpec.upto fnExactMinIntsSpec)

/-- 'laws.FnExactMinInts3', WHERE WHAT IT READS IS OF BULK AT MOST 1048576: true; the input reads as it did. -/
def fnExactMinInts3UptoRow : OpenClaim := { program := "ytjgfpllbbkflmaa", sum := "33f8689a51eabe379a31a47a3164bf3ce9101097005276414a736c35279e74c9", func := "loop.example/lib-comparemaps/laws.FnExactMinInts3", spec := "fnExactMinInts3", apart := false, narrowed := true }
def FnExactMinInts3UptoSaid : Prop := fnExactMinInts3UptoRow.holds Try.pinned (OpenSpec.upto fnExactMinInts3Spec)

/-- 'laws.FnExactMinTexts', WHERE WHAT IT READS IS OF BULK AT MOST 1048576: true; the input reads as it did. -/
def fnExactMinTextsUptoRow : OpenClaim := { program := "ytjgfpllbbkflmaa", sum := "33f8689a51eabe379a31a47a3164bf3ce9101097005276414a736c35279e74c9", func := "loop.example/lib-comparemaps/laws.FnExactMinTexts", spec := "fnExactMinTexts", apart := false, narrowed := true }
def FnExactMinTextsUptoSaid : Prop := fnExactMinTextsUptoRow.holds Try.pinned (OpenSpec.upto fnExactMinTextsSpec)

/-- 'laws.FnExactMinTexts3', WHERE WHAT IT READS IS OF BULK AT MOST 1048576: true; the input reads as it did. -/
def fnExactMinTexts3UptoRow : OpenClaim := { program := "ytjgfpllbbkflmaa", sum := "33f8689a51eabe379a31a47a3164bf3ce9101097005276414a736c35279e74c9", func := "loop.example/lib-comparemaps/laws.FnExactMinTexts3", spec := "fnExactMinTexts3", apart := false, narrowed := true }
def FnExactMinTexts3UptoSaid : Prop := fnExactMinTexts3UptoRow.holds Try.pinned (OpenSpec.upto fnExactMinTexts3Spec)

/-- 'laws.FnExactMinUints', WHERE WHAT IT READS IS OF BULK AT MOST 1048576: true; the input reads as it did. -/
def fnExactMinUintsUptoRow : OpenClaim := { program := "ytjgfpllbbkflmaa", sum := "33f8689a51eabe379a31a47a3164bf3ce9101097005276414a736c35279e74c9", func := "loop.example/lib-comparemaps/laws.FnExactMinUints", spec := "fnExactMinUints", apart := false, narrowed := true }
def FnExactMinUintsUptoSaid : Prop := fnExactMinUintsUptoRow.holds Try.pinned (OpenSpec.upto fnExactMinUintsSpec)

/-- 'laws.FnExactMinUints3', WHERE WHAT IT READS IS OF BULK AT MOST 1048576: true; the input reads as it did. -/
def fnExactMinUints3UptoRow : OpenClaim := { program := "ytjgfpllbbkflmaa", sum := "33f8689a51eabe379a31a47a3164bf3ce9101097005276414a736c35279e74c9", func := "loop.example/lib-comparemaps/laws.FnExactMinUints3", spec := "fnExactMinUints3", apart := false, narrowed := true }
def FnExactMinUints3UptoSaid : Prop := fnExactMinUints3UptoRow.holds Try.pinned (OpenSpec.upto fnExactMinUints3Spec)

end Rows
end Go.Proofs.Ytjgfpllbbkflmaa
