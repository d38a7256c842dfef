/-
  No cell of these rows narrows 'for every input' (looked for: loops, veiled, ifaces, maps, wideKeys, modest, calm, conditions, laid).
  DERIVED. THE GIVEN ROWS OF THIS SEAT. 5 by the template 'for every input the law returns true; each argument reads behind the call as it read before'; 0 by the template 'total and deterministic' (their statements: Qxb6617372aTotals.lean).
  GIVEN WITH THE SEED: the statements are not yours to turn. If you find one false, say at which input.
  Laid BY PROGRAM, IN A SANDBOX (cutbox-rows.mjs): the forced cells as the released guide's own fill.sh prints them over the translation c0bf8531389a6a0a… (all of the seat's roots in one cut). By AI agents, Wed Nov 11 2026. No macro, syntax, notation, axiom, sorry.
-/
import Derived.Test.Qxb6617372aChecked
import GoSem.Claim
import GoSem.ClaimJoined
import GoSem.ClaimMapViews
import Derived.JoinedTies
import Derived.KernelRfl
namespace Go.Proofs.Qxb6617372a
/- THE CELL 'sum', in the pinned program and in every row, IS THE sha256 OF THE DUMP (.gsa) THAT Qxb6617372aProg.lean LOADS. Nothing in Lean hashes anything: it is a label: what it is worth is what the hold of that sum in a sandbox is worth. -/
noncomputable def Try.pinned : Pinned := { name := "qxb6617372a", sum := "c0bf8531389a6a0ad183e876487b4dbbddcd5f60c8cc77a1cb41cdb33e009fb0", checked := Try.checked }
namespace Rows
def none {H : Type} : Left H := { results := [], args := [] }

/-- 'zzlaws_date_b1.FnAppendDigitsThenDigits': WHATEVER THE INPUT: true; the input reads as it did. -/
def fnAppendDigitsThenDigitsSpec : ChangeSpec := { name := "fnAppendDigitsThenDigits", fn := fun _ => fun
  | [d1, d2, d3] => { results := [.lit (.bool true)], args := [d1, d2, d3] }
  | _ => none }
def fnAppendDigitsThenDigitsRow : OpenClaim := { program := "qxb6617372a", sum := "c0bf8531389a6a0ad183e876487b4dbbddcd5f60c8cc77a1cb41cdb33e009fb0", func := "example.com/gensaki/gensaki/zzlaws_date_b1.FnAppendDigitsThenDigits", spec := "fnAppendDigitsThenDigits", apart := false }
def FnAppendDigitsThenDigitsSaid : Prop := fnAppendDigitsThenDigitsRow.holds Try.pinned (OpenSpec.ofChange fnAppendDigitsThenDigitsSpec)

/-- ITS FALSE NEIGHBOUR: 'it returns false'. Refute it at one input. -/
def fnAppendDigitsThenDigitsWrong : ChangeSpec := { name := "fnAppendDigitsThenDigits", fn := fun _ => fun
  | [d1, d2, d3] => { results := [.lit (.bool false)], args := [d1, d2, d3] }
  | _ => none }
def FnAppendDigitsThenDigitsWrongFalsely : Prop := fnAppendDigitsThenDigitsRow.holds Try.pinned (OpenSpec.ofChange fnAppendDigitsThenDigitsWrong)

/-- 'zzlaws_date_b1.FnAppendDigitsSplit': WHATEVER THE INPUT: true; the input reads as it did. -/
def fnAppendDigitsSplitSpec : ChangeSpec := { name := "fnAppendDigitsSplit", fn := fun _ => fun
  | [d1, d2, d3, d4] => { results := [.lit (.bool true)], args := [d1, d2, d3, d4] }
  | _ => none }
def fnAppendDigitsSplitRow : OpenClaim := { program := "qxb6617372a", sum := "c0bf8531389a6a0ad183e876487b4dbbddcd5f60c8cc77a1cb41cdb33e009fb0", func := "example.com/gensaki/gensaki/zzlaws_date_b1.FnAppendDigitsSplit", spec := "fnAppendDigitsSplit", apart := false }
def FnAppendDigitsSplitSaid : Prop := fnAppendDigitsSplitRow.holds Try.pinned (OpenSpec.ofChange fnAppendDigitsSplitSpec)

/-- ITS FALSE NEIGHBOUR: 'it returns false'. Refute it at one input. -/
def fnAppendDigitsSplitWrong : ChangeSpec := { name := "fnAppendDigitsSplit", fn := fun _ => fun
  | [d1, d2, d3, d4] => { results := [.lit (.bool false)], args := [d1, d2, d3, d4] }
  | _ => none }
def FnAppendDigitsSplitWrongFalsely : Prop := fnAppendDigitsSplitRow.holds Try.pinned (OpenSpec.ofChange fnAppendDigitsSplitWrong)

/-- 'zzlaws_date_b1.FnDigitsConcat': WHATEVER THE INPUT: true; the input reads as it did. -/
def fnDigitsConcatSpec : ChangeSpec := { name := "fnDigitsConcat", fn := fun _ => fun
  | [d1, d2] => { results := [.lit (.bool true)], args := [d1, d2] }
  | _ => none }
def fnDigitsConcatRow : OpenClaim := { program := "qxb6617372a", sum := "c0bf8531389a6a0ad183e876487b4dbbddcd5f60c8cc77a1cb41cdb33e009fb0", func := "example.com/gensaki/gensaki/zzlaws_date_b1.FnDigitsConcat", spec := "fnDigitsConcat", apart := false }
def FnDigitsConcatSaid : Prop := fnDigitsConcatRow.holds Try.pinned (OpenSpec.ofChange fnDigitsConcatSpec)

/-- ITS FALSE NEIGHBOUR: 'it returns false'. Refute it at one input. -/
def fnDigitsConcatWrong : ChangeSpec := { name := "fnDigitsConcat", fn := fun _ => fun
  | [d1, d2] => { results := [.lit (.bool false)], args := [d1, d2] }
  | _ => none }
def FnDigitsConcatWrongFalsely : Prop := fnDigitsConcatRow.holds Try.pinned (OpenSpec.ofChange fnDigitsConcatWrong)

/-- 'zzlaws_date_b1.FnFloorDivShift': WHATEVER THE INPUT: true; the input reads as it did. -/
def fnFloorDivShiftSpec : ChangeSpec := { name := "fnFloorDivShift", fn := fun _ => fun
  | [d1, d2, d3] => { results := [.lit (.bool true)], args := [d1, d2, d3] }
  | _ => none }
def fnFloorDivShiftRow : OpenClaim := { program := "qxb6617372a", sum := "c0bf8531389a6a0ad183e876487b4dbbddcd5f60c8cc77a1cb41cdb33e009fb0", func := "example.com/gensaki/gensaki/zzlaws_date_b1.FnFloorDivShift", spec := "fnFloorDivShift", apart := false }
def FnFloorDivShiftSaid : Prop := fnFloorDivShiftRow.holds Try.pinned (OpenSpec.ofChange fnFloorDivShiftSpec)

/-- ITS FALSE NEIGHBOUR: 'it returns false'. Refute it at one input. -/
def fnFloorDivShiftWrong : ChangeSpec := { name := "fnFloorDivShift", fn := fun _ => fun
  | [d1, d2, d3] => { results := [.lit (.bool false)], args := [d1, d2, d3] }
  | _ => none }
def FnFloorDivShiftWrongFalsely : Prop := fnFloorDivShiftRow.holds Try.pinned (OpenSpec.ofChange fnFloorDivShiftWrong)

/-- 'zzlaws_date_b1.FnFloorDivNested': WHATEVER THE INPUT: true; the input reads as it did. -/
def fnFloorDivNestedSpec : ChangeSpec := { name := "fnFloorDivNested", fn := fun _ => fun
  | [d1, d2, d3] => { results := [.lit (.bool true)], args := [d1, d2, d3] }
  | _ => none }
def fnFloorDivNestedRow : OpenClaim := { program := "qxb6617372a", sum := "c0bf8531389a6a0ad183e876487b4dbbddcd5f60c8cc77a1cb41cdb33e009fb0", func := "example.com/gensaki/gensaki/zzlaws_date_b1.FnFloorDivNested", spec := "fnFloorDivNested", apart := false }
def FnFloorDivNestedSaid : Prop := fnFloorDivNestedRow.holds Try.pinned (OpenSpec.ofChange fnFloorDivNestedSpec)

/-- ITS FALSE NEIGHBOUR: 'it returns false'. Refute it at one input. -/
def fnFloorDivNestedWrong : ChangeSpec := { name := "fnFloorDivNested", fn := fun _ => fun
  | [d1, d2, d3] => { results := [.lit (.bool false)], args := [d1, d2, d3] }
  | _ => none }
def FnFloorDivNestedWrongFalsely : Prop := fnFloorDivNestedRow.holds Try.pinned (OpenSpec.ofChange fnFloorDivNestedWrong)

end Rows
end Go.Proofs.Qxb6617372a
