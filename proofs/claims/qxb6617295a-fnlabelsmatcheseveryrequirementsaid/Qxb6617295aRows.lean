/-
  NARROWER THAN 'FOR EVERY INPUT', by the rows' own cells (each row's printed sentence says how): FnLabelsMatchesEveryRequirement: maps · FnLabelsMatchesOrderFree: maps.
  DERIVED. THE GIVEN ROWS OF THIS SEAT. 4 by the template 'for every input the law returns true; each argument reads behind the call as it read before'; 0 by the template 'total and deterministic' (their statements: Qxb6617295aTotals.lean).
  GIVEN WITH THE SEED: the statements are not yours to turn. If you find one false, say at which input.
  Laid BY PROGRAM, IN A SANDBOX (cutbox-rows.mjs): the forced cells as the released guide's own fill.sh prints them over the translation d2ec66aa517d618c… (all of the seat's roots in one cut). By AI agents, Wed Nov 11 2026. No macro, syntax, notation, axiom, sorry.
-/
import Derived.Test.Qxb6617295aChecked
import GoSem.Claim
import GoSem.ClaimJoined
import GoSem.ClaimMapViews
import Derived.JoinedTies
import Derived.KernelRfl
namespace Go.Proofs.Qxb6617295a
/- THE CELL 'sum', in the pinned program and in every row, IS THE sha256 OF THE DUMP (.gsa) THAT Qxb6617295aProg.lean LOADS. Nothing in Lean hashes anything: it is a label: what it is worth is what the hold of that sum in a sandbox is worth. -/
noncomputable def Try.pinned : Pinned := { name := "qxb6617295a", sum := "d2ec66aa517d618cb1fe2dbcd2c5ecd06b3b03ee5a424a2b1fe9b3b30c26e968", checked := Try.checked }
namespace Rows
def none {H : Type} : Left H := { results := [], args := [] }

/-- 'zzlaws_internal_selector_b1.FnLabelsMatchesEveryRequirement': WHATEVER THE INPUT: true; the input reads as it did. -/
def fnLabelsMatchesEveryRequirementSpec : ChangeSpec := { name := "fnLabelsMatchesEveryRequirement", fn := fun _ => fun
  | [d1, d2] => { results := [.lit (.bool true)], args := [d1, d2] }
  | _ => none }
def fnLabelsMatchesEveryRequirementRow : OpenClaim := { program := "qxb6617295a", sum := "d2ec66aa517d618cb1fe2dbcd2c5ecd06b3b03ee5a424a2b1fe9b3b30c26e968", func := "example.com/bounded-pages/bounded-pages/zzlaws_internal_selector_b1.FnLabelsMatchesEveryRequirement", spec := "fnLabelsMatchesEveryRequirement", maps := true, apart := false }
def FnLabelsMatchesEveryRequirementSaid : Prop := fnLabelsMatchesEveryRequirementRow.holds Try.pinned (OpenSpec.ofChange fnLabelsMatchesEveryRequirementSpec)

/-- ITS FALSE NEIGHBOUR: 'it returns false'. Refute it at one input. -/
def fnLabelsMatchesEveryRequirementWrong : ChangeSpec := { name := "fnLabelsMatchesEveryRequirement", fn := fun _ => fun
  | [d1, d2] => { results := [.lit (.bool false)], args := [d1, d2] }
  | _ => none }
def FnLabelsMatchesEveryRequirementWrongFalsely : Prop := fnLabelsMatchesEveryRequirementRow.holds Try.pinned (OpenSpec.ofChange fnLabelsMatchesEveryRequirementWrong)

/-- 'zzlaws_internal_selector_b1.FnLabelsMatchesOrderFree': WHATEVER THE INPUT: true; the input reads as it did. -/
def fnLabelsMatchesOrderFreeSpec : ChangeSpec := { name := "fnLabelsMatchesOrderFree", fn := fun _ => fun
  | [d1, d2, d3] => { results := [.lit (.bool true)], args := [d1, d2, d3] }
  | _ => none }
def fnLabelsMatchesOrderFreeRow : OpenClaim := { program := "qxb6617295a", sum := "d2ec66aa517d618cb1fe2dbcd2c5ecd06b3b03ee5a424a2b1fe9b3b30c26e968", func := "example.com/bounded-pages/bounded-pages/zzlaws_internal_selector_b1.FnLabelsMatchesOrderFree", spec := "fnLabelsMatchesOrderFree", maps := true, apart := false }
def FnLabelsMatchesOrderFreeSaid : Prop := fnLabelsMatchesOrderFreeRow.holds Try.pinned (OpenSpec.ofChange fnLabelsMatchesOrderFreeSpec)

/-- ITS FALSE NEIGHBOUR: 'it returns false'. Refute it at one input. -/
def fnLabelsMatchesOrderFreeWrong : ChangeSpec := { name := "fnLabelsMatchesOrderFree", fn := fun _ => fun
  | [d1, d2, d3] => { results := [.lit (.bool false)], args := [d1, d2, d3] }
  | _ => none }
def FnLabelsMatchesOrderFreeWrongFalsely : Prop := fnLabelsMatchesOrderFreeRow.holds Try.pinned (OpenSpec.ofChange fnLabelsMatchesOrderFreeWrong)

/-- 'zzlaws_internal_selector_b1.FnLabelsAddRequiredKeysOnceInFirstOrder': WHATEVER THE INPUT: true; the input reads as it did. -/
def fnLabelsAddRequiredKeysOnceInFirstOrderSpec : ChangeSpec := { name := "fnLabelsAddRequiredKeysOnceInFirstOrder", fn := fun _ => fun
  | [d] => { results := [.lit (.bool true)], args := [d] }
  | _ => none }
def fnLabelsAddRequiredKeysOnceInFirstOrderRow : OpenClaim := { program := "qxb6617295a", sum := "d2ec66aa517d618cb1fe2dbcd2c5ecd06b3b03ee5a424a2b1fe9b3b30c26e968", func := "example.com/bounded-pages/bounded-pages/zzlaws_internal_selector_b1.FnLabelsAddRequiredKeysOnceInFirstOrder", spec := "fnLabelsAddRequiredKeysOnceInFirstOrder", apart := false }
def FnLabelsAddRequiredKeysOnceInFirstOrderSaid : Prop := fnLabelsAddRequiredKeysOnceInFirstOrderRow.holds Try.pinned (OpenSpec.ofChange fnLabelsAddRequiredKeysOnceInFirstOrderSpec)

/-- ITS FALSE NEIGHBOUR: 'it returns false'. Refute it at one input. -/
def fnLabelsAddRequiredKeysOnceInFirstOrderWrong : ChangeSpec := { name := "fnLabelsAddRequiredKeysOnceInFirstOrder", fn := fun _ => fun
  | [d] => { results := [.lit (.bool false)], args := [d] }
  | _ => none }
def FnLabelsAddRequiredKeysOnceInFirstOrderWrongFalsely : Prop := fnLabelsAddRequiredKeysOnceInFirstOrderRow.holds Try.pinned (OpenSpec.ofChange fnLabelsAddRequiredKeysOnceInFirstOrderWrong)

/-- 'zzlaws_internal_selector_b1.FnPrefixInCutAndHit': WHATEVER THE INPUT: true; the input reads as it did. -/
def fnPrefixInCutAndHitSpec : ChangeSpec := { name := "fnPrefixInCutAndHit", fn := fun _ => fun
  | [d1, d2, d3, d4] => { results := [.lit (.bool true)], args := [d1, d2, d3, d4] }
  | _ => none }
def fnPrefixInCutAndHitRow : OpenClaim := { program := "qxb6617295a", sum := "d2ec66aa517d618cb1fe2dbcd2c5ecd06b3b03ee5a424a2b1fe9b3b30c26e968", func := "example.com/bounded-pages/bounded-pages/zzlaws_internal_selector_b1.FnPrefixInCutAndHit", spec := "fnPrefixInCutAndHit", apart := false }
def FnPrefixInCutAndHitSaid : Prop := fnPrefixInCutAndHitRow.holds Try.pinned (OpenSpec.ofChange fnPrefixInCutAndHitSpec)

/-- ITS FALSE NEIGHBOUR: 'it returns false'. Refute it at one input. -/
def fnPrefixInCutAndHitWrong : ChangeSpec := { name := "fnPrefixInCutAndHit", fn := fun _ => fun
  | [d1, d2, d3, d4] => { results := [.lit (.bool false)], args := [d1, d2, d3, d4] }
  | _ => none }
def FnPrefixInCutAndHitWrongFalsely : Prop := fnPrefixInCutAndHitRow.holds Try.pinned (OpenSpec.ofChange fnPrefixInCutAndHitWrong)

end Rows
end Go.Proofs.Qxb6617295a
