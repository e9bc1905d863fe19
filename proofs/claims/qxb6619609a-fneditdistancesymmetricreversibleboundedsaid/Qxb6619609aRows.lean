/-
  No cell of these rows narrows 'for every input' (looked for: loops, veiled, ifaces, maps, wideKeys, modest, calm, conditions, laid).
  DERIVED. THE GIVEN ROWS OF THIS SEAT. 3 by the template 'for every input the law returns true; each argument reads behind the call as it read before'; 0 by the template 'total and deterministic' (their statements: Qxb6619609aTotals.lean).
  GIVEN WITH THE SEED: the statements are not yours to turn. If you find one false, say at which input.
  Laid BY PROGRAM, IN A SANDBOX (cutbox-rows.mjs): the forced cells as the released guide's own fill.sh prints them over the translation 580175ddae197f53… (all of the seat's roots in one cut). By AI agents, Wed Nov 11 2026. No macro, syntax, notation, axiom, sorry.
-/
import Derived.Test.Qxb6619609aChecked
import GoSem.Claim
import GoSem.ClaimJoined
import GoSem.ClaimMapViews
import Derived.JoinedTies
import Derived.KernelRfl
namespace Go.Proofs.Qxb6619609a
/- THE CELL 'sum', in the pinned program and in every row, IS THE sha256 OF THE DUMP (.gsa) THAT Qxb6619609aProg.lean LOADS. Nothing in Lean hashes anything: it is a label: what it is worth is what the hold of that sum in a sandbox is worth. -/
noncomputable def Try.pinned : Pinned := { name := "qxb6619609a", sum := "580175ddae197f535addc59fbadadfe8792455b77ff5088fe6bffef98b74afa2", checked := Try.checked }
namespace Rows
def none {H : Type} : Left H := { results := [], args := [] }

/-- 'zzlaws_policy_b1.FnEditDistanceMatchesSuffixRecurrence': WHATEVER THE INPUT: true; the input reads as it did. -/
def fnEditDistanceMatchesSuffixRecurrenceSpec : ChangeSpec := { name := "fnEditDistanceMatchesSuffixRecurrence", fn := fun _ => fun
  | [d1, d2] => { results := [.lit (.bool true)], args := [d1, d2] }
  | _ => none }
def fnEditDistanceMatchesSuffixRecurrenceRow : OpenClaim := { program := "qxb6619609a", sum := "580175ddae197f535addc59fbadadfe8792455b77ff5088fe6bffef98b74afa2", func := "example.com/verdicta/verdicta/zzlaws_policy_b1.FnEditDistanceMatchesSuffixRecurrence", spec := "fnEditDistanceMatchesSuffixRecurrence", apart := false }
def FnEditDistanceMatchesSuffixRecurrenceSaid : Prop := fnEditDistanceMatchesSuffixRecurrenceRow.holds Try.pinned (OpenSpec.ofChange fnEditDistanceMatchesSuffixRecurrenceSpec)

/-- ITS FALSE NEIGHBOUR: 'it returns false'. Refute it at one input. -/
def fnEditDistanceMatchesSuffixRecurrenceWrong : ChangeSpec := { name := "fnEditDistanceMatchesSuffixRecurrence", fn := fun _ => fun
  | [d1, d2] => { results := [.lit (.bool false)], args := [d1, d2] }
  | _ => none }
def FnEditDistanceMatchesSuffixRecurrenceWrongFalsely : Prop := fnEditDistanceMatchesSuffixRecurrenceRow.holds Try.pinned (OpenSpec.ofChange fnEditDistanceMatchesSuffixRecurrenceWrong)

/-- 'zzlaws_policy_b1.FnEditDistanceSymmetricReversibleBounded': WHATEVER THE INPUT: true; the input reads as it did. -/
def fnEditDistanceSymmetricReversibleBoundedSpec : ChangeSpec := { name := "fnEditDistanceSymmetricReversibleBounded", fn := fun _ => fun
  | [d1, d2] => { results := [.lit (.bool true)], args := [d1, d2] }
  | _ => none }
def fnEditDistanceSymmetricReversibleBoundedRow : OpenClaim := { program := "qxb6619609a", sum := "580175ddae197f535addc59fbadadfe8792455b77ff5088fe6bffef98b74afa2", func := "example.com/verdicta/verdicta/zzlaws_policy_b1.FnEditDistanceSymmetricReversibleBounded", spec := "fnEditDistanceSymmetricReversibleBounded", apart := false }
def FnEditDistanceSymmetricReversibleBoundedSaid : Prop := fnEditDistanceSymmetricReversibleBoundedRow.holds Try.pinned (OpenSpec.ofChange fnEditDistanceSymmetricReversibleBoundedSpec)

/-- ITS FALSE NEIGHBOUR: 'it returns false'. Refute it at one input. -/
def fnEditDistanceSymmetricReversibleBoundedWrong : ChangeSpec := { name := "fnEditDistanceSymmetricReversibleBounded", fn := fun _ => fun
  | [d1, d2] => { results := [.lit (.bool false)], args := [d1, d2] }
  | _ => none }
def FnEditDistanceSymmetricReversibleBoundedWrongFalsely : Prop := fnEditDistanceSymmetricReversibleBoundedRow.holds Try.pinned (OpenSpec.ofChange fnEditDistanceSymmetricReversibleBoundedWrong)

/-- 'zzlaws_policy_b1.FnEditDistanceTriangleAndCommonAffixes': WHATEVER THE INPUT: true; the input reads as it did. -/
def fnEditDistanceTriangleAndCommonAffixesSpec : ChangeSpec := { name := "fnEditDistanceTriangleAndCommonAffixes", fn := fun _ => fun
  | [d1, d2, d3] => { results := [.lit (.bool true)], args := [d1, d2, d3] }
  | _ => none }
def fnEditDistanceTriangleAndCommonAffixesRow : OpenClaim := { program := "qxb6619609a", sum := "580175ddae197f535addc59fbadadfe8792455b77ff5088fe6bffef98b74afa2", func := "example.com/verdicta/verdicta/zzlaws_policy_b1.FnEditDistanceTriangleAndCommonAffixes", spec := "fnEditDistanceTriangleAndCommonAffixes", apart := false }
def FnEditDistanceTriangleAndCommonAffixesSaid : Prop := fnEditDistanceTriangleAndCommonAffixesRow.holds Try.pinned (OpenSpec.ofChange fnEditDistanceTriangleAndCommonAffixesSpec)

/-- ITS FALSE NEIGHBOUR: 'it returns false'. Refute it at one input. -/
def fnEditDistanceTriangleAndCommonAffixesWrong : ChangeSpec := { name := "fnEditDistanceTriangleAndCommonAffixes", fn := fun _ => fun
  | [d1, d2, d3] => { results := [.lit (.bool false)], args := [d1, d2, d3] }
  | _ => none }
def FnEditDistanceTriangleAndCommonAffixesWrongFalsely : Prop := fnEditDistanceTriangleAndCommonAffixesRow.holds Try.pinned (OpenSpec.ofChange fnEditDistanceTriangleAndCommonAffixesWrong)

end Rows
end Go.Proofs.Qxb6619609a
