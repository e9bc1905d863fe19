/-
  No cell of these rows narrows 'for every input' (looked for: loops, veiled, ifaces, maps, wideKeys, modest, calm, conditions, laid).
  DERIVED. THE GIVEN ROWS OF THIS SEAT. 2 by the template 'for every input the law returns true; each argument reads behind the call as it read before'; 0 by the template 'total and deterministic' (their statements: Qxb6619621aTotals.lean).
  GIVEN WITH THE SEED: the statements are not yours to turn. If you find one false, say at which input.
  Laid BY PROGRAM, IN A SANDBOX (cutbox-rows.mjs): the forced cells as the released guide's own fill.sh prints them over the translation 0c7ea7dbc1412ade… (all of the seat's roots in one cut). By AI agents, Wed Nov 11 2026. No macro, syntax, notation, axiom, sorry.
-/
import Derived.Test.Qxb6619621aChecked
import GoSem.Claim
import GoSem.ClaimJoined
import GoSem.ClaimMapViews
import Derived.JoinedTies
import Derived.KernelRfl
namespace Go.Proofs.Qxb6619621a
/- THE CELL 'sum', in the pinned program and in every row, IS THE sha256 OF THE DUMP (.gsa) THAT Qxb6619621aProg.lean LOADS. Nothing in Lean hashes anything: it is a label: what it is worth is what the hold of that sum in a sandbox is worth. -/
noncomputable def Try.pinned : Pinned := { name := "qxb6619621a", sum := "0c7ea7dbc1412adead61cfea4b8b3634c176433784838c6b7fea3d82a9cc6a90", checked := Try.checked }
namespace Rows
def none {H : Type} : Left H := { results := [], args := [] }

/-- 'zzlaws_node_b1.FnOrFoldsAssociatively': WHATEVER THE INPUT: true; the input reads as it did. -/
def fnOrFoldsAssociativelySpec : ChangeSpec := { name := "fnOrFoldsAssociatively", fn := fun _ => fun
  | [d1, d2, d3] => { results := [.lit (.bool true)], args := [d1, d2, d3] }
  | _ => none }
def fnOrFoldsAssociativelyRow : OpenClaim := { program := "qxb6619621a", sum := "0c7ea7dbc1412adead61cfea4b8b3634c176433784838c6b7fea3d82a9cc6a90", func := "example.com/thriftcast/thriftcast/zzlaws_node_b1.FnOrFoldsAssociatively", spec := "fnOrFoldsAssociatively", apart := false }
def FnOrFoldsAssociativelySaid : Prop := fnOrFoldsAssociativelyRow.holds Try.pinned (OpenSpec.ofChange fnOrFoldsAssociativelySpec)

/-- ITS FALSE NEIGHBOUR: 'it returns false'. Refute it at one input. -/
def fnOrFoldsAssociativelyWrong : ChangeSpec := { name := "fnOrFoldsAssociatively", fn := fun _ => fun
  | [d1, d2, d3] => { results := [.lit (.bool false)], args := [d1, d2, d3] }
  | _ => none }
def FnOrFoldsAssociativelyWrongFalsely : Prop := fnOrFoldsAssociativelyRow.holds Try.pinned (OpenSpec.ofChange fnOrFoldsAssociativelyWrong)

/-- 'zzlaws_node_b1.FnOrKeepsOwnAddressesAndIsIdempotent': WHATEVER THE INPUT: true; the input reads as it did. -/
def fnOrKeepsOwnAddressesAndIsIdempotentSpec : ChangeSpec := { name := "fnOrKeepsOwnAddressesAndIsIdempotent", fn := fun _ => fun
  | [d1, d2] => { results := [.lit (.bool true)], args := [d1, d2] }
  | _ => none }
def fnOrKeepsOwnAddressesAndIsIdempotentRow : OpenClaim := { program := "qxb6619621a", sum := "0c7ea7dbc1412adead61cfea4b8b3634c176433784838c6b7fea3d82a9cc6a90", func := "example.com/thriftcast/thriftcast/zzlaws_node_b1.FnOrKeepsOwnAddressesAndIsIdempotent", spec := "fnOrKeepsOwnAddressesAndIsIdempotent", apart := false }
def FnOrKeepsOwnAddressesAndIsIdempotentSaid : Prop := fnOrKeepsOwnAddressesAndIsIdempotentRow.holds Try.pinned (OpenSpec.ofChange fnOrKeepsOwnAddressesAndIsIdempotentSpec)

/-- ITS FALSE NEIGHBOUR: 'it returns false'. Refute it at one input. -/
def fnOrKeepsOwnAddressesAndIsIdempotentWrong : ChangeSpec := { name := "fnOrKeepsOwnAddressesAndIsIdempotent", fn := fun _ => fun
  | [d1, d2] => { results := [.lit (.bool false)], args := [d1, d2] }
  | _ => none }
def FnOrKeepsOwnAddressesAndIsIdempotentWrongFalsely : Prop := fnOrKeepsOwnAddressesAndIsIdempotentRow.holds Try.pinned (OpenSpec.ofChange fnOrKeepsOwnAddressesAndIsIdempotentWrong)

end Rows
end Go.Proofs.Qxb6619621a
