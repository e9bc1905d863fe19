/-
  No cell of these rows narrows 'for every input' (looked for: loops, veiled, ifaces, maps, wideKeys, modest, calm, conditions, laid).
  DERIVED. THE GIVEN ROWS OF THIS SEAT. 1 by the template 'for every input the law returns true; each argument reads behind the call as it read before'; 0 by the template 'total and deterministic' (their statements: Qxb6619608aTotals.lean).
  GIVEN WITH THE SEED: the statements are not yours to turn. If you find one false, say at which input.
  Laid BY PROGRAM, IN A SANDBOX (cutbox-rows.mjs): the forced cells as the released guide's own fill.sh prints them over the translation 101bcf0c894d9a36… (all of the seat's roots in one cut). By AI agents, Wed Nov 11 2026. No macro, syntax, notation, axiom, sorry.
-/
import Derived.Test.Qxb6619608aChecked
import GoSem.Claim
import GoSem.ClaimJoined
import GoSem.ClaimMapViews
import Derived.JoinedTies
import Derived.KernelRfl
namespace Go.Proofs.Qxb6619608a
/- THE CELL 'sum', in the pinned program and in every row, IS THE sha256 OF THE DUMP (.gsa) THAT Qxb6619608aProg.lean LOADS. Nothing in Lean hashes anything: it is a label: what it is worth is what the hold of that sum in a sandbox is worth. -/
noncomputable def Try.pinned : Pinned := { name := "qxb6619608a", sum := "101bcf0c894d9a360d098effea961f47c28b2cfa02f78afd139d24252dec3bd8", checked := Try.checked }
namespace Rows
def none {H : Type} : Left H := { results := [], args := [] }

/-- 'zzlaws_internal_catalogue_b1.FnModuleIsFirstOfNameAtEveryCut': WHATEVER THE INPUT: true; the input reads as it did. -/
def fnModuleIsFirstOfNameAtEveryCutSpec : ChangeSpec := { name := "fnModuleIsFirstOfNameAtEveryCut", fn := fun _ => fun
  | [d1, d2, d3] => { results := [.lit (.bool true)], args := [d1, d2, d3] }
  | _ => none }
def fnModuleIsFirstOfNameAtEveryCutRow : OpenClaim := { program := "qxb6619608a", sum := "101bcf0c894d9a360d098effea961f47c28b2cfa02f78afd139d24252dec3bd8", func := "example.com/meterstone/meterstone/zzlaws_internal_catalogue_b1.FnModuleIsFirstOfNameAtEveryCut", spec := "fnModuleIsFirstOfNameAtEveryCut", apart := false }
def FnModuleIsFirstOfNameAtEveryCutSaid : Prop := fnModuleIsFirstOfNameAtEveryCutRow.holds Try.pinned (OpenSpec.ofChange fnModuleIsFirstOfNameAtEveryCutSpec)

/-- ITS FALSE NEIGHBOUR: 'it returns false'. Refute it at one input. -/
def fnModuleIsFirstOfNameAtEveryCutWrong : ChangeSpec := { name := "fnModuleIsFirstOfNameAtEveryCut", fn := fun _ => fun
  | [d1, d2, d3] => { results := [.lit (.bool false)], args := [d1, d2, d3] }
  | _ => none }
def FnModuleIsFirstOfNameAtEveryCutWrongFalsely : Prop := fnModuleIsFirstOfNameAtEveryCutRow.holds Try.pinned (OpenSpec.ofChange fnModuleIsFirstOfNameAtEveryCutWrong)

end Rows
end Go.Proofs.Qxb6619608a
