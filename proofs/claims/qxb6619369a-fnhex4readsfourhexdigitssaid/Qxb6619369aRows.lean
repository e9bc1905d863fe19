/-
  No cell of these rows narrows 'for every input' (looked for: loops, veiled, ifaces, maps, wideKeys, modest, calm, conditions, laid).
  DERIVED. THE GIVEN ROWS OF THIS SEAT. 1 by the template 'for every input the law returns true; each argument reads behind the call as it read before'; 0 by the template 'total and deterministic' (their statements: Qxb6619369aTotals.lean).
  GIVEN WITH THE SEED: the statements are not yours to turn. If you find one false, say at which input.
  Laid BY PROGRAM, IN A SANDBOX (cutbox-rows.mjs): the forced cells as the released guide's own fill.sh prints them over the translation 46a35e087a023547… (all of the seat's roots in one cut). By AI agents, Wed Nov 11 2026. No macro, syntax, notation, axiom, sorry.
-/
import Derived.Test.Qxb6619369aChecked
import GoSem.Claim
import GoSem.ClaimJoined
import GoSem.ClaimMapViews
import Derived.JoinedTies
import Derived.KernelRfl
namespace Go.Proofs.Qxb6619369a
/- THE CELL 'sum', in the pinned program and in every row, IS THE sha256 OF THE DUMP (.gsa) THAT Qxb6619369aProg.lean LOADS. Nothing in Lean hashes anything: it is a label: what it is worth is what the hold of that sum in a sandbox is worth. -/
noncomputable def Try.pinned : Pinned := { name := "qxb6619369a", sum := "46a35e087a0235478618852a2fb19c96cdb38d668c2e3ede092207d5d2c48466", checked := Try.checked }
namespace Rows
def none {H : Type} : Left H := { results := [], args := [] }

/-- 'zzlaws_root_b1.FnHex4ReadsFourHexDigits': WHATEVER THE INPUT: true; the input reads as it did. -/
def fnHex4ReadsFourHexDigitsSpec : ChangeSpec := { name := "fnHex4ReadsFourHexDigits", fn := fun _ => fun
  | [d1, d2] => { results := [.lit (.bool true)], args := [d1, d2] }
  | _ => none }
def fnHex4ReadsFourHexDigitsRow : OpenClaim := { program := "qxb6619369a", sum := "46a35e087a0235478618852a2fb19c96cdb38d668c2e3ede092207d5d2c48466", func := "example.com/hubbub/hubbub/zzlaws_root_b1.FnHex4ReadsFourHexDigits", spec := "fnHex4ReadsFourHexDigits", apart := false }
def FnHex4ReadsFourHexDigitsSaid : Prop := fnHex4ReadsFourHexDigitsRow.holds Try.pinned (OpenSpec.ofChange fnHex4ReadsFourHexDigitsSpec)

/-- ITS FALSE NEIGHBOUR: 'it returns false'. Refute it at one input. -/
def fnHex4ReadsFourHexDigitsWrong : ChangeSpec := { name := "fnHex4ReadsFourHexDigits", fn := fun _ => fun
  | [d1, d2] => { results := [.lit (.bool false)], args := [d1, d2] }
  | _ => none }
def FnHex4ReadsFourHexDigitsWrongFalsely : Prop := fnHex4ReadsFourHexDigitsRow.holds Try.pinned (OpenSpec.ofChange fnHex4ReadsFourHexDigitsWrong)

end Rows
end Go.Proofs.Qxb6619369a
