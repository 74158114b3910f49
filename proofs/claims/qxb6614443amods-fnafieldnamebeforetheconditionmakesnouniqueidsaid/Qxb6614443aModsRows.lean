/-
  No cell of these rows narrows 'for every input' (looked for: loops, veiled, ifaces, maps, wideKeys, modest, calm, conditions, laid).
  DERIVED. THE GIVEN ROWS OF THIS SEAT. 1 by the template 'for every input the law returns true; each argument reads behind the call as it read before'; 0 by the template 'total and deterministic' (their statements: Qxb6614443aModsTotals.lean).
  GIVEN WITH THE SEED: the statements are not yours to turn. If you find one false, say at which input.
  Laid BY PROGRAM, IN A SANDBOX (cutbox-rows.mjs): the forced cells as the released guide's own fill.sh prints them over the translation e415713e54b71eb4… (all of the seat's roots in one cut). By AI agents, Wed Nov 11 2026. No macro, syntax, notation, axiom, sorry.
-/
import Derived.Test.Qxb6614443aModsChecked
import GoSem.Claim
import GoSem.ClaimJoined
import GoSem.ClaimMapViews
import Derived.JoinedTies
import Derived.KernelRfl
namespace Go.Proofs.Qxb6614443aMods
/- THE CELL 'sum', in the pinned program and in every row, IS THE sha256 OF THE DUMP (.gsa) THAT Qxb6614443aModsProg.lean LOADS. Nothing in Lean hashes anything: it is a label: what it is worth is what the hold of that sum in a sandbox is worth. -/
noncomputable def Trym.pinned : Pinned := { name := "qxb6614443amods", sum := "e415713e54b71eb417c58db368bd15e6cd2c47e5423221423fa2ece8b7182c90", checked := Trym.checked }
namespace Rows
def none {H : Type} : Left H := { results := [], args := [] }

/-- 'zzlaws_root_b1.FnAFieldNameBeforeTheConditionMakesNoUniqueID': WHATEVER THE INPUT: true; the input reads as it did. -/
def fnAFieldNameBeforeTheConditionMakesNoUniqueIDSpec : ChangeSpec := { name := "fnAFieldNameBeforeTheConditionMakesNoUniqueID", fn := fun _ => fun
  | [d1, d2, d3] => { results := [.lit (.bool true)], args := [d1, d2, d3] }
  | _ => none }
def fnAFieldNameBeforeTheConditionMakesNoUniqueIDRow : OpenClaim := { program := "qxb6614443amods", sum := "e415713e54b71eb417c58db368bd15e6cd2c47e5423221423fa2ece8b7182c90", func := "example.com/attenuant/attenuant/zzlaws_root_b1.FnAFieldNameBeforeTheConditionMakesNoUniqueID", spec := "fnAFieldNameBeforeTheConditionMakesNoUniqueID", make := .lifted ["publicsums"], apart := false }
def FnAFieldNameBeforeTheConditionMakesNoUniqueIDSaid : Prop := fnAFieldNameBeforeTheConditionMakesNoUniqueIDRow.holds Trym.pinned (OpenSpec.ofChange fnAFieldNameBeforeTheConditionMakesNoUniqueIDSpec)

/-- ITS FALSE NEIGHBOUR: 'it returns false'. Refute it at one input. -/
def fnAFieldNameBeforeTheConditionMakesNoUniqueIDWrong : ChangeSpec := { name := "fnAFieldNameBeforeTheConditionMakesNoUniqueID", fn := fun _ => fun
  | [d1, d2, d3] => { results := [.lit (.bool false)], args := [d1, d2, d3] }
  | _ => none }
def FnAFieldNameBeforeTheConditionMakesNoUniqueIDWrongFalsely : Prop := fnAFieldNameBeforeTheConditionMakesNoUniqueIDRow.holds Trym.pinned (OpenSpec.ofChange fnAFieldNameBeforeTheConditionMakesNoUniqueIDWrong)

end Rows
end Go.Proofs.Qxb6614443aMods
