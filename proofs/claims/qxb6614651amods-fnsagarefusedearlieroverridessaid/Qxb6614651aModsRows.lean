/-
  No cell of these rows narrows 'for every input' (looked for: loops, veiled, ifaces, maps, wideKeys, modest, calm, conditions, laid).
  DERIVED. THE GIVEN ROWS OF THIS SEAT. 1 by the template 'for every input the law returns true; each argument reads behind the call as it read before'; 0 by the template 'total and deterministic' (their statements: Qxb6614651aModsTotals.lean).
  GIVEN WITH THE SEED: the statements are not yours to turn. If you find one false, say at which input.
  Laid BY PROGRAM, IN A SANDBOX (cutbox-rows.mjs): the forced cells as the released guide's own fill.sh prints them over the translation e83605cdffe50a63… (all of the seat's roots in one cut). By AI agents, Wed Nov 11 2026. No macro, syntax, notation, axiom, sorry.
-/
import Derived.Test.Qxb6614651aModsChecked
import GoSem.Claim
import GoSem.ClaimJoined
import GoSem.ClaimMapViews
import Derived.JoinedTies
import Derived.KernelRfl
namespace Go.Proofs.Qxb6614651aMods
/- THE CELL 'sum', in the pinned program and in every row, IS THE sha256 OF THE DUMP (.gsa) THAT Qxb6614651aModsProg.lean LOADS. Nothing in Lean hashes anything: it is a label: what it is worth is what the hold of that sum in a sandbox is worth. -/
noncomputable def Trym.pinned : Pinned := { name := "qxb6614651amods", sum := "e83605cdffe50a63aaa95deafef477996060e7b3e3ac17f84f75b23c09dcb14e", checked := Trym.checked }
namespace Rows
def none {H : Type} : Left H := { results := [], args := [] }

/-- 'zzlaws_coordinator_b1.FnSagaRefusedEarlierOverrides': WHATEVER THE INPUT: true; the input reads as it did. -/
def fnSagaRefusedEarlierOverridesSpec : ChangeSpec := { name := "fnSagaRefusedEarlierOverrides", fn := fun _ => fun
  | [d1, d2, d3, d4, d5, d6, d7] => { results := [.lit (.bool true)], args := [d1, d2, d3, d4, d5, d6, d7] }
  | _ => none }
def fnSagaRefusedEarlierOverridesRow : OpenClaim := { program := "qxb6614651amods", sum := "e83605cdffe50a63aaa95deafef477996060e7b3e3ac17f84f75b23c09dcb14e", func := "example.com/concordat/concordat/zzlaws_coordinator_b1.FnSagaRefusedEarlierOverrides", spec := "fnSagaRefusedEarlierOverrides", make := .lifted ["publicsums"], apart := false }
def FnSagaRefusedEarlierOverridesSaid : Prop := fnSagaRefusedEarlierOverridesRow.holds Trym.pinned (OpenSpec.ofChange fnSagaRefusedEarlierOverridesSpec)

/-- ITS FALSE NEIGHBOUR: 'it returns false'. Refute it at one input. -/
def fnSagaRefusedEarlierOverridesWrong : ChangeSpec := { name := "fnSagaRefusedEarlierOverrides", fn := fun _ => fun
  | [d1, d2, d3, d4, d5, d6, d7] => { results := [.lit (.bool false)], args := [d1, d2, d3, d4, d5, d6, d7] }
  | _ => none }
def FnSagaRefusedEarlierOverridesWrongFalsely : Prop := fnSagaRefusedEarlierOverridesRow.holds Trym.pinned (OpenSpec.ofChange fnSagaRefusedEarlierOverridesWrong)

end Rows
end Go.Proofs.Qxb6614651aMods
