/-
  No cell of these rows narrows 'for every input' (looked for: loops, veiled, ifaces, maps, wideKeys, modest, calm, conditions, laid).
  DERIVED. THE GIVEN ROWS OF THIS SEAT. 1 by the template 'for every input the law returns true; each argument reads behind the call as it read before'; 0 by the template 'total and deterministic' (their statements: Qxb6617839aModsTotals.lean).
  GIVEN WITH THE SEED: the statements are not yours to turn. If you find one false, say at which input.
  Laid BY PROGRAM, IN A SANDBOX (cutbox-rows.mjs): the forced cells as the released guide's own fill.sh prints them over the translation 96194816abc84020… (all of the seat's roots in one cut). By AI agents, Wed Nov 11 2026. No macro, syntax, notation, axiom, sorry.
-/
import Derived.Test.Qxb6617839aModsChecked
import GoSem.Claim
import GoSem.ClaimJoined
import GoSem.ClaimMapViews
import Derived.JoinedTies
import Derived.KernelRfl
namespace Go.Proofs.Qxb6617839aMods
/- THE CELL 'sum', in the pinned program and in every row, IS THE sha256 OF THE DUMP (.gsa) THAT Qxb6617839aModsProg.lean LOADS. Nothing in Lean hashes anything: it is a label: what it is worth is what the hold of that sum in a sandbox is worth. -/
noncomputable def Trym.pinned : Pinned := { name := "qxb6617839amods", sum := "96194816abc8402073dc85b85478a42ca493c5894ceb664caa016c5d0eada603", checked := Trym.checked }
namespace Rows
def none {H : Type} : Left H := { results := [], args := [] }

/-- 'zzlaws_internal_markdown_b1.FnContinuationMaximalSubpart': WHATEVER THE INPUT: true; the input reads as it did. -/
def fnContinuationMaximalSubpartSpec : ChangeSpec := { name := "fnContinuationMaximalSubpart", fn := fun _ => fun
  | [d] => { results := [.lit (.bool true)], args := [d] }
  | _ => none }
def fnContinuationMaximalSubpartRow : OpenClaim := { program := "qxb6617839amods", sum := "96194816abc8402073dc85b85478a42ca493c5894ceb664caa016c5d0eada603", func := "example.com/marginfold/marginfold/zzlaws_internal_markdown_b1.FnContinuationMaximalSubpart", spec := "fnContinuationMaximalSubpart", make := .lifted ["publicsums"], apart := false }
def FnContinuationMaximalSubpartSaid : Prop := fnContinuationMaximalSubpartRow.holds Trym.pinned (OpenSpec.ofChange fnContinuationMaximalSubpartSpec)

/-- ITS FALSE NEIGHBOUR: 'it returns false'. Refute it at one input. -/
def fnContinuationMaximalSubpartWrong : ChangeSpec := { name := "fnContinuationMaximalSubpart", fn := fun _ => fun
  | [d] => { results := [.lit (.bool false)], args := [d] }
  | _ => none }
def FnContinuationMaximalSubpartWrongFalsely : Prop := fnContinuationMaximalSubpartRow.holds Trym.pinned (OpenSpec.ofChange fnContinuationMaximalSubpartWrong)

end Rows
end Go.Proofs.Qxb6617839aMods
