/-
  No cell of these rows narrows 'for every input' (looked for: loops, veiled, ifaces, maps, wideKeys, modest, calm, conditions, laid).
  DERIVED. THE GIVEN ROWS OF THIS SEAT. 2 by the template 'for every input the law returns true; each argument reads behind the call as it read before'; 0 by the template 'total and deterministic' (their statements: Qxb6619196aModsTotals.lean).
  GIVEN WITH THE SEED: the statements are not yours to turn. If you find one false, say at which input.
  Laid BY PROGRAM, IN A SANDBOX (cutbox-rows.mjs): the forced cells as the released guide's own fill.sh prints them over the translation fec4da50bfc7bf31… (all of the seat's roots in one cut). By AI agents, Wed Nov 11 2026. No macro, syntax, notation, axiom, sorry.
-/
import Derived.Test.Qxb6619196aModsChecked
import GoSem.Claim
import GoSem.ClaimJoined
import GoSem.ClaimMapViews
import Derived.JoinedTies
import Derived.KernelRfl
namespace Go.Proofs.Qxb6619196aMods
/- THE CELL 'sum', in the pinned program and in every row, IS THE sha256 OF THE DUMP (.gsa) THAT Qxb6619196aModsProg.lean LOADS. Nothing in Lean hashes anything: it is a label: what it is worth is what the hold of that sum in a sandbox is worth. -/
noncomputable def Trym.pinned : Pinned := { name := "qxb6619196amods", sum := "fec4da50bfc7bf31757ee777524646352ca0130ec3f922ce79c53e51c8621303", checked := Trym.checked }
namespace Rows
def none {H : Type} : Left H := { results := [], args := [] }

/-- 'zzlaws_root_b1.FnAccountOfDoorsDecodeBack': WHATEVER THE INPUT: true; the input reads as it did. -/
def fnAccountOfDoorsDecodeBackSpec : ChangeSpec := { name := "fnAccountOfDoorsDecodeBack", fn := fun _ => fun
  | [d1, d2, d3, d4, d5, d6, d7] => { results := [.lit (.bool true)], args := [d1, d2, d3, d4, d5, d6, d7] }
  | _ => none }
def fnAccountOfDoorsDecodeBackRow : OpenClaim := { program := "qxb6619196amods", sum := "fec4da50bfc7bf31757ee777524646352ca0130ec3f922ce79c53e51c8621303", func := "example.com/many-doors/many-doors/zzlaws_root_b1.FnAccountOfDoorsDecodeBack", spec := "fnAccountOfDoorsDecodeBack", make := .lifted ["publicsums"], apart := false }
def FnAccountOfDoorsDecodeBackSaid : Prop := fnAccountOfDoorsDecodeBackRow.holds Trym.pinned (OpenSpec.ofChange fnAccountOfDoorsDecodeBackSpec)

/-- ITS FALSE NEIGHBOUR: 'it returns false'. Refute it at one input. -/
def fnAccountOfDoorsDecodeBackWrong : ChangeSpec := { name := "fnAccountOfDoorsDecodeBack", fn := fun _ => fun
  | [d1, d2, d3, d4, d5, d6, d7] => { results := [.lit (.bool false)], args := [d1, d2, d3, d4, d5, d6, d7] }
  | _ => none }
def FnAccountOfDoorsDecodeBackWrongFalsely : Prop := fnAccountOfDoorsDecodeBackRow.holds Trym.pinned (OpenSpec.ofChange fnAccountOfDoorsDecodeBackWrong)

/-- 'zzlaws_root_b1.FnAccountOfDoorsSplitAtAnyCut': WHATEVER THE INPUT: true; the input reads as it did. -/
def fnAccountOfDoorsSplitAtAnyCutSpec : ChangeSpec := { name := "fnAccountOfDoorsSplitAtAnyCut", fn := fun _ => fun
  | [d1, d2, d3, d4, d5, d6, d7, d8] => { results := [.lit (.bool true)], args := [d1, d2, d3, d4, d5, d6, d7, d8] }
  | _ => none }
def fnAccountOfDoorsSplitAtAnyCutRow : OpenClaim := { program := "qxb6619196amods", sum := "fec4da50bfc7bf31757ee777524646352ca0130ec3f922ce79c53e51c8621303", func := "example.com/many-doors/many-doors/zzlaws_root_b1.FnAccountOfDoorsSplitAtAnyCut", spec := "fnAccountOfDoorsSplitAtAnyCut", make := .lifted ["publicsums"], apart := false }
def FnAccountOfDoorsSplitAtAnyCutSaid : Prop := fnAccountOfDoorsSplitAtAnyCutRow.holds Trym.pinned (OpenSpec.ofChange fnAccountOfDoorsSplitAtAnyCutSpec)

/-- ITS FALSE NEIGHBOUR: 'it returns false'. Refute it at one input. -/
def fnAccountOfDoorsSplitAtAnyCutWrong : ChangeSpec := { name := "fnAccountOfDoorsSplitAtAnyCut", fn := fun _ => fun
  | [d1, d2, d3, d4, d5, d6, d7, d8] => { results := [.lit (.bool false)], args := [d1, d2, d3, d4, d5, d6, d7, d8] }
  | _ => none }
def FnAccountOfDoorsSplitAtAnyCutWrongFalsely : Prop := fnAccountOfDoorsSplitAtAnyCutRow.holds Trym.pinned (OpenSpec.ofChange fnAccountOfDoorsSplitAtAnyCutWrong)

end Rows
end Go.Proofs.Qxb6619196aMods
