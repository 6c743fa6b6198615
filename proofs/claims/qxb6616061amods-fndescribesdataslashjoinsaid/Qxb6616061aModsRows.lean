/-
  No cell of these rows narrows 'for every input' (looked for: loops, veiled, ifaces, maps, wideKeys, modest, calm, conditions, laid).
  DERIVED. THE GIVEN ROWS OF THIS SEAT. 2 by the template 'for every input the law returns true; each argument reads behind the call as it read before'; 0 by the template 'total and deterministic' (their statements: Qxb6616061aModsTotals.lean).
  GIVEN WITH THE SEED: the statements are not yours to turn. If you find one false, say at which input.
  Laid BY PROGRAM, IN A SANDBOX (cutbox-rows.mjs): the forced cells as the released guide's own fill.sh prints them over the translation 04bae36de87d7a08… (all of the seat's roots in one cut). By AI agents, Wed Nov 11 2026. No macro, syntax, notation, axiom, sorry.
-/
import Derived.Test.Qxb6616061aModsChecked
import GoSem.Claim
import GoSem.ClaimJoined
import GoSem.ClaimMapViews
import Derived.JoinedTies
import Derived.KernelRfl
namespace Go.Proofs.Qxb6616061aMods
/- THE CELL 'sum', in the pinned program and in every row, IS THE sha256 OF THE DUMP (.gsa) THAT Qxb6616061aModsProg.lean LOADS. Nothing in Lean hashes anything: it is a label: what it is worth is what the hold of that sum in a sandbox is worth. -/
noncomputable def Trym.pinned : Pinned := { name := "qxb6616061amods", sum := "04bae36de87d7a088acc409cfafc54cf6a65dff09a73573db0ba922f58ae48fe", checked := Trym.checked }
namespace Rows
def none {H : Type} : Left H := { results := [], args := [] }

/-- 'zzlaws_internal_binding_b1.FnDescribesDataSlashJoin': WHATEVER THE INPUT: true; the input reads as it did. -/
def fnDescribesDataSlashJoinSpec : ChangeSpec := { name := "fnDescribesDataSlashJoin", fn := fun _ => fun
  | [d1, d2] => { results := [.lit (.bool true)], args := [d1, d2] }
  | _ => none }
def fnDescribesDataSlashJoinRow : OpenClaim := { program := "qxb6616061amods", sum := "04bae36de87d7a088acc409cfafc54cf6a65dff09a73573db0ba922f58ae48fe", func := "example.com/hawser/hawser/zzlaws_internal_binding_b1.FnDescribesDataSlashJoin", spec := "fnDescribesDataSlashJoin", make := .lifted ["publicsums"], apart := false }
def FnDescribesDataSlashJoinSaid : Prop := fnDescribesDataSlashJoinRow.holds Trym.pinned (OpenSpec.ofChange fnDescribesDataSlashJoinSpec)

/-- ITS FALSE NEIGHBOUR: 'it returns false'. Refute it at one input. -/
def fnDescribesDataSlashJoinWrong : ChangeSpec := { name := "fnDescribesDataSlashJoin", fn := fun _ => fun
  | [d1, d2] => { results := [.lit (.bool false)], args := [d1, d2] }
  | _ => none }
def FnDescribesDataSlashJoinWrongFalsely : Prop := fnDescribesDataSlashJoinRow.holds Trym.pinned (OpenSpec.ofChange fnDescribesDataSlashJoinWrong)

/-- 'zzlaws_internal_binding_b1.FnDescribesDataNameExact': WHATEVER THE INPUT: true; the input reads as it did. -/
def fnDescribesDataNameExactSpec : ChangeSpec := { name := "fnDescribesDataNameExact", fn := fun _ => fun
  | [d1, d2, d3] => { results := [.lit (.bool true)], args := [d1, d2, d3] }
  | _ => none }
def fnDescribesDataNameExactRow : OpenClaim := { program := "qxb6616061amods", sum := "04bae36de87d7a088acc409cfafc54cf6a65dff09a73573db0ba922f58ae48fe", func := "example.com/hawser/hawser/zzlaws_internal_binding_b1.FnDescribesDataNameExact", spec := "fnDescribesDataNameExact", make := .lifted ["publicsums"], apart := false }
def FnDescribesDataNameExactSaid : Prop := fnDescribesDataNameExactRow.holds Trym.pinned (OpenSpec.ofChange fnDescribesDataNameExactSpec)

/-- ITS FALSE NEIGHBOUR: 'it returns false'. Refute it at one input. -/
def fnDescribesDataNameExactWrong : ChangeSpec := { name := "fnDescribesDataNameExact", fn := fun _ => fun
  | [d1, d2, d3] => { results := [.lit (.bool false)], args := [d1, d2, d3] }
  | _ => none }
def FnDescribesDataNameExactWrongFalsely : Prop := fnDescribesDataNameExactRow.holds Trym.pinned (OpenSpec.ofChange fnDescribesDataNameExactWrong)

end Rows
end Go.Proofs.Qxb6616061aMods
