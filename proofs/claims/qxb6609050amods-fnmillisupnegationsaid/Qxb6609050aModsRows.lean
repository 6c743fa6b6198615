/-
  No cell of these rows narrows 'for every input' (looked for: loops, veiled, ifaces, maps, wideKeys, modest, calm, conditions, laid).
  DERIVED. THE GIVEN ROWS OF THIS SEAT. 2 by the template 'for every input the law returns true; each argument reads behind the call as it read before'; 0 by the template 'total and deterministic' (their statements: Qxb6609050aModsTotals.lean).
  GIVEN WITH THE SEED: the statements are not yours to turn. If you find one false, say at which input.
  Laid BY PROGRAM, IN A SANDBOX (cutbox-rows.mjs): the forced cells as the released guide's own fill.sh prints them over the translation af7e5c0b97b1c16d… (all of the seat's roots in one cut). By AI agents, Wed Nov 11 2026. No macro, syntax, notation, axiom, sorry.
-/
import Derived.Test.Qxb6609050aModsChecked
import GoSem.Claim
import GoSem.ClaimJoined
import GoSem.ClaimMapViews
import Derived.JoinedTies
import Derived.KernelRfl
namespace Go.Proofs.Qxb6609050aMods
/- THE CELL 'sum', in the pinned program and in every row, IS THE sha256 OF THE DUMP (.gsa) THAT Qxb6609050aModsProg.lean LOADS. Nothing in Lean hashes anything: it is a label: what it is worth is what the hold of that sum in a sandbox is worth. -/
noncomputable def Trym.pinned : Pinned := { name := "qxb6609050amods", sum := "af7e5c0b97b1c16d1b2beec1898539046cdcff886d255334a4f528c6548bd204", checked := Trym.checked }
namespace Rows
def none {H : Type} : Left H := { results := [], args := [] }

/-- 'zzlaws_root_b1.FnMillisUpCeilShift': WHATEVER THE INPUT: true; the input reads as it did. -/
def fnMillisUpCeilShiftSpec : ChangeSpec := { name := "fnMillisUpCeilShift", fn := fun _ => fun
  | [d1, d2] => { results := [.lit (.bool true)], args := [d1, d2] }
  | _ => none }
def fnMillisUpCeilShiftRow : OpenClaim := { program := "qxb6609050amods", sum := "af7e5c0b97b1c16d1b2beec1898539046cdcff886d255334a4f528c6548bd204", func := "example.com/sluicegate/sluicegate/zzlaws_root_b1.FnMillisUpCeilShift", spec := "fnMillisUpCeilShift", make := .lifted ["publicsums"], apart := false }
def FnMillisUpCeilShiftSaid : Prop := fnMillisUpCeilShiftRow.holds Trym.pinned (OpenSpec.ofChange fnMillisUpCeilShiftSpec)

/-- ITS FALSE NEIGHBOUR: 'it returns false'. Refute it at one input. -/
def fnMillisUpCeilShiftWrong : ChangeSpec := { name := "fnMillisUpCeilShift", fn := fun _ => fun
  | [d1, d2] => { results := [.lit (.bool false)], args := [d1, d2] }
  | _ => none }
def FnMillisUpCeilShiftWrongFalsely : Prop := fnMillisUpCeilShiftRow.holds Trym.pinned (OpenSpec.ofChange fnMillisUpCeilShiftWrong)

/-- 'zzlaws_root_b1.FnMillisUpNegation': WHATEVER THE INPUT: true; the input reads as it did. -/
def fnMillisUpNegationSpec : ChangeSpec := { name := "fnMillisUpNegation", fn := fun _ => fun
  | [d] => { results := [.lit (.bool true)], args := [d] }
  | _ => none }
def fnMillisUpNegationRow : OpenClaim := { program := "qxb6609050amods", sum := "af7e5c0b97b1c16d1b2beec1898539046cdcff886d255334a4f528c6548bd204", func := "example.com/sluicegate/sluicegate/zzlaws_root_b1.FnMillisUpNegation", spec := "fnMillisUpNegation", make := .lifted ["publicsums"], apart := false }
def FnMillisUpNegationSaid : Prop := fnMillisUpNegationRow.holds Trym.pinned (OpenSpec.ofChange fnMillisUpNegationSpec)

/-- ITS FALSE NEIGHBOUR: 'it returns false'. Refute it at one input. -/
def fnMillisUpNegationWrong : ChangeSpec := { name := "fnMillisUpNegation", fn := fun _ => fun
  | [d] => { results := [.lit (.bool false)], args := [d] }
  | _ => none }
def FnMillisUpNegationWrongFalsely : Prop := fnMillisUpNegationRow.holds Trym.pinned (OpenSpec.ofChange fnMillisUpNegationWrong)

end Rows
end Go.Proofs.Qxb6609050aMods
