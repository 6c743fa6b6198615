/-
  No cell of these rows narrows 'for every input' (looked for: loops, veiled, ifaces, maps, wideKeys, modest, calm, conditions, laid).
  DERIVED. THE GIVEN ROWS OF THIS SEAT. 4 by the template 'for every input the law returns true; each argument reads behind the call as it read before'; 0 by the template 'total and deterministic' (their statements: Qxb6615550aModsTotals.lean).
  GIVEN WITH THE SEED: the statements are not yours to turn. If you find one false, say at which input.
  Laid BY PROGRAM, IN A SANDBOX (cutbox-rows.mjs): the forced cells as the released guide's own fill.sh prints them over the translation 3c938509cccdd7d1… (all of the seat's roots in one cut). By AI agents, Wed Nov 11 2026. No macro, syntax, notation, axiom, sorry.
-/
import Derived.Test.Qxb6615550aModsChecked
import GoSem.Claim
import GoSem.ClaimJoined
import GoSem.ClaimMapViews
import Derived.JoinedTies
import Derived.KernelRfl
namespace Go.Proofs.Qxb6615550aMods
/- THE CELL 'sum', in the pinned program and in every row, IS THE sha256 OF THE DUMP (.gsa) THAT Qxb6615550aModsProg.lean LOADS. Nothing in Lean hashes anything: it is a label: what it is worth is what the hold of that sum in a sandbox is worth. -/
noncomputable def Trym.pinned : Pinned := { name := "qxb6615550amods", sum := "3c938509cccdd7d150396622037167e10a90abdff8f9c0386cdd2d8b0dc991d9", checked := Trym.checked }
namespace Rows
def none {H : Type} : Left H := { results := [], args := [] }

/-- 'zzlaws_input_b1.FnChunkSizeTotals': WHATEVER THE INPUT: true; the input reads as it did. -/
def fnChunkSizeTotalsSpec : ChangeSpec := { name := "fnChunkSizeTotals", fn := fun _ => fun
  | [d] => { results := [.lit (.bool true)], args := [d] }
  | _ => none }
def fnChunkSizeTotalsRow : OpenClaim := { program := "qxb6615550amods", sum := "3c938509cccdd7d150396622037167e10a90abdff8f9c0386cdd2d8b0dc991d9", func := "example.com/rackwise/rackwise/zzlaws_input_b1.FnChunkSizeTotals", spec := "fnChunkSizeTotals", make := .lifted ["publicsums"], apart := false }
def FnChunkSizeTotalsSaid : Prop := fnChunkSizeTotalsRow.holds Trym.pinned (OpenSpec.ofChange fnChunkSizeTotalsSpec)

/-- ITS FALSE NEIGHBOUR: 'it returns false'. Refute it at one input. -/
def fnChunkSizeTotalsWrong : ChangeSpec := { name := "fnChunkSizeTotals", fn := fun _ => fun
  | [d] => { results := [.lit (.bool false)], args := [d] }
  | _ => none }
def FnChunkSizeTotalsWrongFalsely : Prop := fnChunkSizeTotalsRow.holds Trym.pinned (OpenSpec.ofChange fnChunkSizeTotalsWrong)

/-- 'zzlaws_input_b1.FnChunkSizeDoublesToCap': WHATEVER THE INPUT: true; the input reads as it did. -/
def fnChunkSizeDoublesToCapSpec : ChangeSpec := { name := "fnChunkSizeDoublesToCap", fn := fun _ => fun
  | [d] => { results := [.lit (.bool true)], args := [d] }
  | _ => none }
def fnChunkSizeDoublesToCapRow : OpenClaim := { program := "qxb6615550amods", sum := "3c938509cccdd7d150396622037167e10a90abdff8f9c0386cdd2d8b0dc991d9", func := "example.com/rackwise/rackwise/zzlaws_input_b1.FnChunkSizeDoublesToCap", spec := "fnChunkSizeDoublesToCap", make := .lifted ["publicsums"], apart := false }
def FnChunkSizeDoublesToCapSaid : Prop := fnChunkSizeDoublesToCapRow.holds Trym.pinned (OpenSpec.ofChange fnChunkSizeDoublesToCapSpec)

/-- ITS FALSE NEIGHBOUR: 'it returns false'. Refute it at one input. -/
def fnChunkSizeDoublesToCapWrong : ChangeSpec := { name := "fnChunkSizeDoublesToCap", fn := fun _ => fun
  | [d] => { results := [.lit (.bool false)], args := [d] }
  | _ => none }
def FnChunkSizeDoublesToCapWrongFalsely : Prop := fnChunkSizeDoublesToCapRow.holds Trym.pinned (OpenSpec.ofChange fnChunkSizeDoublesToCapWrong)

/-- 'zzlaws_input_b1.FnFaultListKeepsFirstThree': WHATEVER THE INPUT: true; the input reads as it did. -/
def fnFaultListKeepsFirstThreeSpec : ChangeSpec := { name := "fnFaultListKeepsFirstThree", fn := fun _ => fun
  | [d] => { results := [.lit (.bool true)], args := [d] }
  | _ => none }
def fnFaultListKeepsFirstThreeRow : OpenClaim := { program := "qxb6615550amods", sum := "3c938509cccdd7d150396622037167e10a90abdff8f9c0386cdd2d8b0dc991d9", func := "example.com/rackwise/rackwise/zzlaws_input_b1.FnFaultListKeepsFirstThree", spec := "fnFaultListKeepsFirstThree", unfollowed := true, recurses := true, make := .lifted ["publicsums"], apart := false }
def FnFaultListKeepsFirstThreeSaid : Prop := fnFaultListKeepsFirstThreeRow.holds Trym.pinned (OpenSpec.ofChange fnFaultListKeepsFirstThreeSpec)

/-- ITS FALSE NEIGHBOUR: 'it returns false'. Refute it at one input. -/
def fnFaultListKeepsFirstThreeWrong : ChangeSpec := { name := "fnFaultListKeepsFirstThree", fn := fun _ => fun
  | [d] => { results := [.lit (.bool false)], args := [d] }
  | _ => none }
def FnFaultListKeepsFirstThreeWrongFalsely : Prop := fnFaultListKeepsFirstThreeRow.holds Trym.pinned (OpenSpec.ofChange fnFaultListKeepsFirstThreeWrong)

/-- 'zzlaws_input_b1.FnFaultListForgetsUnnamedWording': WHATEVER THE INPUT: true; the input reads as it did. -/
def fnFaultListForgetsUnnamedWordingSpec : ChangeSpec := { name := "fnFaultListForgetsUnnamedWording", fn := fun _ => fun
  | [d1, d2] => { results := [.lit (.bool true)], args := [d1, d2] }
  | _ => none }
def fnFaultListForgetsUnnamedWordingRow : OpenClaim := { program := "qxb6615550amods", sum := "3c938509cccdd7d150396622037167e10a90abdff8f9c0386cdd2d8b0dc991d9", func := "example.com/rackwise/rackwise/zzlaws_input_b1.FnFaultListForgetsUnnamedWording", spec := "fnFaultListForgetsUnnamedWording", unfollowed := true, recurses := true, make := .lifted ["publicsums"], apart := false }
def FnFaultListForgetsUnnamedWordingSaid : Prop := fnFaultListForgetsUnnamedWordingRow.holds Trym.pinned (OpenSpec.ofChange fnFaultListForgetsUnnamedWordingSpec)

/-- ITS FALSE NEIGHBOUR: 'it returns false'. Refute it at one input. -/
def fnFaultListForgetsUnnamedWordingWrong : ChangeSpec := { name := "fnFaultListForgetsUnnamedWording", fn := fun _ => fun
  | [d1, d2] => { results := [.lit (.bool false)], args := [d1, d2] }
  | _ => none }
def FnFaultListForgetsUnnamedWordingWrongFalsely : Prop := fnFaultListForgetsUnnamedWordingRow.holds Trym.pinned (OpenSpec.ofChange fnFaultListForgetsUnnamedWordingWrong)

end Rows
end Go.Proofs.Qxb6615550aMods
