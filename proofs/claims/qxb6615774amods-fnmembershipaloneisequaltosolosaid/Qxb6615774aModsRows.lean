/-
  No cell of these rows narrows 'for every input' (looked for: loops, veiled, ifaces, maps, wideKeys, modest, calm, conditions, laid).
  DERIVED. THE GIVEN ROWS OF THIS SEAT. 6 by the template 'for every input the law returns true; each argument reads behind the call as it read before'; 0 by the template 'total and deterministic' (their statements: Qxb6615774aModsTotals.lean).
  GIVEN WITH THE SEED: the statements are not yours to turn. If you find one false, say at which input.
  Laid BY PROGRAM, IN A SANDBOX (cutbox-rows.mjs): the forced cells as the released guide's own fill.sh prints them over the translation 741267d20ac6215a… (all of the seat's roots in one cut). By AI agents, Wed Nov 11 2026. No macro, syntax, notation, axiom, sorry.
-/
import Derived.Test.Qxb6615774aModsChecked
import GoSem.Claim
import GoSem.ClaimJoined
import GoSem.ClaimMapViews
import Derived.JoinedTies
import Derived.KernelRfl
namespace Go.Proofs.Qxb6615774aMods
/- THE CELL 'sum', in the pinned program and in every row, IS THE sha256 OF THE DUMP (.gsa) THAT Qxb6615774aModsProg.lean LOADS. Nothing in Lean hashes anything: it is a label: what it is worth is what the hold of that sum in a sandbox is worth. -/
noncomputable def Trym.pinned : Pinned := { name := "qxb6615774amods", sum := "741267d20ac6215a81a7cde8fd37bc945a1dce234cd1f9e67da991e0127b2794", checked := Trym.checked }
namespace Rows
def none {H : Type} : Left H := { results := [], args := [] }

/-- 'zzlaws_store_b1.FnOwnIDsOfOutlivesItsBuffer': WHATEVER THE INPUT: true; the input reads as it did. -/
def fnOwnIDsOfOutlivesItsBufferSpec : ChangeSpec := { name := "fnOwnIDsOfOutlivesItsBuffer", fn := fun _ => fun
  | [d1, d2] => { results := [.lit (.bool true)], args := [d1, d2] }
  | _ => none }
def fnOwnIDsOfOutlivesItsBufferRow : OpenClaim := { program := "qxb6615774amods", sum := "741267d20ac6215a81a7cde8fd37bc945a1dce234cd1f9e67da991e0127b2794", func := "example.com/keelhold/keelhold/zzlaws_store_b1.FnOwnIDsOfOutlivesItsBuffer", spec := "fnOwnIDsOfOutlivesItsBuffer", make := .lifted ["publicsums"], apart := false }
def FnOwnIDsOfOutlivesItsBufferSaid : Prop := fnOwnIDsOfOutlivesItsBufferRow.holds Trym.pinned (OpenSpec.ofChange fnOwnIDsOfOutlivesItsBufferSpec)

/-- ITS FALSE NEIGHBOUR: 'it returns false'. Refute it at one input. -/
def fnOwnIDsOfOutlivesItsBufferWrong : ChangeSpec := { name := "fnOwnIDsOfOutlivesItsBuffer", fn := fun _ => fun
  | [d1, d2] => { results := [.lit (.bool false)], args := [d1, d2] }
  | _ => none }
def FnOwnIDsOfOutlivesItsBufferWrongFalsely : Prop := fnOwnIDsOfOutlivesItsBufferRow.holds Trym.pinned (OpenSpec.ofChange fnOwnIDsOfOutlivesItsBufferWrong)

/-- 'zzlaws_store_b1.FnMembershipStringCutJoin': WHATEVER THE INPUT: true; the input reads as it did. -/
def fnMembershipStringCutJoinSpec : ChangeSpec := { name := "fnMembershipStringCutJoin", fn := fun _ => fun
  | [d1, d2, d3, d4, d5, d6] => { results := [.lit (.bool true)], args := [d1, d2, d3, d4, d5, d6] }
  | _ => none }
def fnMembershipStringCutJoinRow : OpenClaim := { program := "qxb6615774amods", sum := "741267d20ac6215a81a7cde8fd37bc945a1dce234cd1f9e67da991e0127b2794", func := "example.com/keelhold/keelhold/zzlaws_store_b1.FnMembershipStringCutJoin", spec := "fnMembershipStringCutJoin", inPlace := ["internal/abi.NoEscape", "internal/bytealg.MakeNoZero"], make := .lifted ["publicsums"], apart := false }
def FnMembershipStringCutJoinSaid : Prop := fnMembershipStringCutJoinRow.holds Trym.pinned (OpenSpec.ofChange fnMembershipStringCutJoinSpec)

/-- ITS FALSE NEIGHBOUR: 'it returns false'. Refute it at one input. -/
def fnMembershipStringCutJoinWrong : ChangeSpec := { name := "fnMembershipStringCutJoin", fn := fun _ => fun
  | [d1, d2, d3, d4, d5, d6] => { results := [.lit (.bool false)], args := [d1, d2, d3, d4, d5, d6] }
  | _ => none }
def FnMembershipStringCutJoinWrongFalsely : Prop := fnMembershipStringCutJoinRow.holds Trym.pinned (OpenSpec.ofChange fnMembershipStringCutJoinWrong)

/-- 'zzlaws_store_b1.FnMembershipStringJoiningAndMetadata': WHATEVER THE INPUT: true; the input reads as it did. -/
def fnMembershipStringJoiningAndMetadataSpec : ChangeSpec := { name := "fnMembershipStringJoiningAndMetadata", fn := fun _ => fun
  | [d1, d2, d3, d4, d5, d6, d7, d8] => { results := [.lit (.bool true)], args := [d1, d2, d3, d4, d5, d6, d7, d8] }
  | _ => none }
def fnMembershipStringJoiningAndMetadataRow : OpenClaim := { program := "qxb6615774amods", sum := "741267d20ac6215a81a7cde8fd37bc945a1dce234cd1f9e67da991e0127b2794", func := "example.com/keelhold/keelhold/zzlaws_store_b1.FnMembershipStringJoiningAndMetadata", spec := "fnMembershipStringJoiningAndMetadata", inPlace := ["internal/abi.NoEscape", "internal/bytealg.MakeNoZero"], make := .lifted ["publicsums"], apart := false }
def FnMembershipStringJoiningAndMetadataSaid : Prop := fnMembershipStringJoiningAndMetadataRow.holds Trym.pinned (OpenSpec.ofChange fnMembershipStringJoiningAndMetadataSpec)

/-- ITS FALSE NEIGHBOUR: 'it returns false'. Refute it at one input. -/
def fnMembershipStringJoiningAndMetadataWrong : ChangeSpec := { name := "fnMembershipStringJoiningAndMetadata", fn := fun _ => fun
  | [d1, d2, d3, d4, d5, d6, d7, d8] => { results := [.lit (.bool false)], args := [d1, d2, d3, d4, d5, d6, d7, d8] }
  | _ => none }
def FnMembershipStringJoiningAndMetadataWrongFalsely : Prop := fnMembershipStringJoiningAndMetadataRow.holds Trym.pinned (OpenSpec.ofChange fnMembershipStringJoiningAndMetadataWrong)

/-- 'zzlaws_store_b1.FnMembershipAloneAgreesWithString': WHATEVER THE INPUT: true; the input reads as it did. -/
def fnMembershipAloneAgreesWithStringSpec : ChangeSpec := { name := "fnMembershipAloneAgreesWithString", fn := fun _ => fun
  | [d1, d2, d3, d4, d5] => { results := [.lit (.bool true)], args := [d1, d2, d3, d4, d5] }
  | _ => none }
def fnMembershipAloneAgreesWithStringRow : OpenClaim := { program := "qxb6615774amods", sum := "741267d20ac6215a81a7cde8fd37bc945a1dce234cd1f9e67da991e0127b2794", func := "example.com/keelhold/keelhold/zzlaws_store_b1.FnMembershipAloneAgreesWithString", spec := "fnMembershipAloneAgreesWithString", inPlace := ["internal/abi.NoEscape", "internal/bytealg.MakeNoZero"], make := .lifted ["publicsums"], apart := false }
def FnMembershipAloneAgreesWithStringSaid : Prop := fnMembershipAloneAgreesWithStringRow.holds Trym.pinned (OpenSpec.ofChange fnMembershipAloneAgreesWithStringSpec)

/-- ITS FALSE NEIGHBOUR: 'it returns false'. Refute it at one input. -/
def fnMembershipAloneAgreesWithStringWrong : ChangeSpec := { name := "fnMembershipAloneAgreesWithString", fn := fun _ => fun
  | [d1, d2, d3, d4, d5] => { results := [.lit (.bool false)], args := [d1, d2, d3, d4, d5] }
  | _ => none }
def FnMembershipAloneAgreesWithStringWrongFalsely : Prop := fnMembershipAloneAgreesWithStringRow.holds Trym.pinned (OpenSpec.ofChange fnMembershipAloneAgreesWithStringWrong)

/-- 'zzlaws_store_b1.FnMembershipAloneIsEqualToSolo': WHATEVER THE INPUT: true; the input reads as it did. -/
def fnMembershipAloneIsEqualToSoloSpec : ChangeSpec := { name := "fnMembershipAloneIsEqualToSolo", fn := fun _ => fun
  | [d1, d2, d3, d4, d5, d6, d7, d8] => { results := [.lit (.bool true)], args := [d1, d2, d3, d4, d5, d6, d7, d8] }
  | _ => none }
def fnMembershipAloneIsEqualToSoloRow : OpenClaim := { program := "qxb6615774amods", sum := "741267d20ac6215a81a7cde8fd37bc945a1dce234cd1f9e67da991e0127b2794", func := "example.com/keelhold/keelhold/zzlaws_store_b1.FnMembershipAloneIsEqualToSolo", spec := "fnMembershipAloneIsEqualToSolo", make := .lifted ["publicsums"], apart := false }
def FnMembershipAloneIsEqualToSoloSaid : Prop := fnMembershipAloneIsEqualToSoloRow.holds Trym.pinned (OpenSpec.ofChange fnMembershipAloneIsEqualToSoloSpec)

/-- ITS FALSE NEIGHBOUR: 'it returns false'. Refute it at one input. -/
def fnMembershipAloneIsEqualToSoloWrong : ChangeSpec := { name := "fnMembershipAloneIsEqualToSolo", fn := fun _ => fun
  | [d1, d2, d3, d4, d5, d6, d7, d8] => { results := [.lit (.bool false)], args := [d1, d2, d3, d4, d5, d6, d7, d8] }
  | _ => none }
def FnMembershipAloneIsEqualToSoloWrongFalsely : Prop := fnMembershipAloneIsEqualToSoloRow.holds Trym.pinned (OpenSpec.ofChange fnMembershipAloneIsEqualToSoloWrong)

/-- 'zzlaws_store_b1.FnMembershipEqualInsertOne': WHATEVER THE INPUT: true; the input reads as it did. -/
def fnMembershipEqualInsertOneSpec : ChangeSpec := { name := "fnMembershipEqualInsertOne", fn := fun _ => fun
  | [d1, d2, d3, d4, d5, d6, d7, d8, d9] => { results := [.lit (.bool true)], args := [d1, d2, d3, d4, d5, d6, d7, d8, d9] }
  | _ => none }
def fnMembershipEqualInsertOneRow : OpenClaim := { program := "qxb6615774amods", sum := "741267d20ac6215a81a7cde8fd37bc945a1dce234cd1f9e67da991e0127b2794", func := "example.com/keelhold/keelhold/zzlaws_store_b1.FnMembershipEqualInsertOne", spec := "fnMembershipEqualInsertOne", make := .lifted ["publicsums"], apart := false }
def FnMembershipEqualInsertOneSaid : Prop := fnMembershipEqualInsertOneRow.holds Trym.pinned (OpenSpec.ofChange fnMembershipEqualInsertOneSpec)

/-- ITS FALSE NEIGHBOUR: 'it returns false'. Refute it at one input. -/
def fnMembershipEqualInsertOneWrong : ChangeSpec := { name := "fnMembershipEqualInsertOne", fn := fun _ => fun
  | [d1, d2, d3, d4, d5, d6, d7, d8, d9] => { results := [.lit (.bool false)], args := [d1, d2, d3, d4, d5, d6, d7, d8, d9] }
  | _ => none }
def FnMembershipEqualInsertOneWrongFalsely : Prop := fnMembershipEqualInsertOneRow.holds Trym.pinned (OpenSpec.ofChange fnMembershipEqualInsertOneWrong)

end Rows
end Go.Proofs.Qxb6615774aMods
