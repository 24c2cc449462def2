/-
  No cell of these rows narrows 'for every input' (looked for: loops, veiled, ifaces, maps, wideKeys, modest, calm, conditions, laid).
  DERIVED. THE GIVEN ROWS OF THIS SEAT. 8 by the template 'for every input the law returns true; each argument reads behind the call as it read before'; 0 by the template 'total and deterministic' (their statements: Qxb6001225aTotals.lean).
  GIVEN WITH THE SEED: the statements are not yours to turn. If you find one false, say at which input.
  Laid BY PROGRAM, IN A SANDBOX (cutbox-rows.mjs): the forced cells as the released guide's own fill.sh prints them over the translation 6faba044d92f636d… (all of the seat's roots in one cut). By AI agents, Wed Nov 11 2026. No macro, syntax, notation, axiom, sorry.
-/
import Derived.Test.Qxb6001225aChecked
import GoSem.Claim
import GoSem.ClaimJoined
import GoSem.ClaimMapViews
import Derived.JoinedTies
import Derived.KernelRfl
namespace Go.Proofs.Qxb6001225a
/- THE CELL 'sum', in the pinned program and in every row, IS THE sha256 OF THE DUMP (.gsa) THAT Qxb6001225aProg.lean LOADS. Nothing in Lean hashes anything: it is a label: what it is worth is what the hold of that sum in a sandbox is worth. -/
noncomputable def Try.pinned : Pinned := { name := "qxb6001225a", sum := "6faba044d92f636de4e6b6d39775484cb723c8ceccb66ef1acd7e8177af28833", checked := Try.checked }
namespace Rows
def none {H : Type} : Left H := { results := [], args := [] }

/-- 'zzlaws_root_b1.FnNestingGroupsRoundTrip': WHATEVER THE INPUT: true; the input reads as it did. -/
def fnNestingGroupsRoundTripSpec : ChangeSpec := { name := "fnNestingGroupsRoundTrip", fn := fun _ => fun
  | [d1, d2] => { results := [.lit (.bool true)], args := [d1, d2] }
  | _ => none }
def fnNestingGroupsRoundTripRow : OpenClaim := { program := "qxb6001225a", sum := "6faba044d92f636de4e6b6d39775484cb723c8ceccb66ef1acd7e8177af28833", func := "example.com/entitlement/entitlement/zzlaws_root_b1.FnNestingGroupsRoundTrip", spec := "fnNestingGroupsRoundTrip", apart := false }
def FnNestingGroupsRoundTripSaid : Prop := fnNestingGroupsRoundTripRow.holds Try.pinned (OpenSpec.ofChange fnNestingGroupsRoundTripSpec)

/-- ITS FALSE NEIGHBOUR: 'it returns false'. Refute it at one input. -/
def fnNestingGroupsRoundTripWrong : ChangeSpec := { name := "fnNestingGroupsRoundTrip", fn := fun _ => fun
  | [d1, d2] => { results := [.lit (.bool false)], args := [d1, d2] }
  | _ => none }
def FnNestingGroupsRoundTripWrongFalsely : Prop := fnNestingGroupsRoundTripRow.holds Try.pinned (OpenSpec.ofChange fnNestingGroupsRoundTripWrong)

/-- 'zzlaws_root_b1.FnNestingCallPairTransparent': WHATEVER THE INPUT: true; the input reads as it did. -/
def fnNestingCallPairTransparentSpec : ChangeSpec := { name := "fnNestingCallPairTransparent", fn := fun _ => fun
  | [d1, d2] => { results := [.lit (.bool true)], args := [d1, d2] }
  | _ => none }
def fnNestingCallPairTransparentRow : OpenClaim := { program := "qxb6001225a", sum := "6faba044d92f636de4e6b6d39775484cb723c8ceccb66ef1acd7e8177af28833", func := "example.com/entitlement/entitlement/zzlaws_root_b1.FnNestingCallPairTransparent", spec := "fnNestingCallPairTransparent", apart := false }
def FnNestingCallPairTransparentSaid : Prop := fnNestingCallPairTransparentRow.holds Try.pinned (OpenSpec.ofChange fnNestingCallPairTransparentSpec)

/-- ITS FALSE NEIGHBOUR: 'it returns false'. Refute it at one input. -/
def fnNestingCallPairTransparentWrong : ChangeSpec := { name := "fnNestingCallPairTransparent", fn := fun _ => fun
  | [d1, d2] => { results := [.lit (.bool false)], args := [d1, d2] }
  | _ => none }
def FnNestingCallPairTransparentWrongFalsely : Prop := fnNestingCallPairTransparentRow.holds Try.pinned (OpenSpec.ofChange fnNestingCallPairTransparentWrong)

/-- 'zzlaws_root_b1.FnNestingStepBound': WHATEVER THE INPUT: true; the input reads as it did. -/
def fnNestingStepBoundSpec : ChangeSpec := { name := "fnNestingStepBound", fn := fun _ => fun
  | [d1, d2] => { results := [.lit (.bool true)], args := [d1, d2] }
  | _ => none }
def fnNestingStepBoundRow : OpenClaim := { program := "qxb6001225a", sum := "6faba044d92f636de4e6b6d39775484cb723c8ceccb66ef1acd7e8177af28833", func := "example.com/entitlement/entitlement/zzlaws_root_b1.FnNestingStepBound", spec := "fnNestingStepBound", apart := false }
def FnNestingStepBoundSaid : Prop := fnNestingStepBoundRow.holds Try.pinned (OpenSpec.ofChange fnNestingStepBoundSpec)

/-- ITS FALSE NEIGHBOUR: 'it returns false'. Refute it at one input. -/
def fnNestingStepBoundWrong : ChangeSpec := { name := "fnNestingStepBound", fn := fun _ => fun
  | [d1, d2] => { results := [.lit (.bool false)], args := [d1, d2] }
  | _ => none }
def FnNestingStepBoundWrongFalsely : Prop := fnNestingStepBoundRow.holds Try.pinned (OpenSpec.ofChange fnNestingStepBoundWrong)

/-- 'zzlaws_root_b1.FnValueEndOfString': WHATEVER THE INPUT: true; the input reads as it did. -/
def fnValueEndOfStringSpec : ChangeSpec := { name := "fnValueEndOfString", fn := fun _ => fun
  | [d1, d2, d3, d4] => { results := [.lit (.bool true)], args := [d1, d2, d3, d4] }
  | _ => none }
def fnValueEndOfStringRow : OpenClaim := { program := "qxb6001225a", sum := "6faba044d92f636de4e6b6d39775484cb723c8ceccb66ef1acd7e8177af28833", func := "example.com/entitlement/entitlement/zzlaws_root_b1.FnValueEndOfString", spec := "fnValueEndOfString", apart := false }
def FnValueEndOfStringSaid : Prop := fnValueEndOfStringRow.holds Try.pinned (OpenSpec.ofChange fnValueEndOfStringSpec)

/-- ITS FALSE NEIGHBOUR: 'it returns false'. Refute it at one input. -/
def fnValueEndOfStringWrong : ChangeSpec := { name := "fnValueEndOfString", fn := fun _ => fun
  | [d1, d2, d3, d4] => { results := [.lit (.bool false)], args := [d1, d2, d3, d4] }
  | _ => none }
def FnValueEndOfStringWrongFalsely : Prop := fnValueEndOfStringRow.holds Try.pinned (OpenSpec.ofChange fnValueEndOfStringWrong)

/-- 'zzlaws_root_b1.FnValueEndOfLiteral': WHATEVER THE INPUT: true; the input reads as it did. -/
def fnValueEndOfLiteralSpec : ChangeSpec := { name := "fnValueEndOfLiteral", fn := fun _ => fun
  | [d1, d2, d3, d4, d5] => { results := [.lit (.bool true)], args := [d1, d2, d3, d4, d5] }
  | _ => none }
def fnValueEndOfLiteralRow : OpenClaim := { program := "qxb6001225a", sum := "6faba044d92f636de4e6b6d39775484cb723c8ceccb66ef1acd7e8177af28833", func := "example.com/entitlement/entitlement/zzlaws_root_b1.FnValueEndOfLiteral", spec := "fnValueEndOfLiteral", apart := false }
def FnValueEndOfLiteralSaid : Prop := fnValueEndOfLiteralRow.holds Try.pinned (OpenSpec.ofChange fnValueEndOfLiteralSpec)

/-- ITS FALSE NEIGHBOUR: 'it returns false'. Refute it at one input. -/
def fnValueEndOfLiteralWrong : ChangeSpec := { name := "fnValueEndOfLiteral", fn := fun _ => fun
  | [d1, d2, d3, d4, d5] => { results := [.lit (.bool false)], args := [d1, d2, d3, d4, d5] }
  | _ => none }
def FnValueEndOfLiteralWrongFalsely : Prop := fnValueEndOfLiteralRow.holds Try.pinned (OpenSpec.ofChange fnValueEndOfLiteralWrong)

/-- 'zzlaws_root_b1.FnScanStringQuotedRoundTrip': WHATEVER THE INPUT: true; the input reads as it did. -/
def fnScanStringQuotedRoundTripSpec : ChangeSpec := { name := "fnScanStringQuotedRoundTrip", fn := fun _ => fun
  | [d1, d2, d3, d4] => { results := [.lit (.bool true)], args := [d1, d2, d3, d4] }
  | _ => none }
def fnScanStringQuotedRoundTripRow : OpenClaim := { program := "qxb6001225a", sum := "6faba044d92f636de4e6b6d39775484cb723c8ceccb66ef1acd7e8177af28833", func := "example.com/entitlement/entitlement/zzlaws_root_b1.FnScanStringQuotedRoundTrip", spec := "fnScanStringQuotedRoundTrip", inPlace := ["internal/bytealg.IndexByteString"], apart := false }
def FnScanStringQuotedRoundTripSaid : Prop := fnScanStringQuotedRoundTripRow.holds Try.pinned (OpenSpec.ofChange fnScanStringQuotedRoundTripSpec)

/-- ITS FALSE NEIGHBOUR: 'it returns false'. Refute it at one input. -/
def fnScanStringQuotedRoundTripWrong : ChangeSpec := { name := "fnScanStringQuotedRoundTrip", fn := fun _ => fun
  | [d1, d2, d3, d4] => { results := [.lit (.bool false)], args := [d1, d2, d3, d4] }
  | _ => none }
def FnScanStringQuotedRoundTripWrongFalsely : Prop := fnScanStringQuotedRoundTripRow.holds Try.pinned (OpenSpec.ofChange fnScanStringQuotedRoundTripWrong)

/-- 'zzlaws_root_b1.FnScanStringFirstBadOffset': WHATEVER THE INPUT: true; the input reads as it did. -/
def fnScanStringFirstBadOffsetSpec : ChangeSpec := { name := "fnScanStringFirstBadOffset", fn := fun _ => fun
  | [d1, d2, d3, d4, d5] => { results := [.lit (.bool true)], args := [d1, d2, d3, d4, d5] }
  | _ => none }
def fnScanStringFirstBadOffsetRow : OpenClaim := { program := "qxb6001225a", sum := "6faba044d92f636de4e6b6d39775484cb723c8ceccb66ef1acd7e8177af28833", func := "example.com/entitlement/entitlement/zzlaws_root_b1.FnScanStringFirstBadOffset", spec := "fnScanStringFirstBadOffset", inPlace := ["internal/bytealg.IndexByteString"], apart := false }
def FnScanStringFirstBadOffsetSaid : Prop := fnScanStringFirstBadOffsetRow.holds Try.pinned (OpenSpec.ofChange fnScanStringFirstBadOffsetSpec)

/-- ITS FALSE NEIGHBOUR: 'it returns false'. Refute it at one input. -/
def fnScanStringFirstBadOffsetWrong : ChangeSpec := { name := "fnScanStringFirstBadOffset", fn := fun _ => fun
  | [d1, d2, d3, d4, d5] => { results := [.lit (.bool false)], args := [d1, d2, d3, d4, d5] }
  | _ => none }
def FnScanStringFirstBadOffsetWrongFalsely : Prop := fnScanStringFirstBadOffsetRow.holds Try.pinned (OpenSpec.ofChange fnScanStringFirstBadOffsetWrong)

/-- 'zzlaws_root_b1.FnScanStringBounds': WHATEVER THE INPUT: true; the input reads as it did. -/
def fnScanStringBoundsSpec : ChangeSpec := { name := "fnScanStringBounds", fn := fun _ => fun
  | [d] => { results := [.lit (.bool true)], args := [d] }
  | _ => none }
def fnScanStringBoundsRow : OpenClaim := { program := "qxb6001225a", sum := "6faba044d92f636de4e6b6d39775484cb723c8ceccb66ef1acd7e8177af28833", func := "example.com/entitlement/entitlement/zzlaws_root_b1.FnScanStringBounds", spec := "fnScanStringBounds", inPlace := ["internal/bytealg.IndexByteString"], apart := false }
def FnScanStringBoundsSaid : Prop := fnScanStringBoundsRow.holds Try.pinned (OpenSpec.ofChange fnScanStringBoundsSpec)

/-- ITS FALSE NEIGHBOUR: 'it returns false'. Refute it at one input. -/
def fnScanStringBoundsWrong : ChangeSpec := { name := "fnScanStringBounds", fn := fun _ => fun
  | [d] => { results := [.lit (.bool false)], args := [d] }
  | _ => none }
def FnScanStringBoundsWrongFalsely : Prop := fnScanStringBoundsRow.holds Try.pinned (OpenSpec.ofChange fnScanStringBoundsWrong)

end Rows
end Go.Proofs.Qxb6001225a
