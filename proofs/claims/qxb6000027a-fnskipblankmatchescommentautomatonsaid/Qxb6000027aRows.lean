/-
  No cell of these rows narrows 'for every input' (looked for: loops, veiled, ifaces, maps, wideKeys, modest, calm, conditions, laid).
  DERIVED. THE GIVEN ROWS OF THIS SEAT. 2 by the template 'for every input the law returns true; each argument reads behind the call as it read before'; 0 by the template 'total and deterministic' (their statements: Qxb6000027aTotals.lean).
  GIVEN WITH THE SEED: the statements are not yours to turn. If you find one false, say at which input.
  Laid BY PROGRAM, IN A SANDBOX (cutbox-rows.mjs): the forced cells as the released guide's own fill.sh prints them over the translation c9e0f87040d32d1a… (all of the seat's roots in one cut). By AI agents, Wed Nov 11 2026. No macro, syntax, notation, axiom, sorry.
-/
import Derived.Test.Qxb6000027aChecked
import GoSem.Claim
import GoSem.ClaimJoined
import GoSem.ClaimMapViews
import Derived.JoinedTies
import Derived.KernelRfl
namespace Go.Proofs.Qxb6000027a
/- THE CELL 'sum', in the pinned program and in every row, IS THE sha256 OF THE DUMP (.gsa) THAT Qxb6000027aProg.lean LOADS. Nothing in Lean hashes anything: it is a label: what it is worth is what the hold of that sum in a sandbox is worth. -/
noncomputable def Try.pinned : Pinned := { name := "qxb6000027a", sum := "c9e0f87040d32d1a71128ecf35180fce672b970dcff6515b721d20ce403206e2", checked := Try.checked }
namespace Rows
def none {H : Type} : Left H := { results := [], args := [] }

/-- 'zzlaws_plan_b1.FnSkipBlankMatchesCommentAutomaton': WHATEVER THE INPUT: true; the input reads as it did. -/
def fnSkipBlankMatchesCommentAutomatonSpec : ChangeSpec := { name := "fnSkipBlankMatchesCommentAutomaton", fn := fun _ => fun
  | [d1, d2] => { results := [.lit (.bool true)], args := [d1, d2] }
  | _ => none }
def fnSkipBlankMatchesCommentAutomatonRow : OpenClaim := { program := "qxb6000027a", sum := "c9e0f87040d32d1a71128ecf35180fce672b970dcff6515b721d20ce403206e2", func := "example.com/vestwright/vestwright/zzlaws_plan_b1.FnSkipBlankMatchesCommentAutomaton", spec := "fnSkipBlankMatchesCommentAutomaton", inPlace := ["internal/bytealg.IndexByteString"], apart := false }
def FnSkipBlankMatchesCommentAutomatonSaid : Prop := fnSkipBlankMatchesCommentAutomatonRow.holds Try.pinned (OpenSpec.ofChange fnSkipBlankMatchesCommentAutomatonSpec)

/-- ITS FALSE NEIGHBOUR: 'it returns false'. Refute it at one input. -/
def fnSkipBlankMatchesCommentAutomatonWrong : ChangeSpec := { name := "fnSkipBlankMatchesCommentAutomaton", fn := fun _ => fun
  | [d1, d2] => { results := [.lit (.bool false)], args := [d1, d2] }
  | _ => none }
def FnSkipBlankMatchesCommentAutomatonWrongFalsely : Prop := fnSkipBlankMatchesCommentAutomatonRow.holds Try.pinned (OpenSpec.ofChange fnSkipBlankMatchesCommentAutomatonWrong)

/-- 'zzlaws_plan_b1.FnSkipBlankIdempotentLandsOnContent': WHATEVER THE INPUT: true; the input reads as it did. -/
def fnSkipBlankIdempotentLandsOnContentSpec : ChangeSpec := { name := "fnSkipBlankIdempotentLandsOnContent", fn := fun _ => fun
  | [d1, d2] => { results := [.lit (.bool true)], args := [d1, d2] }
  | _ => none }
def fnSkipBlankIdempotentLandsOnContentRow : OpenClaim := { program := "qxb6000027a", sum := "c9e0f87040d32d1a71128ecf35180fce672b970dcff6515b721d20ce403206e2", func := "example.com/vestwright/vestwright/zzlaws_plan_b1.FnSkipBlankIdempotentLandsOnContent", spec := "fnSkipBlankIdempotentLandsOnContent", inPlace := ["internal/bytealg.IndexByteString"], apart := false }
def FnSkipBlankIdempotentLandsOnContentSaid : Prop := fnSkipBlankIdempotentLandsOnContentRow.holds Try.pinned (OpenSpec.ofChange fnSkipBlankIdempotentLandsOnContentSpec)

/-- ITS FALSE NEIGHBOUR: 'it returns false'. Refute it at one input. -/
def fnSkipBlankIdempotentLandsOnContentWrong : ChangeSpec := { name := "fnSkipBlankIdempotentLandsOnContent", fn := fun _ => fun
  | [d1, d2] => { results := [.lit (.bool false)], args := [d1, d2] }
  | _ => none }
def FnSkipBlankIdempotentLandsOnContentWrongFalsely : Prop := fnSkipBlankIdempotentLandsOnContentRow.holds Try.pinned (OpenSpec.ofChange fnSkipBlankIdempotentLandsOnContentWrong)

end Rows
end Go.Proofs.Qxb6000027a
