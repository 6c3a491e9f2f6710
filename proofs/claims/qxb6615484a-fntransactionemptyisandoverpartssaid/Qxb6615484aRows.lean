/-
  No cell of these rows narrows 'for every input' (looked for: loops, veiled, ifaces, maps, wideKeys, modest, calm, conditions, laid).
  DERIVED. THE GIVEN ROWS OF THIS SEAT. 2 by the template 'for every input the law returns true; each argument reads behind the call as it read before'; 0 by the template 'total and deterministic' (their statements: Qxb6615484aTotals.lean).
  GIVEN WITH THE SEED: the statements are not yours to turn. If you find one false, say at which input.
  Laid BY PROGRAM, IN A SANDBOX (cutbox-rows.mjs): the forced cells as the released guide's own fill.sh prints them over the translation e1a092dcc1af09b0… (all of the seat's roots in one cut). By AI agents, Wed Nov 11 2026. No macro, syntax, notation, axiom, sorry.
-/
import Derived.Test.Qxb6615484aChecked
import GoSem.Claim
import GoSem.ClaimJoined
import GoSem.ClaimMapViews
import Derived.JoinedTies
import Derived.KernelRfl
namespace Go.Proofs.Qxb6615484a
/- THE CELL 'sum', in the pinned program and in every row, IS THE sha256 OF THE DUMP (.gsa) THAT Qxb6615484aProg.lean LOADS. Nothing in Lean hashes anything: it is a label: what it is worth is what the hold of that sum in a sandbox is worth. -/
noncomputable def Try.pinned : Pinned := { name := "qxb6615484a", sum := "e1a092dcc1af09b0907d49a71963dbc9f22a362904923bd88f622a91afaed497", checked := Try.checked }
namespace Rows
def none {H : Type} : Left H := { results := [], args := [] }

/-- 'zzlaws_internal_coord_b1.FnTransactionEmptyIsAndOverParts': WHATEVER THE INPUT: true; the input reads as it did. -/
def fnTransactionEmptyIsAndOverPartsSpec : ChangeSpec := { name := "fnTransactionEmptyIsAndOverParts", fn := fun _ => fun
  | [d1, d2, d3, d4, d5, d6, d7, d8] => { results := [.lit (.bool true)], args := [d1, d2, d3, d4, d5, d6, d7, d8] }
  | _ => none }
def fnTransactionEmptyIsAndOverPartsRow : OpenClaim := { program := "qxb6615484a", sum := "e1a092dcc1af09b0907d49a71963dbc9f22a362904923bd88f622a91afaed497", func := "example.com/concordat/concordat/zzlaws_internal_coord_b1.FnTransactionEmptyIsAndOverParts", spec := "fnTransactionEmptyIsAndOverParts", plainKeys := false, apart := false }
def FnTransactionEmptyIsAndOverPartsSaid : Prop := fnTransactionEmptyIsAndOverPartsRow.holds Try.pinned (OpenSpec.ofChange fnTransactionEmptyIsAndOverPartsSpec)

/-- ITS FALSE NEIGHBOUR: 'it returns false'. Refute it at one input. -/
def fnTransactionEmptyIsAndOverPartsWrong : ChangeSpec := { name := "fnTransactionEmptyIsAndOverParts", fn := fun _ => fun
  | [d1, d2, d3, d4, d5, d6, d7, d8] => { results := [.lit (.bool false)], args := [d1, d2, d3, d4, d5, d6, d7, d8] }
  | _ => none }
def FnTransactionEmptyIsAndOverPartsWrongFalsely : Prop := fnTransactionEmptyIsAndOverPartsRow.holds Try.pinned (OpenSpec.ofChange fnTransactionEmptyIsAndOverPartsWrong)

/-- 'zzlaws_internal_coord_b1.FnWaitingOnDecidedIgnoresOutcomeAndFlags': WHATEVER THE INPUT: true; the input reads as it did. -/
def fnWaitingOnDecidedIgnoresOutcomeAndFlagsSpec : ChangeSpec := { name := "fnWaitingOnDecidedIgnoresOutcomeAndFlags", fn := fun _ => fun
  | [d1, d2, d3, d4, d5, d6, d7, d8, d9] => { results := [.lit (.bool true)], args := [d1, d2, d3, d4, d5, d6, d7, d8, d9] }
  | _ => none }
def fnWaitingOnDecidedIgnoresOutcomeAndFlagsRow : OpenClaim := { program := "qxb6615484a", sum := "e1a092dcc1af09b0907d49a71963dbc9f22a362904923bd88f622a91afaed497", func := "example.com/concordat/concordat/zzlaws_internal_coord_b1.FnWaitingOnDecidedIgnoresOutcomeAndFlags", spec := "fnWaitingOnDecidedIgnoresOutcomeAndFlags", unfollowed := true, recurses := true, plainKeys := false, apart := false }
def FnWaitingOnDecidedIgnoresOutcomeAndFlagsSaid : Prop := fnWaitingOnDecidedIgnoresOutcomeAndFlagsRow.holds Try.pinned (OpenSpec.ofChange fnWaitingOnDecidedIgnoresOutcomeAndFlagsSpec)

/-- ITS FALSE NEIGHBOUR: 'it returns false'. Refute it at one input. -/
def fnWaitingOnDecidedIgnoresOutcomeAndFlagsWrong : ChangeSpec := { name := "fnWaitingOnDecidedIgnoresOutcomeAndFlags", fn := fun _ => fun
  | [d1, d2, d3, d4, d5, d6, d7, d8, d9] => { results := [.lit (.bool false)], args := [d1, d2, d3, d4, d5, d6, d7, d8, d9] }
  | _ => none }
def FnWaitingOnDecidedIgnoresOutcomeAndFlagsWrongFalsely : Prop := fnWaitingOnDecidedIgnoresOutcomeAndFlagsRow.holds Try.pinned (OpenSpec.ofChange fnWaitingOnDecidedIgnoresOutcomeAndFlagsWrong)

end Rows
end Go.Proofs.Qxb6615484a
