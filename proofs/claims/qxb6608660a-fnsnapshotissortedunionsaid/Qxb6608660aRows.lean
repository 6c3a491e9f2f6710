/-
  No cell of these rows narrows 'for every input' (looked for: loops, veiled, ifaces, maps, wideKeys, modest, calm, conditions, laid).
  DERIVED. THE GIVEN ROWS OF THIS SEAT. 2 by the template 'for every input the law returns true; each argument reads behind the call as it read before'; 0 by the template 'total and deterministic' (their statements: Qxb6608660aTotals.lean).
  GIVEN WITH THE SEED: the statements are not yours to turn. If you find one false, say at which input.
  Laid BY PROGRAM, IN A SANDBOX (cutbox-rows.mjs): the forced cells as the released guide's own fill.sh prints them over the translation f55f35cdedde4a62… (all of the seat's roots in one cut). By AI agents, Wed Nov 11 2026. No macro, syntax, notation, axiom, sorry.
-/
import Derived.Test.Qxb6608660aChecked
import GoSem.Claim
import GoSem.ClaimJoined
import GoSem.ClaimMapViews
import Derived.JoinedTies
import Derived.KernelRfl
namespace Go.Proofs.Qxb6608660a
/- THE CELL 'sum', in the pinned program and in every row, IS THE sha256 OF THE DUMP (.gsa) THAT Qxb6608660aProg.lean LOADS. Nothing in Lean hashes anything: it is a label: what it is worth is what the hold of that sum in a sandbox is worth. -/
noncomputable def Try.pinned : Pinned := { name := "qxb6608660a", sum := "f55f35cdedde4a62c38e538e7c7b87d2e63e64ead4bec891d326eec84a193cfb", checked := Try.checked }
namespace Rows
def none {H : Type} : Left H := { results := [], args := [] }

/-- 'zzlaws_root_b1.FnReceiveScriptTakesRankedMessage': WHATEVER THE INPUT: true; the input reads as it did. -/
def fnReceiveScriptTakesRankedMessageSpec : ChangeSpec := { name := "fnReceiveScriptTakesRankedMessage", fn := fun _ => fun
  | [d1, d2, d3] => { results := [.lit (.bool true)], args := [d1, d2, d3] }
  | _ => none }
def fnReceiveScriptTakesRankedMessageRow : OpenClaim := { program := "qxb6608660a", sum := "f55f35cdedde4a62c38e538e7c7b87d2e63e64ead4bec891d326eec84a193cfb", func := "example.com/plumbline/plumbline/zzlaws_root_b1.FnReceiveScriptTakesRankedMessage", spec := "fnReceiveScriptTakesRankedMessage", apart := false }
def FnReceiveScriptTakesRankedMessageSaid : Prop := fnReceiveScriptTakesRankedMessageRow.holds Try.pinned (OpenSpec.ofChange fnReceiveScriptTakesRankedMessageSpec)

/-- ITS FALSE NEIGHBOUR: 'it returns false'. Refute it at one input. -/
def fnReceiveScriptTakesRankedMessageWrong : ChangeSpec := { name := "fnReceiveScriptTakesRankedMessage", fn := fun _ => fun
  | [d1, d2, d3] => { results := [.lit (.bool false)], args := [d1, d2, d3] }
  | _ => none }
def FnReceiveScriptTakesRankedMessageWrongFalsely : Prop := fnReceiveScriptTakesRankedMessageRow.holds Try.pinned (OpenSpec.ofChange fnReceiveScriptTakesRankedMessageWrong)

/-- 'zzlaws_root_b1.FnSnapshotIsSortedUnion': WHATEVER THE INPUT: true; the input reads as it did. -/
def fnSnapshotIsSortedUnionSpec : ChangeSpec := { name := "fnSnapshotIsSortedUnion", fn := fun _ => fun
  | [d1, d2] => { results := [.lit (.bool true)], args := [d1, d2] }
  | _ => none }
def fnSnapshotIsSortedUnionRow : OpenClaim := { program := "qxb6608660a", sum := "f55f35cdedde4a62c38e538e7c7b87d2e63e64ead4bec891d326eec84a193cfb", func := "example.com/plumbline/plumbline/zzlaws_root_b1.FnSnapshotIsSortedUnion", spec := "fnSnapshotIsSortedUnion", unfollowed := true, recurses := true, apart := false }
def FnSnapshotIsSortedUnionSaid : Prop := fnSnapshotIsSortedUnionRow.holds Try.pinned (OpenSpec.ofChange fnSnapshotIsSortedUnionSpec)

/-- ITS FALSE NEIGHBOUR: 'it returns false'. Refute it at one input. -/
def fnSnapshotIsSortedUnionWrong : ChangeSpec := { name := "fnSnapshotIsSortedUnion", fn := fun _ => fun
  | [d1, d2] => { results := [.lit (.bool false)], args := [d1, d2] }
  | _ => none }
def FnSnapshotIsSortedUnionWrongFalsely : Prop := fnSnapshotIsSortedUnionRow.holds Try.pinned (OpenSpec.ofChange fnSnapshotIsSortedUnionWrong)

end Rows
end Go.Proofs.Qxb6608660a
