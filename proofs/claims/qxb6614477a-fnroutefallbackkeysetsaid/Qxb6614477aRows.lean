/-
  No cell of these rows narrows 'for every input' (looked for: loops, veiled, ifaces, maps, wideKeys, modest, calm, conditions, laid).
  DERIVED. THE GIVEN ROWS OF THIS SEAT. 5 by the template 'for every input the law returns true; each argument reads behind the call as it read before'; 0 by the template 'total and deterministic' (their statements: Qxb6614477aTotals.lean).
  GIVEN WITH THE SEED: the statements are not yours to turn. If you find one false, say at which input.
  Laid BY PROGRAM, IN A SANDBOX (cutbox-rows.mjs): the forced cells as the released guide's own fill.sh prints them over the translation d34058bf98216874… (all of the seat's roots in one cut). By AI agents, Wed Nov 11 2026. No macro, syntax, notation, axiom, sorry.
-/
import Derived.Test.Qxb6614477aChecked
import GoSem.Claim
import GoSem.ClaimJoined
import GoSem.ClaimMapViews
import Derived.JoinedTies
import Derived.KernelRfl
namespace Go.Proofs.Qxb6614477a
/- THE CELL 'sum', in the pinned program and in every row, IS THE sha256 OF THE DUMP (.gsa) THAT Qxb6614477aProg.lean LOADS. Nothing in Lean hashes anything: it is a label: what it is worth is what the hold of that sum in a sandbox is worth. -/
noncomputable def Try.pinned : Pinned := { name := "qxb6614477a", sum := "d34058bf982168743a4b93c4ea5ae36c27c6bdb4843df4fff28d793084abd21c", checked := Try.checked }
namespace Rows
def none {H : Type} : Left H := { results := [], args := [] }

/-- 'zzlaws_route_b1.FnCredentialSetLastWins': WHATEVER THE INPUT: true; the input reads as it did. -/
def fnCredentialSetLastWinsSpec : ChangeSpec := { name := "fnCredentialSetLastWins", fn := fun _ => fun
  | [d1, d2, d3, d4, d5, d6] => { results := [.lit (.bool true)], args := [d1, d2, d3, d4, d5, d6] }
  | _ => none }
def fnCredentialSetLastWinsRow : OpenClaim := { program := "qxb6614477a", sum := "d34058bf982168743a4b93c4ea5ae36c27c6bdb4843df4fff28d793084abd21c", func := "example.com/credence/credence/zzlaws_route_b1.FnCredentialSetLastWins", spec := "fnCredentialSetLastWins", apart := false }
def FnCredentialSetLastWinsSaid : Prop := fnCredentialSetLastWinsRow.holds Try.pinned (OpenSpec.ofChange fnCredentialSetLastWinsSpec)

/-- ITS FALSE NEIGHBOUR: 'it returns false'. Refute it at one input. -/
def fnCredentialSetLastWinsWrong : ChangeSpec := { name := "fnCredentialSetLastWins", fn := fun _ => fun
  | [d1, d2, d3, d4, d5, d6] => { results := [.lit (.bool false)], args := [d1, d2, d3, d4, d5, d6] }
  | _ => none }
def FnCredentialSetLastWinsWrongFalsely : Prop := fnCredentialSetLastWinsRow.holds Try.pinned (OpenSpec.ofChange fnCredentialSetLastWinsWrong)

/-- 'zzlaws_route_b1.FnCredentialSetCommutes': WHATEVER THE INPUT: true; the input reads as it did. -/
def fnCredentialSetCommutesSpec : ChangeSpec := { name := "fnCredentialSetCommutes", fn := fun _ => fun
  | [d1, d2, d3, d4, d5] => { results := [.lit (.bool true)], args := [d1, d2, d3, d4, d5] }
  | _ => none }
def fnCredentialSetCommutesRow : OpenClaim := { program := "qxb6614477a", sum := "d34058bf982168743a4b93c4ea5ae36c27c6bdb4843df4fff28d793084abd21c", func := "example.com/credence/credence/zzlaws_route_b1.FnCredentialSetCommutes", spec := "fnCredentialSetCommutes", apart := false }
def FnCredentialSetCommutesSaid : Prop := fnCredentialSetCommutesRow.holds Try.pinned (OpenSpec.ofChange fnCredentialSetCommutesSpec)

/-- ITS FALSE NEIGHBOUR: 'it returns false'. Refute it at one input. -/
def fnCredentialSetCommutesWrong : ChangeSpec := { name := "fnCredentialSetCommutes", fn := fun _ => fun
  | [d1, d2, d3, d4, d5] => { results := [.lit (.bool false)], args := [d1, d2, d3, d4, d5] }
  | _ => none }
def FnCredentialSetCommutesWrongFalsely : Prop := fnCredentialSetCommutesRow.holds Try.pinned (OpenSpec.ofChange fnCredentialSetCommutesWrong)

/-- 'zzlaws_route_b1.FnRouteFallbackSubscribes': WHATEVER THE INPUT: true; the input reads as it did. -/
def fnRouteFallbackSubscribesSpec : ChangeSpec := { name := "fnRouteFallbackSubscribes", fn := fun _ => fun
  | [d1, d2, d3, d4, d5] => { results := [.lit (.bool true)], args := [d1, d2, d3, d4, d5] }
  | _ => none }
def fnRouteFallbackSubscribesRow : OpenClaim := { program := "qxb6614477a", sum := "d34058bf982168743a4b93c4ea5ae36c27c6bdb4843df4fff28d793084abd21c", func := "example.com/credence/credence/zzlaws_route_b1.FnRouteFallbackSubscribes", spec := "fnRouteFallbackSubscribes", apart := false }
def FnRouteFallbackSubscribesSaid : Prop := fnRouteFallbackSubscribesRow.holds Try.pinned (OpenSpec.ofChange fnRouteFallbackSubscribesSpec)

/-- ITS FALSE NEIGHBOUR: 'it returns false'. Refute it at one input. -/
def fnRouteFallbackSubscribesWrong : ChangeSpec := { name := "fnRouteFallbackSubscribes", fn := fun _ => fun
  | [d1, d2, d3, d4, d5] => { results := [.lit (.bool false)], args := [d1, d2, d3, d4, d5] }
  | _ => none }
def FnRouteFallbackSubscribesWrongFalsely : Prop := fnRouteFallbackSubscribesRow.holds Try.pinned (OpenSpec.ofChange fnRouteFallbackSubscribesWrong)

/-- 'zzlaws_route_b1.FnRouteFallbackKeySet': WHATEVER THE INPUT: true; the input reads as it did. -/
def fnRouteFallbackKeySetSpec : ChangeSpec := { name := "fnRouteFallbackKeySet", fn := fun _ => fun
  | [d1, d2, d3, d4, d5, d6] => { results := [.lit (.bool true)], args := [d1, d2, d3, d4, d5, d6] }
  | _ => none }
def fnRouteFallbackKeySetRow : OpenClaim := { program := "qxb6614477a", sum := "d34058bf982168743a4b93c4ea5ae36c27c6bdb4843df4fff28d793084abd21c", func := "example.com/credence/credence/zzlaws_route_b1.FnRouteFallbackKeySet", spec := "fnRouteFallbackKeySet", apart := false }
def FnRouteFallbackKeySetSaid : Prop := fnRouteFallbackKeySetRow.holds Try.pinned (OpenSpec.ofChange fnRouteFallbackKeySetSpec)

/-- ITS FALSE NEIGHBOUR: 'it returns false'. Refute it at one input. -/
def fnRouteFallbackKeySetWrong : ChangeSpec := { name := "fnRouteFallbackKeySet", fn := fun _ => fun
  | [d1, d2, d3, d4, d5, d6] => { results := [.lit (.bool false)], args := [d1, d2, d3, d4, d5, d6] }
  | _ => none }
def FnRouteFallbackKeySetWrongFalsely : Prop := fnRouteFallbackKeySetRow.holds Try.pinned (OpenSpec.ofChange fnRouteFallbackKeySetWrong)

/-- 'zzlaws_route_b1.FnSubscribesExtend': WHATEVER THE INPUT: true; the input reads as it did. -/
def fnSubscribesExtendSpec : ChangeSpec := { name := "fnSubscribesExtend", fn := fun _ => fun
  | [d1, d2, d3] => { results := [.lit (.bool true)], args := [d1, d2, d3] }
  | _ => none }
def fnSubscribesExtendRow : OpenClaim := { program := "qxb6614477a", sum := "d34058bf982168743a4b93c4ea5ae36c27c6bdb4843df4fff28d793084abd21c", func := "example.com/credence/credence/zzlaws_route_b1.FnSubscribesExtend", spec := "fnSubscribesExtend", apart := false }
def FnSubscribesExtendSaid : Prop := fnSubscribesExtendRow.holds Try.pinned (OpenSpec.ofChange fnSubscribesExtendSpec)

/-- ITS FALSE NEIGHBOUR: 'it returns false'. Refute it at one input. -/
def fnSubscribesExtendWrong : ChangeSpec := { name := "fnSubscribesExtend", fn := fun _ => fun
  | [d1, d2, d3] => { results := [.lit (.bool false)], args := [d1, d2, d3] }
  | _ => none }
def FnSubscribesExtendWrongFalsely : Prop := fnSubscribesExtendRow.holds Try.pinned (OpenSpec.ofChange fnSubscribesExtendWrong)

end Rows
end Go.Proofs.Qxb6614477a
