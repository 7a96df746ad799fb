/-
  No cell of these rows narrows 'for every input' (looked for: loops, veiled, ifaces, maps, wideKeys, modest, calm, conditions, laid).
  DERIVED. THE GIVEN ROWS OF THIS SEAT. 6 by the template 'for every input the law returns true; each argument reads behind the call as it read before'; 0 by the template 'total and deterministic' (their statements: Qxb6619684aTotals.lean).
  GIVEN WITH THE SEED: the statements are not yours to turn. If you find one false, say at which input.
  Laid BY PROGRAM, IN A SANDBOX (cutbox-rows.mjs): the forced cells as the released guide's own fill.sh prints them over the translation 4c1b364cfda47852… (all of the seat's roots in one cut). By AI agents, Wed Nov 11 2026. No macro, syntax, notation, axiom, sorry.
-/
import Derived.Test.Qxb6619684aChecked
import GoSem.Claim
import GoSem.ClaimJoined
import GoSem.ClaimMapViews
import Derived.JoinedTies
import Derived.KernelRfl
namespace Go.Proofs.Qxb6619684a
/- THE CELL 'sum', in the pinned program and in every row, IS THE sha256 OF THE DUMP (.gsa) THAT Qxb6619684aProg.lean LOADS. Nothing in Lean hashes anything: it is a label: what it is worth is what the hold of that sum in a sandbox is worth. -/
noncomputable def Try.pinned : Pinned := { name := "qxb6619684a", sum := "4c1b364cfda478521dc94e56dcbf09b4d36b809aba43b332340d5ac07c48cd0b", checked := Try.checked }
namespace Rows
def none {H : Type} : Left H := { results := [], args := [] }

/-- 'zzlaws_root_b1.FnIdKeyReadsBackFirstEightBytes': WHATEVER THE INPUT: true; the input reads as it did. -/
def fnIdKeyReadsBackFirstEightBytesSpec : ChangeSpec := { name := "fnIdKeyReadsBackFirstEightBytes", fn := fun _ => fun
  | [d] => { results := [.lit (.bool true)], args := [d] }
  | _ => none }
def fnIdKeyReadsBackFirstEightBytesRow : OpenClaim := { program := "qxb6619684a", sum := "4c1b364cfda478521dc94e56dcbf09b4d36b809aba43b332340d5ac07c48cd0b", func := "example.com/stratagraph/stratagraph/zzlaws_root_b1.FnIdKeyReadsBackFirstEightBytes", spec := "fnIdKeyReadsBackFirstEightBytes", apart := false }
def FnIdKeyReadsBackFirstEightBytesSaid : Prop := fnIdKeyReadsBackFirstEightBytesRow.holds Try.pinned (OpenSpec.ofChange fnIdKeyReadsBackFirstEightBytesSpec)

/-- ITS FALSE NEIGHBOUR: 'it returns false'. Refute it at one input. -/
def fnIdKeyReadsBackFirstEightBytesWrong : ChangeSpec := { name := "fnIdKeyReadsBackFirstEightBytes", fn := fun _ => fun
  | [d] => { results := [.lit (.bool false)], args := [d] }
  | _ => none }
def FnIdKeyReadsBackFirstEightBytesWrongFalsely : Prop := fnIdKeyReadsBackFirstEightBytesRow.holds Try.pinned (OpenSpec.ofChange fnIdKeyReadsBackFirstEightBytesWrong)

/-- 'zzlaws_root_b1.FnIdKeyOrdersAsTheIds': WHATEVER THE INPUT: true; the input reads as it did. -/
def fnIdKeyOrdersAsTheIdsSpec : ChangeSpec := { name := "fnIdKeyOrdersAsTheIds", fn := fun _ => fun
  | [d1, d2] => { results := [.lit (.bool true)], args := [d1, d2] }
  | _ => none }
def fnIdKeyOrdersAsTheIdsRow : OpenClaim := { program := "qxb6619684a", sum := "4c1b364cfda478521dc94e56dcbf09b4d36b809aba43b332340d5ac07c48cd0b", func := "example.com/stratagraph/stratagraph/zzlaws_root_b1.FnIdKeyOrdersAsTheIds", spec := "fnIdKeyOrdersAsTheIds", apart := false }
def FnIdKeyOrdersAsTheIdsSaid : Prop := fnIdKeyOrdersAsTheIdsRow.holds Try.pinned (OpenSpec.ofChange fnIdKeyOrdersAsTheIdsSpec)

/-- ITS FALSE NEIGHBOUR: 'it returns false'. Refute it at one input. -/
def fnIdKeyOrdersAsTheIdsWrong : ChangeSpec := { name := "fnIdKeyOrdersAsTheIds", fn := fun _ => fun
  | [d1, d2] => { results := [.lit (.bool false)], args := [d1, d2] }
  | _ => none }
def FnIdKeyOrdersAsTheIdsWrongFalsely : Prop := fnIdKeyOrdersAsTheIdsRow.holds Try.pinned (OpenSpec.ofChange fnIdKeyOrdersAsTheIdsWrong)

/-- 'zzlaws_root_b1.FnIdKeyOfACutId': WHATEVER THE INPUT: true; the input reads as it did. -/
def fnIdKeyOfACutIdSpec : ChangeSpec := { name := "fnIdKeyOfACutId", fn := fun _ => fun
  | [d1, d2] => { results := [.lit (.bool true)], args := [d1, d2] }
  | _ => none }
def fnIdKeyOfACutIdRow : OpenClaim := { program := "qxb6619684a", sum := "4c1b364cfda478521dc94e56dcbf09b4d36b809aba43b332340d5ac07c48cd0b", func := "example.com/stratagraph/stratagraph/zzlaws_root_b1.FnIdKeyOfACutId", spec := "fnIdKeyOfACutId", apart := false }
def FnIdKeyOfACutIdSaid : Prop := fnIdKeyOfACutIdRow.holds Try.pinned (OpenSpec.ofChange fnIdKeyOfACutIdSpec)

/-- ITS FALSE NEIGHBOUR: 'it returns false'. Refute it at one input. -/
def fnIdKeyOfACutIdWrong : ChangeSpec := { name := "fnIdKeyOfACutId", fn := fun _ => fun
  | [d1, d2] => { results := [.lit (.bool false)], args := [d1, d2] }
  | _ => none }
def FnIdKeyOfACutIdWrongFalsely : Prop := fnIdKeyOfACutIdRow.holds Try.pinned (OpenSpec.ofChange fnIdKeyOfACutIdWrong)

/-- 'zzlaws_root_b1.FnWalkNodesAddKeepsEveryNodeAtItsPosition': WHATEVER THE INPUT: true; the input reads as it did. -/
def fnWalkNodesAddKeepsEveryNodeAtItsPositionSpec : ChangeSpec := { name := "fnWalkNodesAddKeepsEveryNodeAtItsPosition", fn := fun _ => fun
  | [d1, d2] => { results := [.lit (.bool true)], args := [d1, d2] }
  | _ => none }
def fnWalkNodesAddKeepsEveryNodeAtItsPositionRow : OpenClaim := { program := "qxb6619684a", sum := "4c1b364cfda478521dc94e56dcbf09b4d36b809aba43b332340d5ac07c48cd0b", func := "example.com/stratagraph/stratagraph/zzlaws_root_b1.FnWalkNodesAddKeepsEveryNodeAtItsPosition", spec := "fnWalkNodesAddKeepsEveryNodeAtItsPosition", apart := false }
def FnWalkNodesAddKeepsEveryNodeAtItsPositionSaid : Prop := fnWalkNodesAddKeepsEveryNodeAtItsPositionRow.holds Try.pinned (OpenSpec.ofChange fnWalkNodesAddKeepsEveryNodeAtItsPositionSpec)

/-- ITS FALSE NEIGHBOUR: 'it returns false'. Refute it at one input. -/
def fnWalkNodesAddKeepsEveryNodeAtItsPositionWrong : ChangeSpec := { name := "fnWalkNodesAddKeepsEveryNodeAtItsPosition", fn := fun _ => fun
  | [d1, d2] => { results := [.lit (.bool false)], args := [d1, d2] }
  | _ => none }
def FnWalkNodesAddKeepsEveryNodeAtItsPositionWrongFalsely : Prop := fnWalkNodesAddKeepsEveryNodeAtItsPositionRow.holds Try.pinned (OpenSpec.ofChange fnWalkNodesAddKeepsEveryNodeAtItsPositionWrong)

/-- 'zzlaws_root_b1.FnWalkQueuePopTakesAFirstCommitAndKeepsTheHeap': WHATEVER THE INPUT: true; the input reads as it did. -/
def fnWalkQueuePopTakesAFirstCommitAndKeepsTheHeapSpec : ChangeSpec := { name := "fnWalkQueuePopTakesAFirstCommitAndKeepsTheHeap", fn := fun _ => fun
  | [d1, d2] => { results := [.lit (.bool true)], args := [d1, d2] }
  | _ => none }
def fnWalkQueuePopTakesAFirstCommitAndKeepsTheHeapRow : OpenClaim := { program := "qxb6619684a", sum := "4c1b364cfda478521dc94e56dcbf09b4d36b809aba43b332340d5ac07c48cd0b", func := "example.com/stratagraph/stratagraph/zzlaws_root_b1.FnWalkQueuePopTakesAFirstCommitAndKeepsTheHeap", spec := "fnWalkQueuePopTakesAFirstCommitAndKeepsTheHeap", apart := false }
def FnWalkQueuePopTakesAFirstCommitAndKeepsTheHeapSaid : Prop := fnWalkQueuePopTakesAFirstCommitAndKeepsTheHeapRow.holds Try.pinned (OpenSpec.ofChange fnWalkQueuePopTakesAFirstCommitAndKeepsTheHeapSpec)

/-- ITS FALSE NEIGHBOUR: 'it returns false'. Refute it at one input. -/
def fnWalkQueuePopTakesAFirstCommitAndKeepsTheHeapWrong : ChangeSpec := { name := "fnWalkQueuePopTakesAFirstCommitAndKeepsTheHeap", fn := fun _ => fun
  | [d1, d2] => { results := [.lit (.bool false)], args := [d1, d2] }
  | _ => none }
def FnWalkQueuePopTakesAFirstCommitAndKeepsTheHeapWrongFalsely : Prop := fnWalkQueuePopTakesAFirstCommitAndKeepsTheHeapRow.holds Try.pinned (OpenSpec.ofChange fnWalkQueuePopTakesAFirstCommitAndKeepsTheHeapWrong)

/-- 'zzlaws_root_b1.FnWalkQueuePopDrainsInWalkOrder': WHATEVER THE INPUT: true; the input reads as it did. -/
def fnWalkQueuePopDrainsInWalkOrderSpec : ChangeSpec := { name := "fnWalkQueuePopDrainsInWalkOrder", fn := fun _ => fun
  | [d1, d2] => { results := [.lit (.bool true)], args := [d1, d2] }
  | _ => none }
def fnWalkQueuePopDrainsInWalkOrderRow : OpenClaim := { program := "qxb6619684a", sum := "4c1b364cfda478521dc94e56dcbf09b4d36b809aba43b332340d5ac07c48cd0b", func := "example.com/stratagraph/stratagraph/zzlaws_root_b1.FnWalkQueuePopDrainsInWalkOrder", spec := "fnWalkQueuePopDrainsInWalkOrder", apart := false }
def FnWalkQueuePopDrainsInWalkOrderSaid : Prop := fnWalkQueuePopDrainsInWalkOrderRow.holds Try.pinned (OpenSpec.ofChange fnWalkQueuePopDrainsInWalkOrderSpec)

/-- ITS FALSE NEIGHBOUR: 'it returns false'. Refute it at one input. -/
def fnWalkQueuePopDrainsInWalkOrderWrong : ChangeSpec := { name := "fnWalkQueuePopDrainsInWalkOrder", fn := fun _ => fun
  | [d1, d2] => { results := [.lit (.bool false)], args := [d1, d2] }
  | _ => none }
def FnWalkQueuePopDrainsInWalkOrderWrongFalsely : Prop := fnWalkQueuePopDrainsInWalkOrderRow.holds Try.pinned (OpenSpec.ofChange fnWalkQueuePopDrainsInWalkOrderWrong)

end Rows
end Go.Proofs.Qxb6619684a
