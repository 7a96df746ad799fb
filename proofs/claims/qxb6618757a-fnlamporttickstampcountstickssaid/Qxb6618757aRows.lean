/-
  No cell of these rows narrows 'for every input' (looked for: loops, veiled, ifaces, maps, wideKeys, modest, calm, conditions, laid).
  DERIVED. THE GIVEN ROWS OF THIS SEAT. 2 by the template 'for every input the law returns true; each argument reads behind the call as it read before'; 0 by the template 'total and deterministic' (their statements: Qxb6618757aTotals.lean).
  GIVEN WITH THE SEED: the statements are not yours to turn. If you find one false, say at which input.
  Laid BY PROGRAM, IN A SANDBOX (cutbox-rows.mjs): the forced cells as the released guide's own fill.sh prints them over the translation edb5594c6fef0c88… (all of the seat's roots in one cut). By AI agents, Wed Nov 11 2026. No macro, syntax, notation, axiom, sorry.
-/
import Derived.Test.Qxb6618757aChecked
import GoSem.Claim
import GoSem.ClaimJoined
import GoSem.ClaimMapViews
import Derived.JoinedTies
import Derived.KernelRfl
namespace Go.Proofs.Qxb6618757a
/- THE CELL 'sum', in the pinned program and in every row, IS THE sha256 OF THE DUMP (.gsa) THAT Qxb6618757aProg.lean LOADS. Nothing in Lean hashes anything: it is a label: what it is worth is what the hold of that sum in a sandbox is worth. -/
noncomputable def Try.pinned : Pinned := { name := "qxb6618757a", sum := "edb5594c6fef0c88c2893effde479bcc5ae3c5f266679c7d89755734dbdf8553", checked := Try.checked }
namespace Rows
def none {H : Type} : Left H := { results := [], args := [] }

/-- 'zzlaws_internal_causal_b1.FnLamportTickStampCountsTicks': WHATEVER THE INPUT: true; the input reads as it did. -/
def fnLamportTickStampCountsTicksSpec : ChangeSpec := { name := "fnLamportTickStampCountsTicks", fn := fun _ => fun
  | [d] => { results := [.lit (.bool true)], args := [d] }
  | _ => none }
def fnLamportTickStampCountsTicksRow : OpenClaim := { program := "qxb6618757a", sum := "edb5594c6fef0c88c2893effde479bcc5ae3c5f266679c7d89755734dbdf8553", func := "example.com/anteclock/anteclock/zzlaws_internal_causal_b1.FnLamportTickStampCountsTicks", spec := "fnLamportTickStampCountsTicks", apart := false }
def FnLamportTickStampCountsTicksSaid : Prop := fnLamportTickStampCountsTicksRow.holds Try.pinned (OpenSpec.ofChange fnLamportTickStampCountsTicksSpec)

/-- ITS FALSE NEIGHBOUR: 'it returns false'. Refute it at one input. -/
def fnLamportTickStampCountsTicksWrong : ChangeSpec := { name := "fnLamportTickStampCountsTicks", fn := fun _ => fun
  | [d] => { results := [.lit (.bool false)], args := [d] }
  | _ => none }
def FnLamportTickStampCountsTicksWrongFalsely : Prop := fnLamportTickStampCountsTicksRow.holds Try.pinned (OpenSpec.ofChange fnLamportTickStampCountsTicksWrong)

/-- 'zzlaws_internal_causal_b1.FnLamportTickTwoClocksKeepTheirOwnCounts': WHATEVER THE INPUT: true; the input reads as it did. -/
def fnLamportTickTwoClocksKeepTheirOwnCountsSpec : ChangeSpec := { name := "fnLamportTickTwoClocksKeepTheirOwnCounts", fn := fun _ => fun
  | [d] => { results := [.lit (.bool true)], args := [d] }
  | _ => none }
def fnLamportTickTwoClocksKeepTheirOwnCountsRow : OpenClaim := { program := "qxb6618757a", sum := "edb5594c6fef0c88c2893effde479bcc5ae3c5f266679c7d89755734dbdf8553", func := "example.com/anteclock/anteclock/zzlaws_internal_causal_b1.FnLamportTickTwoClocksKeepTheirOwnCounts", spec := "fnLamportTickTwoClocksKeepTheirOwnCounts", apart := false }
def FnLamportTickTwoClocksKeepTheirOwnCountsSaid : Prop := fnLamportTickTwoClocksKeepTheirOwnCountsRow.holds Try.pinned (OpenSpec.ofChange fnLamportTickTwoClocksKeepTheirOwnCountsSpec)

/-- ITS FALSE NEIGHBOUR: 'it returns false'. Refute it at one input. -/
def fnLamportTickTwoClocksKeepTheirOwnCountsWrong : ChangeSpec := { name := "fnLamportTickTwoClocksKeepTheirOwnCounts", fn := fun _ => fun
  | [d] => { results := [.lit (.bool false)], args := [d] }
  | _ => none }
def FnLamportTickTwoClocksKeepTheirOwnCountsWrongFalsely : Prop := fnLamportTickTwoClocksKeepTheirOwnCountsRow.holds Try.pinned (OpenSpec.ofChange fnLamportTickTwoClocksKeepTheirOwnCountsWrong)

end Rows
end Go.Proofs.Qxb6618757a
