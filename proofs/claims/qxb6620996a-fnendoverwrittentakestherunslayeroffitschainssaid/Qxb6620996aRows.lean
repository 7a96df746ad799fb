/-
  No cell of these rows narrows 'for every input' (looked for: loops, veiled, ifaces, maps, wideKeys, modest, calm, conditions, laid).
  DERIVED. THE GIVEN ROWS OF THIS SEAT. 4 by the template 'for every input the law returns true; each argument reads behind the call as it read before'; 0 by the template 'total and deterministic' (their statements: Qxb6620996aTotals.lean).
  GIVEN WITH THE SEED: the statements are not yours to turn. If you find one false, say at which input.
  Laid BY PROGRAM, IN A SANDBOX (cutbox-rows.mjs): the forced cells as the released guide's own fill.sh prints them over the translation 196629ea0ee13ec2… (all of the seat's roots in one cut). By AI agents, Wed Nov 11 2026. No macro, syntax, notation, axiom, sorry.
-/
import Derived.Test.Qxb6620996aChecked
import GoSem.Claim
import GoSem.ClaimJoined
import GoSem.ClaimMapViews
import Derived.JoinedTies
import Derived.KernelRfl
namespace Go.Proofs.Qxb6620996a
/- THE CELL 'sum', in the pinned program and in every row, IS THE sha256 OF THE DUMP (.gsa) THAT Qxb6620996aProg.lean LOADS. Nothing in Lean hashes anything: it is a label: what it is worth is what the hold of that sum in a sandbox is worth. -/
noncomputable def Try.pinned : Pinned := { name := "qxb6620996a", sum := "196629ea0ee13ec2a98df338b034fb037bd54a5b11b07e3be3954548d8b8dd7b", checked := Try.checked }
namespace Rows
def none {H : Type} : Left H := { results := [], args := [] }

/-- 'zzlaws_scheduler_b1.FnDueIsTheRunAtNext': WHATEVER THE INPUT: true; the input reads as it did. -/
def fnDueIsTheRunAtNextSpec : ChangeSpec := { name := "fnDueIsTheRunAtNext", fn := fun _ => fun
  | [d1, d2, d3, d4, d5] => { results := [.lit (.bool true)], args := [d1, d2, d3, d4, d5] }
  | _ => none }
def fnDueIsTheRunAtNextRow : OpenClaim := { program := "qxb6620996a", sum := "196629ea0ee13ec2a98df338b034fb037bd54a5b11b07e3be3954548d8b8dd7b", func := "example.com/escalona/escalona/zzlaws_scheduler_b1.FnDueIsTheRunAtNext", spec := "fnDueIsTheRunAtNext", apart := false }
def FnDueIsTheRunAtNextSaid : Prop := fnDueIsTheRunAtNextRow.holds Try.pinned (OpenSpec.ofChange fnDueIsTheRunAtNextSpec)

/-- ITS FALSE NEIGHBOUR: 'it returns false'. Refute it at one input. -/
def fnDueIsTheRunAtNextWrong : ChangeSpec := { name := "fnDueIsTheRunAtNext", fn := fun _ => fun
  | [d1, d2, d3, d4, d5] => { results := [.lit (.bool false)], args := [d1, d2, d3, d4, d5] }
  | _ => none }
def FnDueIsTheRunAtNextWrongFalsely : Prop := fnDueIsTheRunAtNextRow.holds Try.pinned (OpenSpec.ofChange fnDueIsTheRunAtNextWrong)

/-- 'zzlaws_scheduler_b1.FnPlanMatchesLockPointModel': WHATEVER THE INPUT: true; the input reads as it did. -/
def fnPlanMatchesLockPointModelSpec : ChangeSpec := { name := "fnPlanMatchesLockPointModel", fn := fun _ => fun
  | [d1, d2, d3, d4, d5, d6, d7] => { results := [.lit (.bool true)], args := [d1, d2, d3, d4, d5, d6, d7] }
  | _ => none }
def fnPlanMatchesLockPointModelRow : OpenClaim := { program := "qxb6620996a", sum := "196629ea0ee13ec2a98df338b034fb037bd54a5b11b07e3be3954548d8b8dd7b", func := "example.com/escalona/escalona/zzlaws_scheduler_b1.FnPlanMatchesLockPointModel", spec := "fnPlanMatchesLockPointModel", apart := false }
def FnPlanMatchesLockPointModelSaid : Prop := fnPlanMatchesLockPointModelRow.holds Try.pinned (OpenSpec.ofChange fnPlanMatchesLockPointModelSpec)

/-- ITS FALSE NEIGHBOUR: 'it returns false'. Refute it at one input. -/
def fnPlanMatchesLockPointModelWrong : ChangeSpec := { name := "fnPlanMatchesLockPointModel", fn := fun _ => fun
  | [d1, d2, d3, d4, d5, d6, d7] => { results := [.lit (.bool false)], args := [d1, d2, d3, d4, d5, d6, d7] }
  | _ => none }
def FnPlanMatchesLockPointModelWrongFalsely : Prop := fnPlanMatchesLockPointModelRow.holds Try.pinned (OpenSpec.ofChange fnPlanMatchesLockPointModelWrong)

/-- 'zzlaws_scheduler_b1.FnPlanReleasesAreDueOnceEach': WHATEVER THE INPUT: true; the input reads as it did. -/
def fnPlanReleasesAreDueOnceEachSpec : ChangeSpec := { name := "fnPlanReleasesAreDueOnceEach", fn := fun _ => fun
  | [d1, d2, d3, d4, d5, d6, d7] => { results := [.lit (.bool true)], args := [d1, d2, d3, d4, d5, d6, d7] }
  | _ => none }
def fnPlanReleasesAreDueOnceEachRow : OpenClaim := { program := "qxb6620996a", sum := "196629ea0ee13ec2a98df338b034fb037bd54a5b11b07e3be3954548d8b8dd7b", func := "example.com/escalona/escalona/zzlaws_scheduler_b1.FnPlanReleasesAreDueOnceEach", spec := "fnPlanReleasesAreDueOnceEach", apart := false }
def FnPlanReleasesAreDueOnceEachSaid : Prop := fnPlanReleasesAreDueOnceEachRow.holds Try.pinned (OpenSpec.ofChange fnPlanReleasesAreDueOnceEachSpec)

/-- ITS FALSE NEIGHBOUR: 'it returns false'. Refute it at one input. -/
def fnPlanReleasesAreDueOnceEachWrong : ChangeSpec := { name := "fnPlanReleasesAreDueOnceEach", fn := fun _ => fun
  | [d1, d2, d3, d4, d5, d6, d7] => { results := [.lit (.bool false)], args := [d1, d2, d3, d4, d5, d6, d7] }
  | _ => none }
def FnPlanReleasesAreDueOnceEachWrongFalsely : Prop := fnPlanReleasesAreDueOnceEachRow.holds Try.pinned (OpenSpec.ofChange fnPlanReleasesAreDueOnceEachWrong)

/-- 'zzlaws_scheduler_b1.FnEndOverwrittenTakesTheRunsLayerOffItsChains': WHATEVER THE INPUT: true; the input reads as it did. -/
def fnEndOverwrittenTakesTheRunsLayerOffItsChainsSpec : ChangeSpec := { name := "fnEndOverwrittenTakesTheRunsLayerOffItsChains", fn := fun _ => fun
  | [d1, d2, d3, d4, d5, d6, d7, d8] => { results := [.lit (.bool true)], args := [d1, d2, d3, d4, d5, d6, d7, d8] }
  | _ => none }
def fnEndOverwrittenTakesTheRunsLayerOffItsChainsRow : OpenClaim := { program := "qxb6620996a", sum := "196629ea0ee13ec2a98df338b034fb037bd54a5b11b07e3be3954548d8b8dd7b", func := "example.com/escalona/escalona/zzlaws_scheduler_b1.FnEndOverwrittenTakesTheRunsLayerOffItsChains", spec := "fnEndOverwrittenTakesTheRunsLayerOffItsChains", apart := false }
def FnEndOverwrittenTakesTheRunsLayerOffItsChainsSaid : Prop := fnEndOverwrittenTakesTheRunsLayerOffItsChainsRow.holds Try.pinned (OpenSpec.ofChange fnEndOverwrittenTakesTheRunsLayerOffItsChainsSpec)

/-- ITS FALSE NEIGHBOUR: 'it returns false'. Refute it at one input. -/
def fnEndOverwrittenTakesTheRunsLayerOffItsChainsWrong : ChangeSpec := { name := "fnEndOverwrittenTakesTheRunsLayerOffItsChains", fn := fun _ => fun
  | [d1, d2, d3, d4, d5, d6, d7, d8] => { results := [.lit (.bool false)], args := [d1, d2, d3, d4, d5, d6, d7, d8] }
  | _ => none }
def FnEndOverwrittenTakesTheRunsLayerOffItsChainsWrongFalsely : Prop := fnEndOverwrittenTakesTheRunsLayerOffItsChainsRow.holds Try.pinned (OpenSpec.ofChange fnEndOverwrittenTakesTheRunsLayerOffItsChainsWrong)

end Rows
end Go.Proofs.Qxb6620996a
