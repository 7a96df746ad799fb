/-
  No cell of these rows narrows 'for every input' (looked for: loops, veiled, ifaces, maps, wideKeys, modest, calm, conditions, laid).
  DERIVED. THE GIVEN ROWS OF THIS SEAT. 5 by the template 'for every input the law returns true; each argument reads behind the call as it read before'; 0 by the template 'total and deterministic' (their statements: Qxb6617909aTotals.lean).
  GIVEN WITH THE SEED: the statements are not yours to turn. If you find one false, say at which input.
  Laid BY PROGRAM, IN A SANDBOX (cutbox-rows.mjs): the forced cells as the released guide's own fill.sh prints them over the translation f5a068b6ed1c0c93… (all of the seat's roots in one cut). By AI agents, Wed Nov 11 2026. No macro, syntax, notation, axiom, sorry.
-/
import Derived.Test.Qxb6617909aChecked
import GoSem.Claim
import GoSem.ClaimJoined
import GoSem.ClaimMapViews
import Derived.JoinedTies
import Derived.KernelRfl
namespace Go.Proofs.Qxb6617909a
/- THE CELL 'sum', in the pinned program and in every row, IS THE sha256 OF THE DUMP (.gsa) THAT Qxb6617909aProg.lean LOADS. Nothing in Lean hashes anything: it is a label: what it is worth is what the hold of that sum in a sandbox is worth. -/
noncomputable def Try.pinned : Pinned := { name := "qxb6617909a", sum := "f5a068b6ed1c0c93faef976320baefad9a6a649ec55314664a4fd6f390a69793", checked := Try.checked }
namespace Rows
def none {H : Type} : Left H := { results := [], args := [] }

/-- 'zzlaws_internal_jsontext_b1.FnContinuesNumberExtendsANumberPrefix': WHATEVER THE INPUT: true; the input reads as it did. -/
def fnContinuesNumberExtendsANumberPrefixSpec : ChangeSpec := { name := "fnContinuesNumberExtendsANumberPrefix", fn := fun _ => fun
  | [d1, d2] => { results := [.lit (.bool true)], args := [d1, d2] }
  | _ => none }
def fnContinuesNumberExtendsANumberPrefixRow : OpenClaim := { program := "qxb6617909a", sum := "f5a068b6ed1c0c93faef976320baefad9a6a649ec55314664a4fd6f390a69793", func := "example.com/apportion/apportion/zzlaws_internal_jsontext_b1.FnContinuesNumberExtendsANumberPrefix", spec := "fnContinuesNumberExtendsANumberPrefix", apart := false }
def FnContinuesNumberExtendsANumberPrefixSaid : Prop := fnContinuesNumberExtendsANumberPrefixRow.holds Try.pinned (OpenSpec.ofChange fnContinuesNumberExtendsANumberPrefixSpec)

/-- ITS FALSE NEIGHBOUR: 'it returns false'. Refute it at one input. -/
def fnContinuesNumberExtendsANumberPrefixWrong : ChangeSpec := { name := "fnContinuesNumberExtendsANumberPrefix", fn := fun _ => fun
  | [d1, d2] => { results := [.lit (.bool false)], args := [d1, d2] }
  | _ => none }
def FnContinuesNumberExtendsANumberPrefixWrongFalsely : Prop := fnContinuesNumberExtendsANumberPrefixRow.holds Try.pinned (OpenSpec.ofChange fnContinuesNumberExtendsANumberPrefixWrong)

/-- 'zzlaws_internal_jsontext_b1.FnFirstItemFindsBracketAndFirstItem': WHATEVER THE INPUT: true; the input reads as it did. -/
def fnFirstItemFindsBracketAndFirstItemSpec : ChangeSpec := { name := "fnFirstItemFindsBracketAndFirstItem", fn := fun _ => fun
  | [d] => { results := [.lit (.bool true)], args := [d] }
  | _ => none }
def fnFirstItemFindsBracketAndFirstItemRow : OpenClaim := { program := "qxb6617909a", sum := "f5a068b6ed1c0c93faef976320baefad9a6a649ec55314664a4fd6f390a69793", func := "example.com/apportion/apportion/zzlaws_internal_jsontext_b1.FnFirstItemFindsBracketAndFirstItem", spec := "fnFirstItemFindsBracketAndFirstItem", apart := false }
def FnFirstItemFindsBracketAndFirstItemSaid : Prop := fnFirstItemFindsBracketAndFirstItemRow.holds Try.pinned (OpenSpec.ofChange fnFirstItemFindsBracketAndFirstItemSpec)

/-- ITS FALSE NEIGHBOUR: 'it returns false'. Refute it at one input. -/
def fnFirstItemFindsBracketAndFirstItemWrong : ChangeSpec := { name := "fnFirstItemFindsBracketAndFirstItem", fn := fun _ => fun
  | [d] => { results := [.lit (.bool false)], args := [d] }
  | _ => none }
def FnFirstItemFindsBracketAndFirstItemWrongFalsely : Prop := fnFirstItemFindsBracketAndFirstItemRow.holds Try.pinned (OpenSpec.ofChange fnFirstItemFindsBracketAndFirstItemWrong)

/-- 'zzlaws_internal_jsontext_b1.FnFirstItemShiftsPastLeadingSpace': WHATEVER THE INPUT: true; the input reads as it did. -/
def fnFirstItemShiftsPastLeadingSpaceSpec : ChangeSpec := { name := "fnFirstItemShiftsPastLeadingSpace", fn := fun _ => fun
  | [d1, d2] => { results := [.lit (.bool true)], args := [d1, d2] }
  | _ => none }
def fnFirstItemShiftsPastLeadingSpaceRow : OpenClaim := { program := "qxb6617909a", sum := "f5a068b6ed1c0c93faef976320baefad9a6a649ec55314664a4fd6f390a69793", func := "example.com/apportion/apportion/zzlaws_internal_jsontext_b1.FnFirstItemShiftsPastLeadingSpace", spec := "fnFirstItemShiftsPastLeadingSpace", apart := false }
def FnFirstItemShiftsPastLeadingSpaceSaid : Prop := fnFirstItemShiftsPastLeadingSpaceRow.holds Try.pinned (OpenSpec.ofChange fnFirstItemShiftsPastLeadingSpaceSpec)

/-- ITS FALSE NEIGHBOUR: 'it returns false'. Refute it at one input. -/
def fnFirstItemShiftsPastLeadingSpaceWrong : ChangeSpec := { name := "fnFirstItemShiftsPastLeadingSpace", fn := fun _ => fun
  | [d1, d2] => { results := [.lit (.bool false)], args := [d1, d2] }
  | _ => none }
def FnFirstItemShiftsPastLeadingSpaceWrongFalsely : Prop := fnFirstItemShiftsPastLeadingSpaceRow.holds Try.pinned (OpenSpec.ofChange fnFirstItemShiftsPastLeadingSpaceWrong)

/-- 'zzlaws_internal_jsontext_b1.FnNextItemFindsCommaOrClose': WHATEVER THE INPUT: true; the input reads as it did. -/
def fnNextItemFindsCommaOrCloseSpec : ChangeSpec := { name := "fnNextItemFindsCommaOrClose", fn := fun _ => fun
  | [d1, d2, d3] => { results := [.lit (.bool true)], args := [d1, d2, d3] }
  | _ => none }
def fnNextItemFindsCommaOrCloseRow : OpenClaim := { program := "qxb6617909a", sum := "f5a068b6ed1c0c93faef976320baefad9a6a649ec55314664a4fd6f390a69793", func := "example.com/apportion/apportion/zzlaws_internal_jsontext_b1.FnNextItemFindsCommaOrClose", spec := "fnNextItemFindsCommaOrClose", apart := false }
def FnNextItemFindsCommaOrCloseSaid : Prop := fnNextItemFindsCommaOrCloseRow.holds Try.pinned (OpenSpec.ofChange fnNextItemFindsCommaOrCloseSpec)

/-- ITS FALSE NEIGHBOUR: 'it returns false'. Refute it at one input. -/
def fnNextItemFindsCommaOrCloseWrong : ChangeSpec := { name := "fnNextItemFindsCommaOrClose", fn := fun _ => fun
  | [d1, d2, d3] => { results := [.lit (.bool false)], args := [d1, d2, d3] }
  | _ => none }
def FnNextItemFindsCommaOrCloseWrongFalsely : Prop := fnNextItemFindsCommaOrCloseRow.holds Try.pinned (OpenSpec.ofChange fnNextItemFindsCommaOrCloseWrong)

/-- 'zzlaws_internal_jsontext_b1.FnNextItemIgnoresWhatFollows': WHATEVER THE INPUT: true; the input reads as it did. -/
def fnNextItemIgnoresWhatFollowsSpec : ChangeSpec := { name := "fnNextItemIgnoresWhatFollows", fn := fun _ => fun
  | [d1, d2, d3, d4] => { results := [.lit (.bool true)], args := [d1, d2, d3, d4] }
  | _ => none }
def fnNextItemIgnoresWhatFollowsRow : OpenClaim := { program := "qxb6617909a", sum := "f5a068b6ed1c0c93faef976320baefad9a6a649ec55314664a4fd6f390a69793", func := "example.com/apportion/apportion/zzlaws_internal_jsontext_b1.FnNextItemIgnoresWhatFollows", spec := "fnNextItemIgnoresWhatFollows", apart := false }
def FnNextItemIgnoresWhatFollowsSaid : Prop := fnNextItemIgnoresWhatFollowsRow.holds Try.pinned (OpenSpec.ofChange fnNextItemIgnoresWhatFollowsSpec)

/-- ITS FALSE NEIGHBOUR: 'it returns false'. Refute it at one input. -/
def fnNextItemIgnoresWhatFollowsWrong : ChangeSpec := { name := "fnNextItemIgnoresWhatFollows", fn := fun _ => fun
  | [d1, d2, d3, d4] => { results := [.lit (.bool false)], args := [d1, d2, d3, d4] }
  | _ => none }
def FnNextItemIgnoresWhatFollowsWrongFalsely : Prop := fnNextItemIgnoresWhatFollowsRow.holds Try.pinned (OpenSpec.ofChange fnNextItemIgnoresWhatFollowsWrong)

end Rows
end Go.Proofs.Qxb6617909a
