/-
  The row of FnEndOverwrittenTakesTheRunsLayerOffItsChains: the frame is the guide's (a law over slices, 'Below'); the walk lies in Qxb6620996aEndLaw.
-/
import Derived.Test.Qxb6620996aEndLaw
import Derived.Test.Qxb6620996aOpen
import Derived.ShutString
import Derived.ChangeOld
namespace Go.Proofs.Qxb6620996a.fnEndOverwrittenTakesTheRunsLayerOffItsChains
open Go.ChangeShapes Go.WideShapes Go.ChangeAt Go.RowKit
set_option linter.unusedVariables false

theorem own : ownKnob Try.prog.godebug = none := by kernel_rfl
theorem laidOut : laidOutB Try.prog = true := by kernel_rfl

set_option maxRecDepth 100000 in
theorem lifted (os : Os) (started : os.Started) (H : Type) (enc : TypeId × Value → H) :
    ReturnsInHanded {} Try.checked os 6 .any (Rows.fnEndOverwrittenTakesTheRunsLayerOffItsChainsSpec.pre6 enc Try.prog Try.f6 Rows.fnEndOverwrittenTakesTheRunsLayerOffItsChainsRow.domain false) (Rows.fnEndOverwrittenTakesTheRunsLayerOffItsChainsSpec.post enc Try.prog Try.f6 false true false false) := by
  refine returnsInHanded_of_change (C := Try.checked) own started (by kernel_rfl) Try.func6
    (ChangeSpec.witness6 (enc := enc) (C := Try.checked) false ⟨#[], #[.slice none 0 0, .slice none 0 0, .slice none 0 0, .slice none 0 0, .slice none 0 0, .slice none 0 0, .int .i64 0, .bool false], []⟩ 8 (by kernel_rfl) (by kernel_rfl) (by kernel_rfl) (by kernel_rfl)) ?_
  intro W base args ds gs before hval0 hW hcnd _
  have hval : ∀ (j : Nat) t v, Try.f6.params[j]? = some t → args[j]? = some v → Value.okWide Try.prog W .any base t v := hval0
  have hW' := hW
  obtain ⟨p, q, hA0, hV, rfl, hfz, hnd⟩ := hW
  have hA : DataW.TrodAll enc Try.prog W 0 (fun _ => true) true Try.f6.params.toList args.toList ds p := hA0
  rw [Try.params6] at hA hval
  obtain ⟨v0, vs0, d0, ds0, p0, q0, hargs, rfl, rfl, h0, r0⟩ := trodAll_cons hA
  obtain ⟨v1, vs1, d1, ds1, p1, q1, rfl, rfl, rfl, h1, r1⟩ := trodAll_cons r0
  obtain ⟨v2, vs2, d2, ds2, p2, q2, rfl, rfl, rfl, h2, r2⟩ := trodAll_cons r1
  obtain ⟨v3, vs3, d3, ds3, p3, q3, rfl, rfl, rfl, h3, r3⟩ := trodAll_cons r2
  obtain ⟨v4, vs4, d4, ds4, p4, q4, rfl, rfl, rfl, h4, r4⟩ := trodAll_cons r3
  obtain ⟨v5, vs5, d5, ds5, p5, q5, rfl, rfl, rfl, h5, r5⟩ := trodAll_cons r4
  obtain ⟨v6, vs6, d6, ds6, p6, q6, rfl, rfl, rfl, h6, r6⟩ := trodAll_cons r5
  obtain ⟨v7, vs7, d7, ds7, p7, q7, rfl, rfl, rfl, h7, r7⟩ := trodAll_cons r6
  obtain ⟨rfl, rfl, rfl⟩ := trodAll_nil r7
  obtain rfl : args = #[v0, v1, v2, v3, v4, v5, v6, v7] := by cases args; simp_all
  obtain ⟨rfl, rfl⟩ := trodVars_none hV
  obtain ⟨a0, len0, cap0, rfl⟩ := okWide_slice Try.underlying43 (hval 0 43 v0 rfl rfl)
  have k0 := h0
  have lt0 : ∀ x ∈ p0, x.block < W.heap.size := by obtain ⟨m, hm⟩ := k0; exact DataW.trod_lt m _ _ _ hm
  obtain ⟨a1, len1, cap1, rfl⟩ := okWide_slice Try.underlying22 (hval 1 22 v1 rfl rfl)
  have k1 := h1
  have lt1 : ∀ x ∈ p1, x.block < W.heap.size := by obtain ⟨m, hm⟩ := k1; exact DataW.trod_lt m _ _ _ hm
  obtain ⟨a2, len2, cap2, rfl⟩ := okWide_slice Try.underlying22 (hval 2 22 v2 rfl rfl)
  have k2 := h2
  have lt2 : ∀ x ∈ p2, x.block < W.heap.size := by obtain ⟨m, hm⟩ := k2; exact DataW.trod_lt m _ _ _ hm
  obtain ⟨a3, len3, cap3, rfl⟩ := okWide_slice Try.underlying44 (hval 3 44 v3 rfl rfl)
  have k3 := h3
  have lt3 : ∀ x ∈ p3, x.block < W.heap.size := by obtain ⟨m, hm⟩ := k3; exact DataW.trod_lt m _ _ _ hm
  obtain ⟨a4, len4, cap4, rfl⟩ := okWide_slice Try.underlying25 (hval 4 25 v4 rfl rfl)
  have k4 := h4
  have lt4 : ∀ x ∈ p4, x.block < W.heap.size := by obtain ⟨m, hm⟩ := k4; exact DataW.trod_lt m _ _ _ hm
  obtain ⟨a5, len5, cap5, rfl⟩ := okWide_slice Try.underlying43 (hval 5 43 v5 rfl rfl)
  have k5 := h5
  have lt5 : ∀ x ∈ p5, x.block < W.heap.size := by obtain ⟨m, hm⟩ := k5; exact DataW.trod_lt m _ _ _ hm
  obtain ⟨a6, rfl, rfl, rfl, w6⟩ := open_int Try.underlying3 (hval 6 3 v6 rfl rfl) h6
  obtain ⟨a7, rfl, rfl, rfl⟩ := open_bool Try.underlying4 (hval 7 4 v7 rfl rfl) h7
  obtain ⟨V, g0, n0le, _⟩ := Exists.elim h0 fun fuel hf => open_plain (.int .i64) (fun y => -9223372036854775808 ≤ y ∧ y ≤ 9223372036854775807) (by decide) Try.underlying43 (by kernel_rfl) (read_i64 Try.underlying2) (by simpa [Value.cells] using hf)
  obtain ⟨A1, L1, C1, UX, g1, gx, n1le, L1le, xb⟩ := Exists.elim h1 fun fuel hf => open_rows (.int .i32) (fun y => -2147483648 ≤ y ∧ y ≤ 2147483647) (by decide) Try.underlying22 Try.underlying25 (by kernel_rfl) (by kernel_rfl) (read_i32 Try.underlying21) (by simpa [Value.cells] using hf)
  obtain ⟨A2, L2, C2, UU, g2, gu, n2le, L2le, ub⟩ := Exists.elim h2 fun fuel hf => open_rows (.int .i32) (fun y => -2147483648 ≤ y ∧ y ≤ 2147483647) (by decide) Try.underlying22 Try.underlying25 (by kernel_rfl) (by kernel_rfl) (read_i32 Try.underlying21) (by simpa [Value.cells] using hf)
  obtain ⟨A3, L3, C3, UV, g3, gv, n3le, L3le, _⟩ := Exists.elim h3 fun fuel hf => open_rows (.int .i64) (fun y => -9223372036854775808 ≤ y ∧ y ≤ 9223372036854775807) (by decide) Try.underlying44 Try.underlying43 (by kernel_rfl) (by kernel_rfl) (read_i64 Try.underlying2) (by simpa [Value.cells] using hf)
  obtain ⟨Wt, g4, n4le, wb⟩ := Exists.elim h4 fun fuel hf => open_plain (.int .i32) (fun y => -2147483648 ≤ y ∧ y ≤ 2147483647) (by decide) Try.underlying25 (by kernel_rfl) (read_i32 Try.underlying21) (by simpa [Value.cells] using hf)
  obtain ⟨En, g5, n5le, _⟩ := Exists.elim h5 fun fuel hf => open_plain (.int .i64) (fun y => -9223372036854775808 ≤ y ∧ y ≤ 9223372036854775807) (by decide) Try.underlying43 (by kernel_rfl) (read_i64 Try.underlying2) (by simpa [Value.cells] using hf)
  clear hA0 hval0
  have D : EndArgs W a0 a1 a2 a3 a4 a5 len0 len1 len2 len3 len4 len5 A1 A2 A3 L1 L2 L3 C1 C2 C3 V UX UU UV Wt En := ⟨g0, g1, g2, g3, g4, g5, gx, gu, gv, xb, ub, wb⟩
  refine (endLaw a0 a1 a2 a3 a4 a5 len0 len1 len2 len3 len4 len5 cap0 cap1 cap2 cap3 cap4 cap5 a6 a7 A1 A2 A3 L1 L2 L3 C1 C2 C3 V UX UU UV Wt En W D n0le n1le n2le n3le n4le n5le L1le L2le L3le).mono fun e W' ⟨he, bel⟩ => ?_
  subst he
  exact ⟨_, rfl, _, _, _, [], _, [], hW', trodAll_mk1 (shut_bool Try.underlying4 _), (trodAll_cons_mk (Below.trod laidOut (by kernel_rfl) (of_decide_eq_true (by kernel_rfl)) k0 bel lt0) (trodAll_cons_mk (Below.trod laidOut (by kernel_rfl) (of_decide_eq_true (by kernel_rfl)) k1 bel lt1) (trodAll_cons_mk (Below.trod laidOut (by kernel_rfl) (of_decide_eq_true (by kernel_rfl)) k2 bel lt2) (trodAll_cons_mk (Below.trod laidOut (by kernel_rfl) (of_decide_eq_true (by kernel_rfl)) k3 bel lt3) (trodAll_cons_mk (Below.trod laidOut (by kernel_rfl) (of_decide_eq_true (by kernel_rfl)) k4 bel lt4) (trodAll_cons_mk (Below.trod laidOut (by kernel_rfl) (of_decide_eq_true (by kernel_rfl)) k5 bel lt5) (trodAll_cons_mk (shut_int Try.underlying3 w6) (trodAll_cons_mk (shut_bool Try.underlying4 a7) trodAll_mk0)))))))), rfl, bel.frame _, fun h => by cases h⟩

theorem over : Rows.fnEndOverwrittenTakesTheRunsLayerOffItsChainsRow.holds Try.pinned (OpenSpec.ofChange Rows.fnEndOverwrittenTakesTheRunsLayerOffItsChainsSpec) :=
  OpenClaim.holds_of_wide 6 Try.f6 rfl rfl rfl rfl rfl rfl rfl ⟨rfl, rfl, rfl, rfl, rfl⟩ rfl rfl rfl rfl rfl (by kernel_rfl) Try.func6 (by kernel_rfl)
    (of_decide_eq_true (by kernel_rfl)) (by unfold Func.isWrapper; first | (rw [if_pos (by decide +kernel)]; kernel_rfl) | (rw [if_neg (by decide +kernel)]; exact ⟨rfl, rfl⟩))
    (fun os started H enc _ => lifted os started H enc)

/-- THE STATEMENT -/
theorem proved : Rows.FnEndOverwrittenTakesTheRunsLayerOffItsChainsSaid := over
end Go.Proofs.Qxb6620996a.fnEndOverwrittenTakesTheRunsLayerOffItsChains
