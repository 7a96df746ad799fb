/-
  The row of FnDueIsTheRunAtNext: the frame is the guide's (a law over slices, 'Below'); the walk lies in Qxb6620996aDueLaw.
-/
import Derived.Test.Qxb6620996aDueLaw
import Derived.Test.Qxb6620996aOpen
import Derived.ShutString
import Derived.ChangeOld
namespace Go.Proofs.Qxb6620996a.fnDueIsTheRunAtNext
open Go.ChangeShapes Go.WideShapes Go.ChangeAt Go.RowKit
set_option linter.unusedVariables false

theorem own : ownKnob Try.prog.godebug = none := by kernel_rfl
theorem laidOut : laidOutB Try.prog = true := by kernel_rfl

set_option maxRecDepth 100000 in
theorem lifted (os : Os) (started : os.Started) (H : Type) (enc : TypeId × Value → H) :
    ReturnsInHanded {} Try.checked os 3 .any (Rows.fnDueIsTheRunAtNextSpec.pre6 enc Try.prog Try.f3 Rows.fnDueIsTheRunAtNextRow.domain false) (Rows.fnDueIsTheRunAtNextSpec.post enc Try.prog Try.f3 false true false false) := by
  refine returnsInHanded_of_change (C := Try.checked) own started (by kernel_rfl) Try.func3
    (ChangeSpec.witness6 (enc := enc) (C := Try.checked) false ⟨#[], #[.slice none 0 0, .slice none 0 0, .slice none 0 0, .int .i64 0, .int .i64 0], []⟩ 8 (by kernel_rfl) (by kernel_rfl) (by kernel_rfl) (by kernel_rfl)) ?_
  intro W base args ds gs before hval0 hW hcnd _
  have hval : ∀ (j : Nat) t v, Try.f3.params[j]? = some t → args[j]? = some v → Value.okWide Try.prog W .any base t v := hval0
  have hW' := hW
  obtain ⟨p, q, hA0, hV, rfl, hfz, hnd⟩ := hW
  have hA : DataW.TrodAll enc Try.prog W 0 (fun _ => true) true Try.f3.params.toList args.toList ds p := hA0
  rw [Try.params3] at hA hval
  obtain ⟨v0, vs0, d0, ds0, p0, q0, hargs, rfl, rfl, h0, r0⟩ := trodAll_cons hA
  obtain ⟨v1, vs1, d1, ds1, p1, q1, rfl, rfl, rfl, h1, r1⟩ := trodAll_cons r0
  obtain ⟨v2, vs2, d2, ds2, p2, q2, rfl, rfl, rfl, h2, r2⟩ := trodAll_cons r1
  obtain ⟨v3, vs3, d3, ds3, p3, q3, rfl, rfl, rfl, h3, r3⟩ := trodAll_cons r2
  obtain ⟨v4, vs4, d4, ds4, p4, q4, rfl, rfl, rfl, h4, r4⟩ := trodAll_cons r3
  obtain ⟨rfl, rfl, rfl⟩ := trodAll_nil r4
  obtain rfl : args = #[v0, v1, v2, v3, v4] := by cases args; simp_all
  obtain ⟨rfl, rfl⟩ := trodVars_none hV
  obtain ⟨a0, len0, cap0, rfl⟩ := okWide_slice Try.underlying22 (hval 0 22 v0 rfl rfl)
  have k0 := h0
  have lt0 : ∀ x ∈ p0, x.block < W.heap.size := by obtain ⟨m, hm⟩ := k0; exact DataW.trod_lt m _ _ _ hm
  obtain ⟨a1, len1, cap1, rfl⟩ := okWide_slice Try.underlying22 (hval 1 22 v1 rfl rfl)
  have k1 := h1
  have lt1 : ∀ x ∈ p1, x.block < W.heap.size := by obtain ⟨m, hm⟩ := k1; exact DataW.trod_lt m _ _ _ hm
  obtain ⟨a2, len2, cap2, rfl⟩ := okWide_slice Try.underlying23 (hval 2 23 v2 rfl rfl)
  have k2 := h2
  have lt2 : ∀ x ∈ p2, x.block < W.heap.size := by obtain ⟨m, hm⟩ := k2; exact DataW.trod_lt m _ _ _ hm
  obtain ⟨a3, rfl, rfl, rfl, w3⟩ := open_int Try.underlying3 (hval 3 3 v3 rfl rfl) h3
  obtain ⟨a4, rfl, rfl, rfl, w4⟩ := open_int Try.underlying3 (hval 4 3 v4 rfl rfl) h4
  obtain ⟨A0, L0, C0, Z, g0, gz, n0le, L0le, zb⟩ := Exists.elim h0 fun fuel hf => open_rows (.int .i32) (fun y => -2147483648 ≤ y ∧ y ≤ 2147483647) (by decide) Try.underlying22 Try.underlying25 (by kernel_rfl) (by kernel_rfl) (read_i32 Try.underlying21) (by simpa [Value.cells] using hf)
  obtain ⟨A1, L1, C1, X, g1, gx, n1le, L1le, _⟩ := Exists.elim h1 fun fuel hf => open_rows (.int .i32) (fun y => -2147483648 ≤ y ∧ y ≤ 2147483647) (by decide) Try.underlying22 Try.underlying25 (by kernel_rfl) (by kernel_rfl) (read_i32 Try.underlying21) (by simpa [Value.cells] using hf)
  obtain ⟨A2, L2, C2, E, g2, ge, n2le, L2le, _⟩ := Exists.elim h2 fun fuel hf => open_rows .bool (fun _ => True) trivial Try.underlying23 Try.underlying26 (by kernel_rfl) (by kernel_rfl) (read_bool Try.underlying4) (by simpa [Value.cells] using hf)
  clear hA0 hval0
  have D : DueArgs W a0 a1 a2 len0 len1 len2 A0 A1 A2 L0 L1 L2 C0 C1 C2 Z X E := ⟨g0, g1, g2, gz, gx, ge, n0le, n1le, n2le, L0le, L1le, L2le, zb⟩
  refine (dueLaw a0 a1 a2 len0 len1 len2 cap0 cap1 cap2 a3 a4 A0 A1 A2 L0 L1 L2 C0 C1 C2 Z X E W D).mono fun e W' ⟨he, bel⟩ => ?_
  subst he
  exact ⟨_, rfl, _, _, _, [], _, [], hW', trodAll_mk1 (shut_bool Try.underlying4 _), (trodAll_cons_mk (Below.trod laidOut (by kernel_rfl) (of_decide_eq_true (by kernel_rfl)) k0 bel lt0) (trodAll_cons_mk (Below.trod laidOut (by kernel_rfl) (of_decide_eq_true (by kernel_rfl)) k1 bel lt1) (trodAll_cons_mk (Below.trod laidOut (by kernel_rfl) (of_decide_eq_true (by kernel_rfl)) k2 bel lt2) (trodAll_cons_mk (shut_int Try.underlying3 w3) (trodAll_cons_mk (shut_int Try.underlying3 w4) trodAll_mk0))))), rfl, bel.frame _, fun h => by cases h⟩

theorem over : Rows.fnDueIsTheRunAtNextRow.holds Try.pinned (OpenSpec.ofChange Rows.fnDueIsTheRunAtNextSpec) :=
  OpenClaim.holds_of_wide 3 Try.f3 rfl rfl rfl rfl rfl rfl rfl ⟨rfl, rfl, rfl, rfl, rfl⟩ rfl rfl rfl rfl rfl (by kernel_rfl) Try.func3 (by kernel_rfl)
    (of_decide_eq_true (by kernel_rfl)) (by unfold Func.isWrapper; first | (rw [if_pos (by decide +kernel)]; kernel_rfl) | (rw [if_neg (by decide +kernel)]; exact ⟨rfl, rfl⟩))
    (fun os started H enc _ => lifted os started H enc)

/-- THE STATEMENT -/
theorem proved : Rows.FnDueIsTheRunAtNextSaid := over
end Go.Proofs.Qxb6620996a.fnDueIsTheRunAtNext
