import Derived.Test.Qxb6620996aKit
namespace Go.Proofs.Qxb6620996a
open Go.RowKit
set_option linter.unusedVariables false

/-- What duePremise's yes says. -/
def DueFit (n0 n1 n2 : Nat) (p : Int) (L0 L1 L2 : Nat → Nat) (Z : Nat → Nat → Int) : Prop :=
  n1 = n0 ∧ n2 = n0 ∧ 0 ≤ p ∧ p < n0 ∧ (∀ r, r < n0 → L1 r = L0 r ∧ L2 r = L0 r) ∧ ∀ j, j + 1 < L0 p.toNat → Z p.toNat j ≤ Z p.toNat (j + 1)

set_option maxHeartbeats 1000000 in
theorem premDue (a0 a1 a2 : Option Addr) (n0 n1 n2 c0 c1 c2 : Nat) (p : Int) (A0 A1 A2 : Nat → Option Addr) (L0 L1 L2 C0 C1 C2 : Nat → Nat) (Z : Nat → Nat → Int) (w : World)
    (h0 : Sl w a0 n0 (fun r => .slice (A0 r) (L0 r) (C0 r))) (h1 : Sl w a1 n1 (fun r => .slice (A1 r) (L1 r) (C1 r))) (h2 : Sl w a2 n2 (fun r => .slice (A2 r) (L2 r) (C2 r)))
    (hz : ∀ r, r < n0 → Sl w (A0 r) (L0 r) (fun j => .int .i32 (Z r j)))
    (hn0 : n0 ≤ 9223372036854775807) (hn1 : n1 ≤ 9223372036854775807) (hn2 : n2 ≤ 9223372036854775807) (hL0 : ∀ r, r < n0 → L0 r ≤ 9223372036854775807) :
    Calls Try.prog 8 #[.slice a0 n0 c0, .slice a1 n1 c1, .slice a2 n2 c2, .int .i64 p] w fun e w' =>
      AnsIf (DueFit n0 n1 n2 p L0 L1 L2 Z) e ∧ ∃ m, w' = w.drewN m := by
  by_cases e1 : n1 = n0
  · by_cases e2 : n2 = n0
    · by_cases hp : 0 ≤ p ∧ p < n0
      · obtain ⟨hp0, hp1⟩ := hp
        subst e1 e2
        go_enter Try.func8, Try.ntmps8
        go_wp2
        go_loopw [9] (fun i wr => ∃ k : Nat, k ≤ n2 ∧ i = .int .i64 k ∧ (∀ r, r < k → L1 r = L0 r ∧ L2 r = L0 r) ∧ ∃ m, wr = w.drewN m) (fun i _ => n2 - (intOf i).toNat)
        case atStart => exact ⟨0, Nat.zero_le _, rfl, fun r hr => absurd hr (by omega), 0, rfl⟩
        case round =>
          obtain ⟨k, hk, rfl, hall, m, rfl⟩ := hrel
          by_cases hlt : k < n2
          · obtain ⟨b, off, rfl, hc⟩ := h0 k hlt
            obtain ⟨b1, off1, rfl, hc1⟩ := h1 k hlt
            obtain ⟨b2, off2, rfl, hc2⟩ := h2 k hlt
            by_cases g1 : L1 k = L0 k
            · have hg1 : ((L1 k : Int) == (L0 k : Int)) = true := ieqT (by omega)
              clear h0 h1 h2 hz hL0
              go_wp2
              go_quiet (fail)
              go_wp2
              · go_ret
                exact ⟨ansIf_no, drew2 _ _ _⟩
              · have g2 : ((L2 k : Int) != (L0 k : Int)) = false := by assumption
                go_roundw
                case rel => exact ⟨k + 1, by omega, by go_num, all_succ hall ⟨g1, natEq g2⟩, drew1 _ _⟩
                case measure => simp [intOf]; omega
            · have hg1 : ((L1 k : Int) != (L0 k : Int)) = true := ineT (by omega)
              clear h0 h1 h2 hz hL0
              go_wp2
              go_quiet (fail)
              go_wp2
              go_ret
              exact ⟨ansIf_no, drew2 _ _ _⟩
          · have hall0 : Hid (∀ r, r < n2 → L1 r = L0 r ∧ L2 r = L0 r) := fun r hr => hall r (by omega)
            clear hall h1 h2
            obtain ⟨q, rfl⟩ : ∃ q : Nat, p = q := ⟨p.toNat, by omega⟩
            obtain ⟨b, off, rfl, hc⟩ := h0 q (by omega)
            have hzq := hz q (by omega)
            have hLq := hL0 q (by omega)
            clear h0 hz hL0 hp0
            have hq : q < n2 := by omega
            go_wp2
            go_loopw [11] (fun i wr => ∃ k : Nat, k < L0 q + 1 ∧ i = .int .i64 (k + 1) ∧ (∀ j, j < k → j + 1 < L0 q → Z q j ≤ Z q (j + 1)) ∧ ∃ m, wr = w.drewN m) (fun i _ => L0 q + 1 - (intOf i).toNat)
            case atStart => exact ⟨0, by omega, rfl, fun r hr => absurd hr (by omega), drew1 _ _⟩
            case round =>
              clear hlt hk
              obtain ⟨k, hk, rfl, hall, m, rfl⟩ := hrel
              by_cases hlt : k + 1 < L0 q
              · obtain ⟨b1, off1, ha, hc1⟩ := hzq k (by omega)
                rw [ha] at hzq ⊢
                have hc2 := hzq.cell hlt
                clear hzq ha
                go_wp2
                go_quiet (fail)
                go_wp2
                · go_ret
                  exact ⟨ansIf_no, drew2 _ _ _⟩
                · have g2 : Z q k ≤ Z q (k + 1) := by assumption
                  go_roundw
                  case rel => exact ⟨k + 1, by omega, by go_num, all_succ hall (fun _ => g2), drew1 _ _⟩
                  case measure => simp [intOf]; omega
              · go_wp2
                go_ret
                exact ⟨ansIf_yes ⟨rfl, rfl, by omega, by omega, hall0.out, fun j hj => hall j (by simp at hj; omega) hj⟩, drew1 _ _⟩
      · have hp' : p < 0 ∨ (0 ≤ p ∧ (n0 : Int) ≤ p) := by omega
        clear hp
        subst e1 e2
        rcases hp' with hp | ⟨hp, hp1⟩
        · go_enter Try.func8, Try.ntmps8
          go_wp2
          go_ret
          exact ⟨ansIf_no, drew0 _⟩
        · go_enter Try.func8, Try.ntmps8
          go_wp2
          go_ret
          exact ⟨ansIf_no, drew0 _⟩
    · have e2' : ((n2 : Int) != (n0 : Int)) = true := ineT (by omega)
      subst e1
      go_enter Try.func8, Try.ntmps8
      go_wp2
      go_ret
      exact ⟨ansIf_no, drew0 _⟩
  · have e1' : ((n1 : Int) != (n0 : Int)) = true := ineT (by omega)
    go_enter Try.func8, Try.ntmps8
    go_wp2
    go_ret
    exact ⟨ansIf_no, drew0 _⟩
end Go.Proofs.Qxb6620996a
