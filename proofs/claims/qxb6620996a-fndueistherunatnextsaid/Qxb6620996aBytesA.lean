import Derived.Test.Qxb6620996aKit
namespace Go.Proofs.Qxb6620996a
open Go.RowKit
set_option linter.unusedVariables false

/-- Every row of the three is short. -/
def Short3 (n0 n1 n2 : Nat) (L0 L1 L2 : Nat → Nat) : Prop := (∀ r, r < n0 → L0 r ≤ 1048576) ∧ (∀ r, r < n1 → L1 r ≤ 1048576) ∧ (∀ r, r < n2 → L2 r ≤ 1048576)

set_option maxHeartbeats 1000000 in
theorem bytesDue (a0 a1 a2 : Option Addr) (n0 n1 n2 c0 c1 c2 : Nat) (p next : Int) (A0 A1 A2 : Nat → Option Addr) (L0 L1 L2 C0 C1 C2 : Nat → Nat) (w : World)
    (h0 : Sl w a0 n0 (fun r => .slice (A0 r) (L0 r) (C0 r))) (h1 : Sl w a1 n1 (fun r => .slice (A1 r) (L1 r) (C1 r))) (h2 : Sl w a2 n2 (fun r => .slice (A2 r) (L2 r) (C2 r)))
    (hn0 : n0 ≤ 9223372036854775807) (hn1 : n1 ≤ 9223372036854775807) (hn2 : n2 ≤ 9223372036854775807) (hL0 : ∀ r, r < n0 → L0 r ≤ 9223372036854775807) (hL1 : ∀ r, r < n1 → L1 r ≤ 9223372036854775807) (hL2 : ∀ r, r < n2 → L2 r ≤ 9223372036854775807) :
    Calls Try.prog 7 #[.slice a0 n0 c0, .slice a1 n1 c1, .slice a2 n2 c2, .int .i64 p, .int .i64 next] w fun e w' =>
      AnsIf (Short3 n0 n1 n2 L0 L1 L2) e ∧ w' = w := by
  by_cases hb0 : n0 ≤ 1048576
  · go_enter Try.func7, Try.ntmps7
    go_wp2
    go_loop [11, 12] (fun z i => ∃ k : Nat, ∃ q : Nat, k ≤ n0 ∧ i = .int .i64 k ∧ z = .int .i64 q ∧ q ≤ 1048576 ∧ ∀ r, r < k → L0 r ≤ 1048576) (fun _ i => n0 - (intOf i).toNat)
    case atStart => exact ⟨0, n0, Nat.zero_le _, rfl, rfl, hb0, fun r hr => absurd hr (by omega)⟩
    case round =>
      obtain ⟨k, q, hk, rfl, rfl, hq, hall⟩ := hrel
      by_cases hlt : k < n0
      · obtain ⟨b, off, rfl, hc⟩ := h0 k hlt
        have hLk := hL0 k hlt
        clear h0 h1 h2 hL0 hL1 hL2
        go_wp2
        · go_ret
          exact ⟨ansIf_no, rfl⟩
        · go_ret
          exact ⟨ansIf_no, rfl⟩
        · go_round
          case rel => exact ⟨k + 1, q + L0 k, by omega, by go_num, by go_num, by omega, all_succ hall (by omega)⟩
          case measure => simp [intOf]; omega
      · have hall0 : Hid (∀ r, r < n0 → L0 r ≤ 1048576) := fun r hr => hall r (by omega)
        clear h0 hL0 hall
        by_cases hb1 : n1 ≤ 1048576
        · by_cases hs1 : q + n1 ≤ 1048576
          · go_wp2
            go_loop [11, 13] (fun z i => ∃ k : Nat, ∃ q : Nat, k ≤ n1 ∧ i = .int .i64 k ∧ z = .int .i64 q ∧ q ≤ 1048576 ∧ ∀ r, r < k → L1 r ≤ 1048576) (fun _ i => n1 - (intOf i).toNat)
            case atStart => exact ⟨0, q + n1, Nat.zero_le _, rfl, by go_num, hs1, fun r hr => absurd hr (by omega)⟩
            case round =>
              clear hlt hs1 hq hk
              obtain ⟨k, q, hk, rfl, rfl, hq, hall⟩ := hrel
              by_cases hlt : k < n1
              · obtain ⟨b, off, rfl, hc⟩ := h1 k hlt
                have hLk := hL1 k hlt
                clear h1 h2 hL1 hL2
                go_wp2
                · go_ret
                  exact ⟨ansIf_no, rfl⟩
                · go_ret
                  exact ⟨ansIf_no, rfl⟩
                · go_round
                  case rel => exact ⟨k + 1, q + L1 k, by omega, by go_num, by go_num, by omega, all_succ hall (by omega)⟩
                  case measure => simp [intOf]; omega
              · have hall1 : Hid (∀ r, r < n1 → L1 r ≤ 1048576) := fun r hr => hall r (by omega)
                clear h1 hL1 hall
                by_cases hb2 : n2 ≤ 1048576
                · by_cases hs2 : q + n2 ≤ 1048576
                  · go_wp2
                    go_loop [11, 14] (fun z i => ∃ k : Nat, ∃ q : Nat, k ≤ n2 ∧ i = .int .i64 k ∧ z = .int .i64 q ∧ q ≤ 1048576 ∧ ∀ r, r < k → L2 r ≤ 1048576) (fun _ i => n2 - (intOf i).toNat)
                    case atStart => exact ⟨0, q + n2, Nat.zero_le _, rfl, by go_num, hs2, fun r hr => absurd hr (by omega)⟩
                    case round =>
                      clear hlt hs2 hq hk
                      obtain ⟨k, q, hk, rfl, rfl, hq, hall⟩ := hrel
                      by_cases hlt : k < n2
                      · obtain ⟨b, off, rfl, hc⟩ := h2 k hlt
                        have hLk := hL2 k hlt
                        clear h2 hL2
                        go_wp2
                        · go_ret
                          exact ⟨ansIf_no, rfl⟩
                        · go_ret
                          exact ⟨ansIf_no, rfl⟩
                        · go_round
                          case rel => exact ⟨k + 1, q + L2 k, by omega, by go_num, by go_num, by omega, all_succ hall (by omega)⟩
                          case measure => simp [intOf]; omega
                      · have hall2 : Hid (∀ r, r < n2 → L2 r ≤ 1048576) := fun r hr => hall r (by omega)
                        clear h2 hL2 hall
                        go_wp2
                        go_ret
                        exact ⟨ansIf_yes ⟨hall0.out, hall1.out, hall2.out⟩, rfl⟩
                  · go_wp2
                    go_ret
                    exact ⟨ansIf_no, rfl⟩
                · go_wp2
                  go_ret
                  exact ⟨ansIf_no, rfl⟩
          · go_wp2
            go_ret
            exact ⟨ansIf_no, rfl⟩
        · go_wp2
          go_ret
          exact ⟨ansIf_no, rfl⟩
  · go_enter Try.func7, Try.ntmps7
    go_wp2
    go_ret
    exact ⟨ansIf_no, rfl⟩
end Go.Proofs.Qxb6620996a
