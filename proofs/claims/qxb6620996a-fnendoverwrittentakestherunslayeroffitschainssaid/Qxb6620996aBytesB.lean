import Derived.Test.Qxb6620996aKit
namespace Go.Proofs.Qxb6620996a
open Go.RowKit
set_option linter.unusedVariables false

/-- The call hands back a bool. -/
def AnsB (e : Ending) : Prop := ∃ b, e = .returned (.bool b)

set_option maxHeartbeats 2000000 in
theorem bytesEnd (a0 a1 a2 a3 a4 a5 : Option Addr) (n0 n1 n2 n3 n4 n5 c0 c1 c2 c3 c4 c5 : Nat) (p : Int) (cm : Bool) (A1 A2 A3 : Nat → Option Addr) (L1 L2 L3 C1 C2 C3 : Nat → Nat) (w : World)
    (h1 : Sl w a1 n1 (fun r => .slice (A1 r) (L1 r) (C1 r))) (h2 : Sl w a2 n2 (fun r => .slice (A2 r) (L2 r) (C2 r))) (h3 : Sl w a3 n3 (fun r => .slice (A3 r) (L3 r) (C3 r)))
    (hn0 : n0 ≤ 9223372036854775807) (hn1 : n1 ≤ 9223372036854775807) (hn2 : n2 ≤ 9223372036854775807) (hn3 : n3 ≤ 9223372036854775807) (hn4 : n4 ≤ 9223372036854775807) (hn5 : n5 ≤ 9223372036854775807)
    (hL1 : ∀ r, r < n1 → L1 r ≤ 9223372036854775807) (hL2 : ∀ r, r < n2 → L2 r ≤ 9223372036854775807) (hL3 : ∀ r, r < n3 → L3 r ≤ 9223372036854775807) :
    Calls Try.prog 21 #[.slice a0 n0 c0, .slice a1 n1 c1, .slice a2 n2 c2, .slice a3 n3 c3, .slice a4 n4 c4, .slice a5 n5 c5, .int .i64 p, .bool cm] w fun e w' => AnsB e ∧ w' = w := by
  go_enter Try.func21, Try.ntmps21
  go_wp2
  all_goals first | (go_ret; exact ⟨⟨_, rfl⟩, rfl⟩) | skip
  go_loop [17, 18] (fun z i => ∃ k q : Nat, k ≤ n1 ∧ i = .int .i64 k ∧ z = .int .i64 q ∧ q ≤ 1048576) (fun _ i => n1 - (intOf i).toNat)
  case atStart => exact ⟨0, _, Nat.zero_le _, rfl, by go_num, by omega⟩
  case round =>
    obtain ⟨k, q, hk, rfl, rfl, hq⟩ := hrel
    by_cases hlt : k < n1
    · obtain ⟨b, off, ha, hc⟩ := h1 k hlt
      have hLk := hL1 k hlt
      subst ha
      go_wp2
      · go_ret
        exact ⟨⟨_, rfl⟩, rfl⟩
      · go_ret
        exact ⟨⟨_, rfl⟩, rfl⟩
      · go_round
        case rel => exact ⟨k + 1, _, by omega, by go_num, by go_num, by omega⟩
        case measure => simp [intOf]; omega
    · clear h1 hL1
      go_wp2
      all_goals first | (go_ret; exact ⟨⟨_, rfl⟩, rfl⟩) | skip
      clear hlt hk
      go_loop [17, 19] (fun z i => ∃ k q : Nat, k ≤ n2 ∧ i = .int .i64 k ∧ z = .int .i64 q ∧ q ≤ 1048576) (fun _ i => n2 - (intOf i).toNat)
      case atStart => exact ⟨0, _, Nat.zero_le _, rfl, by go_num, by omega⟩
      case round =>
        obtain ⟨k, q, hk, rfl, rfl, hq⟩ := hrel
        by_cases hlt : k < n2
        · obtain ⟨b, off, ha, hc⟩ := h2 k hlt
          have hLk := hL2 k hlt
          subst ha
          go_wp2
          · go_ret
            exact ⟨⟨_, rfl⟩, rfl⟩
          · go_ret
            exact ⟨⟨_, rfl⟩, rfl⟩
          · go_round
            case rel => exact ⟨k + 1, _, by omega, by go_num, by go_num, by omega⟩
            case measure => simp [intOf]; omega
        · clear h2 hL2
          go_wp2
          all_goals first | (go_ret; exact ⟨⟨_, rfl⟩, rfl⟩) | skip
          clear hlt hk
          go_loop [17, 20] (fun z i => ∃ k q : Nat, k ≤ n3 ∧ i = .int .i64 k ∧ z = .int .i64 q ∧ q ≤ 1048576) (fun _ i => n3 - (intOf i).toNat)
          case atStart => exact ⟨0, _, Nat.zero_le _, rfl, by go_num, by omega⟩
          case round =>
            obtain ⟨k, q, hk, rfl, rfl, hq⟩ := hrel
            by_cases hlt : k < n3
            · obtain ⟨b, off, ha, hc⟩ := h3 k hlt
              have hLk := hL3 k hlt
              subst ha
              go_wp2
              · go_ret
                exact ⟨⟨_, rfl⟩, rfl⟩
              · go_ret
                exact ⟨⟨_, rfl⟩, rfl⟩
              · go_round
                case rel => exact ⟨k + 1, _, by omega, by go_num, by go_num, by omega⟩
                case measure => simp [intOf]; omega
            · clear h3 hL3
              go_wp2
              all_goals first | (go_ret; exact ⟨⟨_, rfl⟩, rfl⟩) | skip
end Go.Proofs.Qxb6620996a
