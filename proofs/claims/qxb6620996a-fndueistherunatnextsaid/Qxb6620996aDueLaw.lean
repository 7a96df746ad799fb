import Derived.Test.Qxb6620996aZZDue
import Derived.Test.Qxb6620996aBytesA
import Derived.Test.Qxb6620996aPremA
import Derived.WalkSmall
namespace Go.Proofs.Qxb6620996a
open Go.RowKit Go.Deep
set_option linter.unusedVariables false

/-- What the law's walk is told of the three arguments. -/
structure DueArgs (w : World) (a0 a1 a2 : Option Addr) (n0 n1 n2 : Nat) (A0 A1 A2 : Nat → Option Addr) (L0 L1 L2 C0 C1 C2 : Nat → Nat) (Z X : Nat → Nat → Int) (E : Nat → Nat → Bool) : Prop where
  h0 : Sl w a0 n0 (fun r => .slice (A0 r) (L0 r) (C0 r))
  h1 : Sl w a1 n1 (fun r => .slice (A1 r) (L1 r) (C1 r))
  h2 : Sl w a2 n2 (fun r => .slice (A2 r) (L2 r) (C2 r))
  hz : ∀ r, r < n0 → Sl w (A0 r) (L0 r) (fun j => .int .i32 (Z r j))
  hx : ∀ r, r < n1 → Sl w (A1 r) (L1 r) (fun j => .int .i32 (X r j))
  he : ∀ r, r < n2 → Sl w (A2 r) (L2 r) (fun j => .bool (E r j))
  n0le : n0 ≤ 9223372036854775807
  n1le : n1 ≤ 9223372036854775807
  n2le : n2 ≤ 9223372036854775807
  L0le : ∀ r, r < n0 → L0 r ≤ 9223372036854775807
  L1le : ∀ r, r < n1 → L1 r ≤ 9223372036854775807
  L2le : ∀ r, r < n2 → L2 r ≤ 9223372036854775807
  zb : ∀ r j, -2147483648 ≤ Z r j ∧ Z r j ≤ 2147483647

theorem below_of_draw {w w' : World} {m : Nat} (h : Below (w.drewN m).heap.size (w.drewN m) w') : Below w.heap.size w w' :=
  ⟨h.os, h.tape, h.output, h.size, h.block⟩

set_option maxRecDepth 100000 in
set_option maxHeartbeats 2000000 in
theorem dueLaw (a0 a1 a2 : Option Addr) (n0 n1 n2 c0 c1 c2 : Nat) (p next : Int) (A0 A1 A2 : Nat → Option Addr) (L0 L1 L2 C0 C1 C2 : Nat → Nat) (Z X : Nat → Nat → Int) (E : Nat → Nat → Bool) (w : World)
    (D : DueArgs w a0 a1 a2 n0 n1 n2 A0 A1 A2 L0 L1 L2 C0 C1 C2 Z X E) :
    Calls Try.prog 3 #[.slice a0 n0 c0, .slice a1 n1 c1, .slice a2 n2 c2, .int .i64 p, .int .i64 next] w fun e w' => e = .returned (.bool true) ∧ Below w.heap.size w w' := by
  have n0le := D.n0le
  have n1le := D.n1le
  have n2le := D.n2le
  go_enter Try.func3, Try.ntmps3
  go_wp2_with fail
  refine (bytesDue a0 a1 a2 n0 n1 n2 c0 c1 c2 p next A0 A1 A2 L0 L1 L2 C0 C1 C2 w D.h0 D.h1 D.h2 D.n0le D.n1le D.n2le D.L0le D.L1le D.L2le).mono ?_
  rintro e w' ⟨⟨b, rfl, hb⟩, hw⟩
  subst hw
  cases b with
  | false =>
    go_wp2
    go_ret
    exact ⟨rfl, Below.refl _ _⟩
  | true =>
    obtain ⟨s0, s1, s2⟩ := hb rfl
    clear hb
    by_cases b0 : n0 ≤ 4096
    · by_cases b1 : n1 ≤ 4096
      · by_cases b2 : n2 ≤ 4096
        · go_wp2
          go_loop [11, 12] (fun z i => ∃ k q : Nat, k ≤ n0 ∧ i = .int .i64 k ∧ z = .int .i64 q ∧ q ≤ 1048576) (fun _ i => n0 - (intOf i).toNat)
          case atStart => exact ⟨0, 24 * (n0 + n1 + n2), Nat.zero_le _, rfl, by go_num, by omega⟩
          case round =>
            obtain ⟨k, q, hk, rfl, rfl, hq⟩ := hrel
            by_cases hlt : k < n0
            · obtain ⟨b, off, ha, hc⟩ := D.h0 k hlt
              have hLk := s0 k hlt
              subst ha
              go_wp2
              · go_ret
                exact ⟨rfl, Below.refl _ _⟩
              · go_round
                case rel => exact ⟨k + 1, q + 4 * L0 k, by omega, by go_num, by go_num, by omega⟩
                case measure => simp [intOf]; omega
            · go_wp2
              clear hlt hk
              go_loop [11, 13] (fun z i => ∃ k q : Nat, k ≤ n1 ∧ i = .int .i64 k ∧ z = .int .i64 q ∧ q ≤ 1048576) (fun _ i => n1 - (intOf i).toNat)
              case atStart => exact ⟨0, q, Nat.zero_le _, rfl, by go_num, by omega⟩
              case round =>
                obtain ⟨k, q, hk, rfl, rfl, hq⟩ := hrel
                by_cases hlt : k < n1
                · obtain ⟨b, off, ha, hc⟩ := D.h1 k hlt
                  have hLk := s1 k hlt
                  subst ha
                  go_wp2
                  · go_ret
                    exact ⟨rfl, Below.refl _ _⟩
                  · go_round
                    case rel => exact ⟨k + 1, q + 4 * L1 k, by omega, by go_num, by go_num, by omega⟩
                    case measure => simp [intOf]; omega
                · go_wp2
                  clear hlt hk
                  go_loop [11, 14] (fun z i => ∃ k q : Nat, k ≤ n2 ∧ i = .int .i64 k ∧ z = .int .i64 q ∧ q ≤ 1048576) (fun _ i => n2 - (intOf i).toNat)
                  case atStart => exact ⟨0, q, Nat.zero_le _, rfl, by go_num, by omega⟩
                  case round =>
                    obtain ⟨k, q, hk, rfl, rfl, hq⟩ := hrel
                    by_cases hlt : k < n2
                    · obtain ⟨b, off, ha, hc⟩ := D.h2 k hlt
                      have hLk := s2 k hlt
                      subst ha
                      go_wp2
                      · go_ret
                        exact ⟨rfl, Below.refl _ _⟩
                      · go_round
                        case rel => exact ⟨k + 1, q + L2 k, by omega, by go_num, by go_num, by omega⟩
                        case measure => simp [intOf]; omega
                    · go_wp2_with fail
                      clear hlt hk
                      refine (premDue a0 a1 a2 n0 n1 n2 c0 c1 c2 p A0 A1 A2 L0 L1 L2 C0 C1 C2 Z _ D.h0 D.h1 D.h2 D.hz D.n0le D.n1le D.n2le D.L0le).mono ?_
                      rintro e w1 ⟨⟨b, rfl, hb⟩, m1, rfl⟩
                      cases b with
                      | false =>
                        go_wp2
                        go_ret
                        exact ⟨rfl, below_drewN (Below.refl _ _) _⟩
                      | true =>
                        obtain ⟨e1, e2, hp0, hp1, hrows, hsort⟩ := hb rfl
                        clear hb
                        subst e1 e2
                        obtain ⟨p', rfl⟩ : ∃ p' : Nat, p = p' := ⟨p.toNat, by omega⟩
                        simp only [Int.toNat_natCast] at hsort
                        go_wp2_with fail
                        refine (zzdue_any a0 a1 a2 n2 c0 c1 c2 p' next A0 A1 A2 L0 C0 C1 C2 Z X E _ (D.h0.drewN m1) ((D.h1.congr (fun r hr => by rw [(hrows r hr).1])).drewN m1) ((D.h2.congr (fun r hr => by rw [(hrows r hr).2])).drewN m1)
                          (fun r hr => (D.hz r hr).drewN m1) (fun r hr => by have := (D.hx r hr).drewN m1; rwa [(hrows r hr).1] at this) (fun r hr => by have := (D.he r hr).drewN m1; rwa [(hrows r hr).2] at this)
                          (by omega) (fun r hr => s0 r hr) (by omega) hsort (D.zb p')).mono ?_
                        rintro e w2 ⟨⟨f, t, g0, g1, g2, m, hrun, hm, rfl, r0, r1, r2⟩, hb⟩
                        have hb2 := below_of_draw hb
                        obtain ⟨b0, o0, ha0, hc0⟩ := D.h0 p' (by omega)
                        obtain ⟨b1, o1, ha1, hc1⟩ := D.h1 p' (by omega)
                        obtain ⟨b2, o2, ha2, hc2⟩ := D.h2 p' (by omega)
                        have hz := (D.hz p' (by omega)).below hb2 (Nat.le_refl _)
                        have hx := (D.hx p' (by omega)).below hb2 (Nat.le_refl _)
                        have he := (D.he p' (by omega)).below hb2 (Nat.le_refl _)
                        simp only at hc0 hc1 hc2
                        rw [(hrows p' (by omega)).1] at hx hc1
                        rw [(hrows p' (by omega)).2] at he hc2
                        have hLp := s0 p' (by omega)
                        have hzb : Hid (∀ j, -2147483648 ≤ Z p' j ∧ Z p' j ≤ 2147483647) := D.zb p'
                        replace hc0 := (hb2.cell (p := ⟨b0, o0 + p', none⟩) (block_lt_of_cell hc0)).trans hc0
                        replace hc1 := (hb2.cell (p := ⟨b1, o1 + p', none⟩) (block_lt_of_cell hc1)).trans hc1
                        replace hc2 := (hb2.cell (p := ⟨b2, o2 + p', none⟩) (block_lt_of_cell hc2)).trans hc2
                        clear hrows hsort D hb
                        subst ha0 ha1 ha2
                        generalize A0 p' = x0 at *
                        generalize A1 p' = x1 at *
                        generalize A2 p' = x2 at *
                        generalize L0 p' = l at *
                        have hm' : Hid (m = t - f) := hm
                        have hml : m ≤ 1048576 := by have := hrun.2.1; omega
                        clear hm
                        clear s0 s1 s2
                        go_wp2
                        clear hc0
                        go_loopw [19, 20] (fun cv iv wr => ∃ j c : Nat, j ≤ l ∧ iv = .int .i64 j ∧ cv = .int .i64 c ∧ c + min j f = min j t ∧ ∃ mm, wr = w2.drewN mm) (fun _ iv _ => l - (intOf iv).toNat)
                        case atStart => exact ⟨0, 0, Nat.zero_le _, rfl, rfl, by simp, 0, rfl⟩
                        case round =>
                          obtain ⟨j, c, hj, rfl, rfl, hcf, mm, rfl⟩ := hrel
                          have hft := hrun.1
                          have htl := hrun.2.1
                          have hcf' : Hid (c + min j f = min j t) := hcf
                          clear hcf
                          by_cases hjl : j < l
                          · have hiff := hrun.2.2 j hjl
                            obtain ⟨ba, oa, hxa, hza⟩ := hz j hjl
                            have hb0 := hzb.out j
                            subst hxa
                            by_cases hnx : Z p' j = next
                            · obtain ⟨hfj, hjt⟩ := hiff.2 hnx
                              obtain ⟨c', rfl⟩ : ∃ c', j = f + c' := ⟨j - f, by omega⟩
                              obtain rfl : c = c' := by have := hcf'.out; omega
                              have hcm : c < m := by have := hm'.out; omega
                              obtain ⟨bx, ox, hxx, hxa⟩ := hx (f + c) hjl
                              obtain ⟨be, oe, hee, hea⟩ := he (f + c) hjl
                              have t0 := r0.cell hcm
                              have t1 := r1.cell hcm
                              have t2 := r2.cell hcm
                              subst hxx hee
                              have hrun' : Hid (IsRun l (Z p') next f t) := hrun
                              have hz' : Hid (Sl w2 (some ⟨ba, oa, none⟩) l (fun j => .int .i32 (Z p' j))) := hz
                              subst hnx
                              clear hrun hiff hz hx he hfj
                              go_wp2
                              go_quiet (fail)
                              go_wp2
                              go_roundw
                              case rel => exact ⟨f + c + 1, c + 1, by omega, by go_num, by go_num, by omega, drew1 _ _⟩
                              case measure => simp [intOf]; omega
                            · have hnx' : (Z p' j == next) = false := ieqF hnx
                              have hrun' : Hid (IsRun l (Z p') next f t) := hrun
                              have hc' : Hid (c + min (j + 1) f = min (j + 1) t) := by
                                have h1 := hcf'.out
                                have h2 : ¬ (f ≤ j ∧ j < t) := fun h => hnx (hiff.1 h)
                                show c + min (j + 1) f = min (j + 1) t
                                omega
                              clear hnx hrun hiff hz hx he
                              go_wp2
                              go_roundw
                              case rel => exact ⟨j + 1, c, by omega, by go_num, rfl, hc'.out, drew1 _ _⟩
                              case measure => simp [intOf]; omega
                          · have hcm : c = m := by
                              have := hcf'.out; have := hm'.out; omega
                            subst hcm
                            clear hz hx he hrun
                            go_wp2
                            go_ret
                            exact ⟨rfl, below_drewN hb2 _⟩
        · go_wp2
          go_ret
          exact ⟨rfl, Below.refl _ _⟩
      · go_wp2
        go_ret
        exact ⟨rfl, Below.refl _ _⟩
    · go_wp2
      go_ret
      exact ⟨rfl, Below.refl _ _⟩
end Go.Proofs.Qxb6620996a
