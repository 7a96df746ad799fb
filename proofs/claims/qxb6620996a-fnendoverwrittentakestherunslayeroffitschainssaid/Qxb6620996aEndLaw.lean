import Derived.Test.Qxb6620996aSettle
import Derived.Test.Qxb6620996aZZEndW
import Derived.Test.Qxb6620996aPremB
import Derived.Test.Qxb6620996aBytesB
import Derived.WalkSmall
import Derived.Deep.RegionWith
namespace Go.Proofs.Qxb6620996a
open Go.RowKit Go.Deep
set_option linter.unusedVariables false

set_option maxRecDepth 100000 in
set_option maxHeartbeats 8000000 in
theorem endLaw (a0 a1 a2 a3 a4 a5 : Option Addr) (n0 n1 n2 n3 n4 n5 c0 c1 c2 c3 c4 c5 : Nat) (p : Int) (cm : Bool) (A1 A2 A3 : Nat → Option Addr) (L1 L2 L3 C1 C2 C3 : Nat → Nat) (V : Nat → Int) (UX UU UV : Nat → Nat → Int) (Wt En : Nat → Int) (w : World)
    (A : EndArgs w a0 a1 a2 a3 a4 a5 n0 n1 n2 n3 n4 n5 A1 A2 A3 L1 L2 L3 C1 C2 C3 V UX UU UV Wt En)
    (hn0 : n0 ≤ 9223372036854775807) (hn1 : n1 ≤ 9223372036854775807) (hn2 : n2 ≤ 9223372036854775807) (hn3 : n3 ≤ 9223372036854775807) (hn4 : n4 ≤ 9223372036854775807) (hn5 : n5 ≤ 9223372036854775807)
    (hL1 : ∀ r, r < n1 → L1 r ≤ 9223372036854775807) (hL2 : ∀ r, r < n2 → L2 r ≤ 9223372036854775807) (hL3 : ∀ r, r < n3 → L3 r ≤ 9223372036854775807) :
    Calls Try.prog 6 #[.slice a0 n0 c0, .slice a1 n1 c1, .slice a2 n2 c2, .slice a3 n3 c3, .slice a4 n4 c4, .slice a5 n5 c5, .int .i64 p, .bool cm] w fun e w' => e = .returned (.bool true) ∧ Below w.heap.size w w' := by
  go_enter Try.func6, Try.ntmps6
  go_wp2_with fail
  refine (bytesEnd a0 a1 a2 a3 a4 a5 n0 n1 n2 n3 n4 n5 c0 c1 c2 c3 c4 c5 p cm A1 A2 A3 L1 L2 L3 C1 C2 C3 w A.h1 A.h2 A.h3 hn0 hn1 hn2 hn3 hn4 hn5 hL1 hL2 hL3).mono ?_
  rintro e w' ⟨⟨b, rfl⟩, hw⟩
  subst hw
  cases b with
  | false =>
    go_wp2
    go_ret
    exact ⟨rfl, Below.refl _ _⟩
  | true =>
    by_cases bn0 : n0 ≤ 4096
    · by_cases bn4 : n4 ≤ 4096
      · by_cases bn5 : n5 ≤ 256
        · by_cases bn1 : n1 ≤ 256
          · by_cases bn2 : n2 ≤ 256
            · by_cases bn3 : n3 ≤ 256
              · go_wp2
                go_loop [17, 18] (fun z i => ∃ k q : Nat, k ≤ n1 ∧ i = .int .i64 k ∧ z = .int .i64 q ∧ q ≤ 1048576 ∧ ∀ r, r < k → L1 r ≤ 256) (fun _ i => n1 - (intOf i).toNat)
                case atStart => exact ⟨0, 8 * n0 + 4 * n4 + 8 * n5 + 24 * (n1 + n2 + n3), Nat.zero_le _, rfl, by go_num, by omega, fun r hr => absurd hr (by omega)⟩
                case round =>
                  obtain ⟨k, q, hk, rfl, rfl, hq, hall⟩ := hrel
                  by_cases hlt : k < n1
                  · obtain ⟨b, off, ha, hc⟩ := A.h1 k hlt
                    have hLk := hL1 k hlt
                    have hall' : Hid (∀ r, r < k → L1 r ≤ 256) := hall
                    clear hall
                    subst ha
                    go_wp2
                    · go_ret
                      exact ⟨rfl, Below.refl _ _⟩
                    · go_ret
                      exact ⟨rfl, Below.refl _ _⟩
                    · go_round
                      case rel => exact ⟨k + 1, q + 4 * L1 k, by omega, by go_num, by go_num, by omega, all_succ hall'.out (by omega)⟩
                      case measure => simp [intOf]; omega
                  · have HL1 : Hid (∀ r, r < n1 → L1 r ≤ 256) := fun r hr => hall r (by omega)
                    clear hall
                    go_wp2
                    clear hlt hk
                    go_loop [17, 19] (fun z i => ∃ k q : Nat, k ≤ n2 ∧ i = .int .i64 k ∧ z = .int .i64 q ∧ q ≤ 1048576 ∧ ∀ r, r < k → L2 r ≤ 256) (fun _ i => n2 - (intOf i).toNat)
                    case atStart => exact ⟨0, q, Nat.zero_le _, rfl, by go_num, by omega, fun r hr => absurd hr (by omega)⟩
                    case round =>
                      obtain ⟨k, q, hk, rfl, rfl, hq, hall⟩ := hrel
                      by_cases hlt : k < n2
                      · obtain ⟨b, off, ha, hc⟩ := A.h2 k hlt
                        have hLk := hL2 k hlt
                        have hall' : Hid (∀ r, r < k → L2 r ≤ 256) := hall
                        clear hall
                        subst ha
                        go_wp2
                        · go_ret
                          exact ⟨rfl, Below.refl _ _⟩
                        · go_ret
                          exact ⟨rfl, Below.refl _ _⟩
                        · go_round
                          case rel => exact ⟨k + 1, q + 4 * L2 k, by omega, by go_num, by go_num, by omega, all_succ hall'.out (by omega)⟩
                          case measure => simp [intOf]; omega
                      · have HL2 : Hid (∀ r, r < n2 → L2 r ≤ 256) := fun r hr => hall r (by omega)
                        clear hall
                        go_wp2
                        clear hlt hk
                        go_loop [17, 20] (fun z i => ∃ k q : Nat, k ≤ n3 ∧ i = .int .i64 k ∧ z = .int .i64 q ∧ q ≤ 1048576 ∧ ∀ r, r < k → L3 r ≤ 256) (fun _ i => n3 - (intOf i).toNat)
                        case atStart => exact ⟨0, q, Nat.zero_le _, rfl, by go_num, by omega, fun r hr => absurd hr (by omega)⟩
                        case round =>
                          obtain ⟨k, q, hk, rfl, rfl, hq, hall⟩ := hrel
                          by_cases hlt : k < n3
                          · obtain ⟨b, off, ha, hc⟩ := A.h3 k hlt
                            have hLk := hL3 k hlt
                            have hall' : Hid (∀ r, r < k → L3 r ≤ 256) := hall
                            clear hall
                            subst ha
                            go_wp2
                            · go_ret
                              exact ⟨rfl, Below.refl _ _⟩
                            · go_ret
                              exact ⟨rfl, Below.refl _ _⟩
                            · go_round
                              case rel => exact ⟨k + 1, q + 8 * L3 k, by omega, by go_num, by go_num, by omega, all_succ hall'.out (by omega)⟩
                              case measure => simp [intOf]; omega
                          · have HL3 : Hid (∀ r, r < n3 → L3 r ≤ 256) := fun r hr => hall r (by omega)
                            clear hall
                            go_wp2_with fail
                            clear hlt hk
                            refine (premEnd a0 a1 a2 a3 a4 a5 n0 n1 n2 n3 n4 n5 c0 c1 c2 c3 c4 c5 p cm A1 A2 A3 L1 L2 L3 C1 C2 C3 V UX UU UV Wt En _ A bn0 bn1 bn2 bn3 bn4 bn5 HL1.out).mono ?_
                            rintro e w1 ⟨⟨b, rfl, hb⟩, mm, rfl⟩
                            cases b with
                            | false =>
                              go_wp2
                              go_ret
                              exact ⟨rfl, below_drewN (Below.refl _ _) _⟩
                            | true =>
                              obtain ⟨e2, e3, e5, e4, hp0, hrows, hfit⟩ := hb rfl
                              clear hb
                              subst e2 e3 e5 e4
                              obtain ⟨D, hD⟩ : ∃ D, D = mkD n4 n5 p.toNat L1 V UX UU UV Wt cm := ⟨_, rfl⟩
                              rw [← hD] at hfit
                              have k1 : n4 = D.m := by rw [hD]; rfl
                              have k2 : n5 = D.nr := by rw [hD]; rfl
                              have k3 : p = (D.p : Int) := by rw [hD]; show p = ((p.toNat : Nat) : Int); omega
                              have k4 : cm = D.com := by rw [hD]; rfl
                              have k5 : L1 = D.L := by rw [hD]; rfl
                              have k6 : V = D.V := by rw [hD]; rfl
                              have k7 : UX = D.UX := by rw [hD]; rfl
                              have k8 : UU = D.UU := by rw [hD]; rfl
                              have k9 : UV = D.UV := by rw [hD]; rfl
                              have k10 : Wt = D.Wt := by rw [hD]; rfl
                              clear hD
                              subst k1 k2 k3 k4 k5 k6 k7 k8 k9 k10
                              have SA : SArgs w' a0 a1 a2 a3 a4 A1 A2 A3 C1 C2 C3 D :=
                                ⟨A.h0, A.h1, A.h2.congr (fun r hr => by rw [(hrows r hr).1]), A.h3.congr (fun r hr => by rw [(hrows r hr).2]), A.h4, A.hx,
                                  fun r hr => by have := A.hu r hr; rwa [(hrows r hr).1] at this, fun r hr => by have := A.hv r hr; rwa [(hrows r hr).2] at this⟩
                              have h5 := A.h5
                              have hLr := HL1.out
                              have HLr : Hid (∀ r, r < D.nr → D.L r ≤ 256) := HL1
                              have hpn := hfit.1
                              clear A HL1 HL2 HL3 hL1 hL2 hL3 hrows hp0
                              have Hfit : Hid D.Fit := hfit
                              have hm : D.m ≤ 4096 := bn0
                              have hnr : D.nr ≤ 256 := bn1
                              clear hfit bn0 bn1 bn2 bn3 bn4 bn5 hn0 hn1 hn2 hn3 hn4 hn5
                              go_wp2_with fail
                              refine (cloneI64_any a0 D.m c0 D.V _ (SA.h0.drewN mm) (by omega)).mono ?_
                              rintro e w1 ⟨⟨av, cv, rfl, hcv⟩, hb1⟩
                              have hcv' : 0 < D.m → av = some ⟨w'.heap.size, 0, none⟩ ∧ w1.rowIs w'.heap.size 2 D.m (fun j => .int .i64 (D.V j)) := hcv
                              have hb1' : Below w'.heap.size w' w1 := ⟨hb1.os, hb1.tape, hb1.output, hb1.size, hb1.block⟩
                              clear hcv hb1
                              go_wp2_with fail
                              refine (cloneI32_any a4 D.m c4 D.Wt _ (SA.h4.below hb1' (Nat.le_refl _)) (by omega)).mono ?_
                              rintro e w2 ⟨⟨aw, cw, rfl, hcw⟩, hb2⟩
                              have hb2' := hb1'.trans (hb2.mono hb1'.size)
                              go_wp2_with fail
                              refine (cloneI64_any a5 D.nr c5 En _ (h5.below hb2' (Nat.le_refl _)) (by omega)).mono ?_
                              rintro e w3 ⟨⟨ae, ce, rfl, hce⟩, hb3⟩
                              have hb3' := hb2'.trans (hb3.mono hb2'.size)
                              have SA3 := SA.below hb3' (Nat.le_refl _)
                              have s1 := hb1'.size
                              have s2 := hb2.size
                              have s3 := hb3.size
                              go_wp2_with fail
                              refine (zzEnd_any a1 a2 a3 c1 c2 c3 w'.heap.size w1.heap.size w2.heap.size av aw ae cv cw ce A1 A2 A3 C1 C2 C3 D En w3 w'.heap.size SA3.h1 SA3.h2 SA3.h3 SA3.hx SA3.hu SA3.hv
                                (fun h => ⟨(hcv' h).1, ((hcv' h).2.of_block (hb2.block _ (hcv' h).2.lt)).of_block (hb3.block _ (by have := (hcv' h).2.lt; omega))⟩) (fun h => ⟨(hcw h).1, (hcw h).2.of_block (hb3.block _ (hcw h).2.lt)⟩) hce
                                ⟨fun h => by have h1 := (hcv' h).2.lt; have h2 := (hcw h).2.lt; exact ⟨by omega, by omega, by omega, by omega, by omega⟩, (hce (by omega)).2.lt⟩ ⟨fun h => ⟨by omega, by omega⟩, by omega⟩ Hfit.out hm hnr HLr.out).mono ?_
                              rintro e w4 ⟨⟨G, R, S, bU, rfl, hC, hD⟩, hb4⟩
                              have hb4' := hb3'.trans hb4
                              have SA4 := SA.below hb4' (Nat.le_refl _)
                              have h54 := h5.below hb4' (Nat.le_refl _)
                              clear hcv' hcw hce hb1' hb2 hb2' hb3 hb3' SA3 hb4 s1 s2 s3 h5
                              go_wp2_with fail
                              refine (cloneI64_any a0 D.m c0 D.V _ SA4.h0 (by omega)).mono ?_
                              rintro e w5 ⟨⟨aV, cV, rfl, hcV⟩, hb5⟩
                              go_wp2_with fail
                              refine (cloneI32_any a4 D.m c4 D.Wt _ (SA4.h4.below hb5 (Nat.le_refl _)) (by omega)).mono ?_
                              rintro e w6 ⟨⟨aW, cW, rfl, hcW⟩, hb6⟩
                              have hb6' := hb5.trans (hb6.mono hb5.size)
                              go_wp2_with fail
                              refine (cloneI64_any a5 D.nr c5 En _ (h54.below hb6' (Nat.le_refl _)) (by omega)).mono ?_
                              rintro e w7 ⟨⟨aE, cE, rfl, hcE⟩, hb7⟩
                              have hb7' := hb6'.trans (hb7.mono hb6'.size)
                              have SA7 := SA4.below hb7' (Nat.le_refl _)
                              go_wp2_with fail
                              refine (clone2I32_any a2 D.nr c2 A2 D.L C2 D.UU _ SA7.h2 SA7.hu (by omega) (fun r hr => by have := HLr.out r hr; omega)).mono ?_
                              rintro e w8 ⟨⟨aU, cU, rfl, hcU⟩, hb8⟩
                              have hb8' := hb7'.trans (hb8.mono hb7'.size)
                              have SA8 := SA4.below hb8' (Nat.le_refl _)
                              go_wp2_with fail
                              refine (clone2I64_any a3 D.nr c3 A3 D.L C3 D.UV _ SA8.h3 SA8.hv (by omega) (fun r hr => by have := HLr.out r hr; omega)).mono ?_
                              rintro e w9 ⟨⟨aQ, cQ, rfl, hcQ⟩, hb9⟩
                              have hb9' := hb8'.trans (hb9.mono hb8'.size)
                              obtain ⟨rfl, AU, CU, GU, hRU⟩ := hcU (by omega)
                              obtain ⟨rfl, AV, CV, GV, hRV⟩ := hcQ (by omega)
                              obtain ⟨rfl, hE7⟩ := hcE (by omega)
                              have z5 := hb5.size
                              have z6 := hb6.size
                              have z7 := hb7.size
                              have z8 := hb8.size
                              have z9 := hb9.size
                              have hM0 : Mod w9 w4.heap.size w5.heap.size w6.heap.size En w7.heap.size w8.heap.size aV aW cV cW AU CU GU AV CV GV D (D.FV (D.NM 0)) (D.FW (D.NM 0)) (D.FU (D.NM 0)) (D.FQ (D.NM 0)) := by
                                have hnone := fun x => ED.NM_zero (D := D) x
                                refine ⟨fun h => ⟨(hcV h).1, ?_⟩, fun h => ⟨(hcW h).1, ?_⟩, ?_, ?_, fun h => ?_, fun r hr hl => ?_, ?_, ?_, ?_⟩
                                · have l5 := (hcV h).2.lt
                                  exact (((((hcV h).2.of_block (hb6.block _ l5)).of_block (hb7.block _ (by omega))).of_block (hb8.block _ (by omega))).of_block (hb9.block _ (by omega))).congr (fun i _ => by rw [ED.none_V hnone])
                                · have l6 := (hcW h).2.lt
                                  exact ((((hcW h).2.of_block (hb7.block _ l6)).of_block (hb8.block _ (by omega))).of_block (hb9.block _ (by omega))).congr (fun i _ => by rw [ED.none_W hnone])
                                · exact (hRU.of_below hb9).congr (fun r j => by rw [ED.none_U hnone])
                                · exact hRV.congr (fun r j => by rw [ED.none_Q hnone])
                                · have l5 := (hcV h).2.lt
                                  have l6 := (hcW h).2.lt
                                  omega
                                · exact (hRU.row r hr hl).2.2.lt
                                · exact hRU.top.lt
                                · have l7 := hE7.lt
                                  exact (hE7.of_block (hb8.block _ l7)).of_block (hb9.block _ (by omega))
                                · have l7 := hE7.lt
                                  exact ⟨by omega, fun h => by have l6 := (hcW h).2.lt; omega⟩
                              have h59 := h54.below hb9' (Nat.le_refl _)
                              have SA9 := SA4.below hb9' (Nat.le_refl _)
                              have hD9 := hD.below hb9'
                              have hC9 := hC.of_below hb9'
                              have hS46 : w4.heap.size ≤ w6.heap.size := by omega
                              clear hcV hcW hcE hcU hcQ hRU hRV hE7 hb5 hb6 hb6' hb7 hb7' hb8 hb8' hb9 SA7 SA8 z5 z6 z7 z8 z9 SA
                              obtain ⟨b1, o1, ha1, hcx1⟩ := SA9.h1 _ hpn
                              clear hcx1
                              subst ha1
                              have d1 : w9.cell? ⟨b1, o1 + D.p, none⟩ = some (.slice (A1 D.p) (D.L D.p) (C1 D.p)) := SA9.h1.cell hpn
                              have hxp := SA4.hx _ hpn
                              generalize hA1 : A1 D.p = x1 at d1 hxp
                              have HA1 : Hid (A1 D.p = x1) := hA1
                              clear hA1
                              go_wp2
                              clear d1 SA9 h59 hD9 hC9
                              go_loopw [36] (fun s36 wr => ∃ j : Nat, j ≤ D.L D.p ∧ s36 = .int .i64 j ∧ Mod wr w4.heap.size w5.heap.size w6.heap.size En w7.heap.size w8.heap.size aV aW cV cW AU CU GU AV CV GV D (D.FV (D.NM j)) (D.FW (D.NM j)) (D.FU (D.NM j)) (D.FQ (D.NM j)) ∧ Below w4.heap.size w4 wr) (fun s36 _ => D.L D.p - (intOf s36).toNat)
                              case atStart => exact ⟨0, Nat.zero_le _, rfl, hM0, hb9'⟩
                              case round =>
                                clear hM0 hb9'
                                obtain ⟨j, hj, rfl, hM, hbr⟩ := hrel
                                have hLp := HLr.out _ hpn
                                by_cases hjl : j < D.L D.p
                                · obtain ⟨bx, ox, hax, hcx4⟩ := hxp j hjl
                                  subst hax
                                  have hxr := hxp.below hbr (Nat.le_refl _)
                                  have hcx : wr.cell? ⟨bx, ox + j, none⟩ = some (.int .i32 (D.UX D.p j)) := hxr.cell hjl
                                  have hg : D.g D.p (D.UX D.p j) ≤ j := fi_lt hjl
                                  obtain ⟨q1, q2, q3, q4⟩ := Hfit.out.2 j hjl
                                  have Q4 : Hid (D.Good (D.UX D.p j)) := q4
                                  clear hcx4 hxp q3 q4
                                  go_wp2_with fail
                                  refine (firstOf_any _ _ _ (D.UX D.p j) (D.UX D.p) _ hxr (by omega)).mono ?_
                                  rintro e wz ⟨⟨v, rfl, hv1, _⟩, hw⟩
                                  subst hw
                                  have hv : v = (D.g D.p (D.UX D.p j) : Nat) := hv1 (by show D.g D.p (D.UX D.p j) < D.L D.p; omega)
                                  clear hv1 hxr
                                  by_cases hgj : D.g D.p (D.UX D.p j) = j
                                  · rw [hgj] at hv
                                    subst hv
                                    have hset := settle_any a0 (some ⟨b1, o1, none⟩) a2 a3 a4 c0 c1 c2 c3 c4 cU cQ A1 A2 A3 C1 C2 C3 D (D.NM j) (D.UX D.p j) j w4.heap.size w5.heap.size w6.heap.size w7.heap.size w8.heap.size En aV aW cV cW AU CU GU AV CV GV w4 wz w4.heap.size
                                      SA4 (Nat.le_refl _) hbr (Nat.le_refl _) hM hjl hpn q1 q2 Q4.out (ED.NM_fresh hgj) hm hnr HLr.out
                                    rw [← ED.NM_hit hjl hgj] at hset
                                    have Hset : Hid _ := hset
                                    have HM := hbr
                                    clear hset hM hg hgj
                                    go_wp2_with fail
                                    refine Calls.mono Hset.out ?_
                                    rintro e w10 ⟨rfl, hM2, hb2⟩
                                    have hbr2 := hbr.trans hb2
                                    clear hcx Hset hb2
                                    go_wp2
                                    go_roundw
                                    case rel => exact ⟨j + 1, by omega, by go_num, hM2, hbr2⟩
                                    case measure => simp [intOf]; omega
                                  · have hne : (v == (j : Int)) = false := ieqF (by omega)
                                    rw [← ED.NM_miss hjl hgj] at hM
                                    clear hv hg hgj
                                    go_wp2
                                    go_roundw
                                    case rel => exact ⟨j + 1, by omega, by go_num, hM, hbr⟩
                                    case measure => simp [intOf]; omega
                                · have hjl2 : j = D.L D.p := by omega
                                  subst hjl2
                                  rw [ED.NM_end] at hM
                                  have h5r := h54.below hbr (Nat.le_refl _)
                                  obtain ⟨b5, o5, ha5, hc5⟩ := h5r D.p hpn
                                  subst ha5
                                  have ce1 := hM.ext.cell hpn
                                  have fe1 := hM.ext.frozen D.p
                                  have hb11 : Below w4.heap.size w4 (wr.setCell ⟨w6.heap.size, D.p, none⟩ (.int .i64 (wrap64 (En D.p + 1)))) := hbr.setCell (by simp; exact hS46) _
                                  have hD11 := hD.below hb11
                                  have hC11 := hC.of_below hb11
                                  have SA11 := SA4.below hb11 (Nat.le_refl _)
                                  have o1' := hM.o1
                                  have oE := hM.oE
                                  have o4' := hM.o4
                                  have S1 : Sl (wr.setCell ⟨w6.heap.size, D.p, none⟩ (.int .i64 (wrap64 (En D.p + 1)))) av D.m (fun i => .int .i64 (D.FV (D.g D.p) i)) := fun i hi => by
                                    obtain ⟨rfl, hr⟩ := hD11.vals (by omega)
                                    exact sl_of_row hr i hi
                                  have S2 : Sl (wr.setCell ⟨w6.heap.size, D.p, none⟩ (.int .i64 (wrap64 (En D.p + 1)))) aV D.m (fun i => .int .i64 (D.FV (D.g D.p) i)) := fun i hi => by
                                    obtain ⟨rfl, hr⟩ := hM.vals (by omega)
                                    exact sl_of_row (hr.setOther (by have := o1' (by omega); have := oE.2 (by omega); simp; omega) _) i hi
                                  have S3 : Sl (wr.setCell ⟨w6.heap.size, D.p, none⟩ (.int .i64 (wrap64 (En D.p + 1)))) aw D.m (fun i => .int .i32 (D.FW (D.g D.p) i)) := fun i hi => by
                                    obtain ⟨rfl, hr⟩ := hD11.wris (by omega)
                                    exact sl_of_row hr i hi
                                  have S4 : Sl (wr.setCell ⟨w6.heap.size, D.p, none⟩ (.int .i64 (wrap64 (En D.p + 1)))) aW D.m (fun i => .int .i32 (D.FW (D.g D.p) i)) := fun i hi => by
                                    obtain ⟨rfl, hr⟩ := hM.wris (by omega)
                                    exact sl_of_row (hr.setOther (by have := oE.2 (by omega); simp; omega) _) i hi
                                  have S5 : Sl (wr.setCell ⟨w6.heap.size, D.p, none⟩ (.int .i64 (wrap64 (En D.p + 1)))) ae D.nr (fun i => .int .i64 (if i = D.p then wrap64 (En D.p + 1) else En i)) := fun i hi => by
                                    obtain ⟨rfl, hr⟩ := hD11.ends (by omega)
                                    exact sl_of_row hr i hi
                                  have S6 : Sl (wr.setCell ⟨w6.heap.size, D.p, none⟩ (.int .i64 (wrap64 (En D.p + 1)))) (some ⟨w6.heap.size, 0, none⟩) D.nr (fun i => .int .i64 (if i = D.p then wrap64 (En D.p + 1) else En i)) :=
                                    sl_of_row ((hM.ext.set D.p _).congr (fun i _ => by by_cases e : i = D.p <;> simp [e]))
                                  have RU := hM.rU.setOther (a := ⟨w6.heap.size, D.p, none⟩) (by simp; omega) (fun r hr hl => by have := (hM.rU.row r hr hl).2.1; simp; omega) (.int .i64 (wrap64 (En D.p + 1)))
                                  have RV := hM.rV.setOther (a := ⟨w6.heap.size, D.p, none⟩) (by simp; omega) (fun r hr hl => by have := (hM.rV.row r hr hl).2.1; simp; omega) (.int .i64 (wrap64 (En D.p + 1)))
                                  have hfin : Hid (Below w'.heap.size w' (wr.setCell ⟨w6.heap.size, D.p, none⟩ (.int .i64 (wrap64 (En D.p + 1))))) := hb4'.trans (hb11.mono hb4'.size)
                                  clear hD hC SA4 h54 h5r hM hbr hxp hb11 hD11 o1' oE o4' hj hjl hb4'
                                  go_wp2_with fail
                                  generalize wr.setCell ⟨w6.heap.size, D.p, none⟩ (.int .i64 (wrap64 (En D.p + 1))) = w11 at *
                                  refine (eqI64_any av aV D.m cv cV _ _ _ S1 S2 (fun _ _ => rfl) (by omega)).mono ?_
                                  rintro e wz ⟨rfl, m1, hw⟩
                                  subst hw
                                  go_wp2_with fail
                                  refine (eqI32_any aw aW D.m cw cW _ _ _ (S3.drewN m1) (S4.drewN m1) (fun _ _ => rfl) (by omega)).mono ?_
                                  rintro e wz ⟨rfl, m2, hw⟩
                                  rw [World.drewN_drewN] at hw
                                  subst hw
                                  go_wp2_with fail
                                  refine (eqI64_any ae (some ⟨w6.heap.size, 0, none⟩) D.nr ce cE _ _ _ (S5.drewN (m1 + m2)) (S6.drewN (m1 + m2)) (fun _ _ => rfl) (by omega)).mono ?_
                                  rintro e wz ⟨rfl, m3, hw⟩
                                  rw [World.drewN_drewN] at hw
                                  subst hw
                                  clear S1 S2 S3 S4 S5 S6 ce1 fe1 hc5
                                  go_wp2
                                  go_loopw [37] (fun s37 wr => ∃ i : Nat, i ≤ D.nr ∧ s37 = .int .i64 i ∧ ∃ mm, wr = w11.drewN mm) (fun s37 _ => D.nr - (intOf s37).toNat)
                                  case atStart => exact ⟨0, Nat.zero_le _, rfl, drew1 _ _⟩
                                  case round =>
                                    obtain ⟨i, hi, rfl, mm, rfl⟩ := hrel
                                    by_cases hin : i < D.nr
                                    · have t0 : w11.cell? ⟨G, i, none⟩ = some (.slice (some ⟨R i, 0, none⟩) (nn D i) (nn D i)) := by have h := hC11.t0.cell hin; simpa only [hin, if_true] using h
                                      have t1 : w11.cell? ⟨G + 1, i, none⟩ = some (.slice (some ⟨R i + 1, 0, none⟩) (nn D i) (nn D i)) := by have h := hC11.t1.cell hin; simpa only [hin, if_true] using h
                                      have t2 : w11.cell? ⟨G + 1 + 1, i, none⟩ = some (.slice (some ⟨R i + 1 + 1, 0, none⟩) (nn D i) (nn D i)) := by have h := hC11.t2.cell hin; simpa only [hin, if_true] using h
                                      by_cases hip : i = D.p
                                      · have hnn : nn D i = 0 := by unfold nn; rw [if_pos hip]
                                        rw [hnn] at t0 t1 t2
                                        have hipb : ((i : Int) == (D.p : Int)) = true := ieqT (by omega)
                                        clear hnn hC11 SA11 RU RV hip
                                        go_wp2
                                        go_roundw
                                        case rel => exact ⟨i + 1, by omega, by go_num, drew1 _ _⟩
                                        case measure => simp [intOf]; omega
                                      · have hnn : nn D i = D.L i := by unfold nn; rw [if_neg hip]
                                        rw [hnn] at t0 t1 t2
                                        have hipb : ((i : Int) == (D.p : Int)) = false := ieqF (by omega)
                                        obtain ⟨_, r0, r1, r2⟩ := hC11.rows i hin
                                        rw [hnn] at r0 r1 r2
                                        have hLi := HLr.out i hin
                                        have d1 : w11.cell? ⟨b1, o1 + i, none⟩ = some (.slice (A1 i) (D.L i) (C1 i)) := SA11.h1.cell hin
                                        have u1 : w11.cell? ⟨w7.heap.size, i, none⟩ = some (.slice (AU i) (D.L i) (CU i)) := by have h := RU.top.cell hin; simpa only [hin, if_true] using h
                                        have u2 : w11.cell? ⟨w8.heap.size, i, none⟩ = some (.slice (AV i) (D.L i) (CV i)) := by have h := RV.top.cell hin; simpa only [hin, if_true] using h
                                        have x1' := SA11.hx i hin
                                        have y1 : Sl w11 (AU i) (D.L i) (fun j => .int .i32 (D.FU (D.g D.p) i j)) := fun j hj => by
                                          obtain ⟨h1, _, h3⟩ := RU.row i hin (by omega)
                                          rw [h1]; exact sl_of_row h3 j hj
                                        have y2 : Sl w11 (AV i) (D.L i) (fun j => .int .i64 (D.FQ (D.g D.p) i j)) := fun j hj => by
                                          obtain ⟨h1, _, h3⟩ := RV.row i hin (by omega)
                                          rw [h1]; exact sl_of_row h3 j hj
                                        obtain ⟨wq, hwq⟩ : ∃ wq, wq = w11.drewN mm := ⟨_, rfl⟩
                                        have HWQ : Hid (wq = w11.drewN mm) := hwq
                                        have hcq : ∀ a, wq.cell? a = w11.cell? a := fun a => by rw [hwq]; rfl
                                        have sq : ∀ {a : Option Addr} {n : Nat} {f : Nat → Value}, Sl w11 a n f → Sl wq a n f := fun h => by rw [hwq]; exact h.drewN mm
                                        rw [← hcq] at t0 t1 t2 d1 u1 u2
                                        rw [← hwq]
                                        clear hwq hcq
                                        have E1 : Hid (∀ n, Calls Try.prog 15 #[.slice (some ⟨R i, 0, none⟩) (D.L i) (D.L i), .slice (A1 i) (D.L i) (C1 i)] (wq.drewN n) fun e w' => e = .returned (.bool true) ∧ ∃ k, w' = (wq.drewN n).drewN k) :=
                                          fun n => eqI32_any _ _ _ _ _ _ _ _ ((sq (sl_of_row r0)).drewN n) ((sq x1').drewN n) (fun _ _ => rfl) (by omega)
                                        have E2 : Hid (∀ n, Calls Try.prog 15 #[.slice (some ⟨R i + 1, 0, none⟩) (D.L i) (D.L i), .slice (AU i) (D.L i) (CU i)] (wq.drewN n) fun e w' => e = .returned (.bool true) ∧ ∃ k, w' = (wq.drewN n).drewN k) :=
                                          fun n => eqI32_any _ _ _ _ _ _ _ _ ((sq (sl_of_row r1)).drewN n) ((sq y1).drewN n) (fun _ _ => rfl) (by omega)
                                        have E3 : Hid (∀ n, Calls Try.prog 30 #[.slice (some ⟨R i + 1 + 1, 0, none⟩) (D.L i) (D.L i), .slice (AV i) (D.L i) (CV i)] (wq.drewN n) fun e w' => e = .returned (.bool true) ∧ ∃ k, w' = (wq.drewN n).drewN k) :=
                                          fun n => eqI64_any _ _ _ _ _ _ _ _ ((sq (sl_of_row r2)).drewN n) ((sq y2).drewN n) (fun _ _ => rfl) (by omega)
                                        clear sq hnn hC11 SA11 RU RV hip r0 r1 r2 x1' y1 y2
                                        go_wp2
                                        go_quiet ((first | (go_at_call_of 15 (A1 i); exact Calls.quiet_of (E1.out _)) | (go_at_call_of 15 (AU i); exact Calls.quiet_of (E2.out _)) | (go_at_call 30; exact Calls.quiet_of (E3.out _))))
                                        go_wp2
                                        go_roundw
                                        case rel => exact ⟨i + 1, by omega, by go_num, by rw [HWQ.out]; exact drew2 _ _ _⟩
                                        case measure => simp [intOf]; omega
                                    · clear hC11 SA11 RU RV
                                      go_wp2
                                      go_ret
                                      exact ⟨rfl, below_drewN hfin.out _⟩

              · go_wp2
                go_ret
                exact ⟨rfl, Below.refl _ _⟩
            · go_wp2
              go_ret
              exact ⟨rfl, Below.refl _ _⟩
          · go_wp2
            go_ret
            exact ⟨rfl, Below.refl _ _⟩
        · go_wp2
          go_ret
          exact ⟨rfl, Below.refl _ _⟩
      · go_wp2
        go_ret
        exact ⟨rfl, Below.refl _ _⟩
    · go_wp2
      go_ret
      exact ⟨rfl, Below.refl _ _⟩
end Go.Proofs.Qxb6620996a
