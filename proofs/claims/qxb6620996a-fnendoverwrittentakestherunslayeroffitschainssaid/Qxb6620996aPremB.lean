import Derived.Test.Qxb6620996aSmall
namespace Go.Proofs.Qxb6620996a
open Go.RowKit Go.Deep
set_option linter.unusedVariables false

/-- THE ARGUMENTS AS THEY LIE: values, the undo columns, writers, counts. -/
structure EndArgs (w : World) (a0 a1 a2 a3 a4 a5 : Option Addr) (n0 n1 n2 n3 n4 n5 : Nat) (A1 A2 A3 : Nat → Option Addr) (L1 L2 L3 C1 C2 C3 : Nat → Nat) (V : Nat → Int) (UX UU UV : Nat → Nat → Int) (Wt En : Nat → Int) : Prop where
  h0 : Sl w a0 n0 (fun i => .int .i64 (V i))
  h1 : Sl w a1 n1 (fun r => .slice (A1 r) (L1 r) (C1 r))
  h2 : Sl w a2 n2 (fun r => .slice (A2 r) (L2 r) (C2 r))
  h3 : Sl w a3 n3 (fun r => .slice (A3 r) (L3 r) (C3 r))
  h4 : Sl w a4 n4 (fun i => .int .i32 (Wt i))
  h5 : Sl w a5 n5 (fun i => .int .i64 (En i))
  hx : ∀ r, r < n1 → Sl w (A1 r) (L1 r) (fun j => .int .i32 (UX r j))
  hu : ∀ r, r < n2 → Sl w (A2 r) (L2 r) (fun j => .int .i32 (UU r j))
  hv : ∀ r, r < n3 → Sl w (A3 r) (L3 r) (fun j => .int .i64 (UV r j))
  xb : ∀ r j, -2147483648 ≤ UX r j ∧ UX r j ≤ 2147483647
  ub : ∀ r j, -2147483648 ≤ UU r j ∧ UU r j ≤ 2147483647
  wb : ∀ i, -2147483648 ≤ Wt i ∧ Wt i ≤ 2147483647

/-- what endPremise's yes says -/
def EndFit (n0 n1 n2 n3 n4 n5 : Nat) (p : Int) (L1 L2 L3 : Nat → Nat) (D : ED) : Prop :=
  n2 = n1 ∧ n3 = n1 ∧ n5 = n1 ∧ n4 = n0 ∧ 0 ≤ p ∧ (∀ r, r < n1 → L2 r = L1 r ∧ L3 r = L1 r) ∧ D.Fit

def mkD (n0 n1 : Nat) (p : Nat) (L1 : Nat → Nat) (V : Nat → Int) (UX UU UV : Nat → Nat → Int) (Wt : Nat → Int) (cm : Bool) : ED :=
  { nr := n1, m := n0, p := p, L := L1, UX := UX, UU := UU, UV := UV, V := V, Wt := Wt, com := cm }

/-- one entry of run q's row, as the premise finds it -/
def Ent (D : ED) (j : Nat) : Prop :=
  0 ≤ D.UX D.p j ∧ D.UX D.p j < D.m ∧ (D.g D.p (D.UX D.p j) ≠ j → D.UU D.p j = D.self) ∧ (D.g D.p (D.UX D.p j) = j → D.Good (D.UX D.p j))

theorem fit_of_ents {D : ED} (hp : D.p < D.nr) (h : ∀ j, j < D.L D.p → Ent D j) : D.Fit := by
  refine ⟨hp, fun j hj => ?_⟩
  obtain ⟨h1, h2, h3, _⟩ := h j hj
  have hg : D.g D.p (D.UX D.p j) ≤ j := fi_lt hj
  have hx : D.UX D.p (D.g D.p (D.UX D.p j)) = D.UX D.p j := fi_hit (n := D.L D.p) (f := D.UX D.p) (x := D.UX D.p j) (by unfold ED.g at hg; omega)
  obtain ⟨_, _, _, h4⟩ := h (D.g D.p (D.UX D.p j)) (by omega)
  rw [hx] at h4
  exact ⟨h1, h2, h3, h4 rfl⟩

/-- how far the premise has followed x's chain -/
def Far (D : ED) (x : Int) (k : Nat) : Prop :=
  ∀ i, i < k → 1 ≤ D.c x i ∧ D.c x i ≤ D.nr ∧ D.c x i ≠ D.self ∧ D.g (D.c x i - 1).toNat x < D.L (D.c x i - 1).toNat

theorem good_of_far {D : ED} {x : Int} {k : Nat} (hk : k ≤ D.nr) (h : Far D x k) (he : D.c x k = 0 ∨ D.c x k = D.self) : D.Good x := by
  have hT : D.T x = k := ED.T_eq hk (fun i hi => ⟨by have := (h i hi).1; omega, (h i hi).2.2.1⟩) he
  refine ⟨by rw [hT]; exact hk, by rw [hT]; exact he, fun i hi => h i (by rw [← hT]; exact hi)⟩

theorem c_bd {n0 n1 q : Nat} {L1 : Nat → Nat} {V : Nat → Int} {UX UU UV : Nat → Nat → Int} {Wt : Nat → Int} {cm : Bool} (ub : ∀ r j, -2147483648 ≤ UU r j ∧ UU r j ≤ 2147483647) (wb : ∀ i, -2147483648 ≤ Wt i ∧ Wt i ≤ 2147483647) (x : Int) (k : Nat) :
    -2147483648 ≤ (mkD n0 n1 q L1 V UX UU UV Wt cm).c x k ∧ (mkD n0 n1 q L1 V UX UU UV Wt cm).c x k ≤ 2147483647 := by
  cases k with
  | zero => exact wb _
  | succ k => exact ub _ _

set_option maxRecDepth 100000 in
set_option maxHeartbeats 4000000 in
theorem premEnd (a0 a1 a2 a3 a4 a5 : Option Addr) (n0 n1 n2 n3 n4 n5 c0 c1 c2 c3 c4 c5 : Nat) (p : Int) (cm : Bool) (A1 A2 A3 : Nat → Option Addr) (L1 L2 L3 C1 C2 C3 : Nat → Nat) (V : Nat → Int) (UX UU UV : Nat → Nat → Int) (Wt En : Nat → Int) (w : World)
    (A : EndArgs w a0 a1 a2 a3 a4 a5 n0 n1 n2 n3 n4 n5 A1 A2 A3 L1 L2 L3 C1 C2 C3 V UX UU UV Wt En)
    (hn0 : n0 ≤ 4096) (hn1 : n1 ≤ 256) (hn2 : n2 ≤ 256) (hn3 : n3 ≤ 256) (hn4 : n4 ≤ 4096) (hn5 : n5 ≤ 256)
    (hL1 : ∀ r, r < n1 → L1 r ≤ 256) :
    Calls Try.prog 22 #[.slice a0 n0 c0, .slice a1 n1 c1, .slice a2 n2 c2, .slice a3 n3 c3, .slice a4 n4 c4, .slice a5 n5 c5, .int .i64 p] w fun e w' =>
      AnsIf (EndFit n0 n1 n2 n3 n4 n5 p L1 L2 L3 (mkD n0 n1 p.toNat L1 V UX UU UV Wt cm)) e ∧ ∃ mm, w' = w.drewN mm := by
  by_cases e2 : n2 = n1
  · by_cases e3 : n3 = n1
    · by_cases e5 : n5 = n1
      · by_cases hp : 0 ≤ p ∧ p < n1
        · obtain ⟨hp0, hp1⟩ := hp
          have hq : p.toNat < n1 := by omega
          subst e2 e3 e5
          obtain ⟨D, hD⟩ : ∃ D, D = mkD n0 n5 p.toNat L1 V UX UU UV Wt cm := ⟨_, rfl⟩
          have HD : Hid (D = mkD n0 n5 p.toNat L1 V UX UU UV Wt cm) := hD
          rw [← hD]
          clear hD
          have h1 := A.h1
          have h2 := A.h2
          have h3 := A.h3
          go_enter Try.func22, Try.ntmps22
          go_wp2
          go_loopw [16] (fun i wr => ∃ k : Nat, k ≤ n5 ∧ i = .int .i64 k ∧ (∀ r, r < k → L2 r = L1 r ∧ L3 r = L1 r) ∧ ∃ mm, wr = w.drewN mm) (fun i _ => n5 - (intOf i).toNat)
          case atStart => exact ⟨0, Nat.zero_le _, rfl, fun r hr => absurd hr (by omega), 0, rfl⟩
          case round =>
            obtain ⟨k, hk, rfl, hall, mm, rfl⟩ := hrel
            have hall' : Hid (∀ r, r < k → L2 r = L1 r ∧ L3 r = L1 r) := hall
            clear hall
            by_cases hlt : k < n5
            · obtain ⟨b1, o1, ha1, hc1⟩ := h1 k hlt
              obtain ⟨b2, o2, ha2, hc2⟩ := h2 k hlt
              obtain ⟨b3, o3, ha3, hc3⟩ := h3 k hlt
              subst ha1 ha2 ha3
              by_cases g1 : L2 k = L1 k
              · have hg1 : ((L2 k : Int) == (L1 k : Int)) = true := ieqT (by omega)
                clear h1 h2 h3
                go_wp2
                go_quiet (fail)
                go_wp2
                · go_ret
                  exact ⟨ansIf_no, drew2 _ _ _⟩
                · have g2 : ((L3 k : Int) != (L1 k : Int)) = false := by assumption
                  go_roundw
                  case rel => exact ⟨k + 1, by omega, by go_num, all_succ hall'.out ⟨g1, natEq g2⟩, drew1 _ _⟩
                  case measure => simp [intOf]; omega
              · have hg1 : ((L2 k : Int) != (L1 k : Int)) = true := ineT (by omega)
                clear h1 h2 h3
                go_wp2
                go_quiet (fail)
                go_wp2
                go_ret
                exact ⟨ansIf_no, drew2 _ _ _⟩
            · have hall0 : Hid (∀ r, r < n5 → L2 r = L1 r ∧ L3 r = L1 r) := fun r hr => hall'.out r (by omega)
              clear hall'
              by_cases e4 : n4 = n0
              · subst e4
                obtain ⟨b1, o1, ha1, hc1⟩ := h1 p.toNat hq
                obtain ⟨b2, o2, ha2, hc2⟩ := h2 p.toNat hq
                have hx := A.hx p.toNat hq
                have hu := A.hu p.toNat hq
                have hL := hL1 p.toNat hq
                rw [(hall0.out p.toNat hq).1] at hu
                simp only at hc1 hc2
                rw [(hall0.out p.toNat hq).1] at hc2
                subst ha1 ha2
                clear h3
                generalize hA1 : A1 p.toNat = x1 at hc1 hx
                generalize hA2 : A2 p.toNat = x2 at hc2 hu
                generalize hl : L1 p.toNat = l at *
                have HL : Hid (L1 p.toNat = l) := hl
                clear hA1 hA2 hl
                go_wp2
                go_loopw [20] (fun i wr => ∃ k : Nat, k ≤ l ∧ i = .int .i64 k ∧ (∀ j, j < k → Ent D j) ∧ ∃ mm, wr = w.drewN mm) (fun i _ => l - (intOf i).toNat)
                case atStart => exact ⟨0, Nat.zero_le _, rfl, fun r hr => absurd hr (by omega), drew1 _ _⟩
                case round =>
                  clear hk hlt
                  obtain ⟨j, hj, rfl, hents, mm, rfl⟩ := hrel
                  by_cases hjl : j < l
                  · obtain ⟨x, hx'⟩ : ∃ x, x = UX p.toNat j := ⟨_, rfl⟩
                    have HX : Hid (x = UX p.toNat j) := hx'
                    have hxb := A.xb p.toNat j
                    rw [← hx'] at hxb
                    obtain ⟨b, o, hax, hcx⟩ := hx j hjl
                    simp only at hcx
                    rw [← hx'] at hcx
                    clear hx'
                    subst hax
                    by_cases hx0 : 0 ≤ x
                    · by_cases hx1 : x < n4
                      · have hfi : fi l (UX p.toNat) x ≤ j := by
                          have h := fi_lt (n := l) (f := UX p.toNat) hjl
                          rwa [← HX.out] at h
                        go_wp2_with fail
                        refine (firstOf_any _ l _ x (UX p.toNat) _ (hx.drewN mm) (by omega)).mono ?_
                        rintro e w' ⟨⟨v, rfl, hv1, hv2⟩, hw⟩
                        subst hw
                        have hv : v = (fi l (UX p.toNat) x : Nat) := hv1 (by omega)
                        clear hv1 hv2 hx
                        have hents' : Hid (∀ i, i < j → Ent D i) := hents
                        clear hents
                        by_cases hg : fi l (UX p.toNat) x = j
                        · rw [hg] at hv
                          subst hv
                          have HG : Hid (fi l (UX p.toNat) x = j) := hg
                          obtain ⟨b4, o4, ha4, hc4⟩ := A.h4 x.toNat (by omega)
                          subst ha4
                          simp only at hc4
                          have hc0 : Hid (D.c x 0 = Wt x.toNat) := by have h := HD.out; subst h; rfl
                          have hwb := A.wb x.toNat
                          have h1c := A.h1
                          have h2c := A.h2
                          clear hu hg hfi hcx hc1 hc2
                          go_wp2
                          clear hc4
                          go_loop [22, 23] (fun u st => ∃ (k : Nat) (cu : Int), k ≤ n5 ∧ Hid (cu = D.c x k) ∧ -2147483648 ≤ cu ∧ cu ≤ 2147483647 ∧ u = .int .i32 cu ∧ st = .int .i64 k ∧ Far D x k) (fun _ st => n5 + 1 - (intOf st).toNat)
                          case atStart => exact ⟨0, Wt x.toNat, Nat.zero_le _, hc0.out.symm, hwb.1, hwb.2, rfl, rfl, fun i hi => absurd hi (by omega)⟩
                          case round =>
                            clear hwb hc0
                            obtain ⟨k, cu, hk, hcu, hb0, hb1, rfl, rfl, hfar⟩ := hrel
                            have hfar' : Hid (Far D x k) := hfar
                            clear hfar
                            by_cases hz : cu = 0 ∨ cu = p + 1
                            · have hent : Hid (Ent D j) := by
                                have h := HD.out
                                subst h
                                show Ent _ _
                                unfold Ent
                                rw [show (mkD n4 n5 p.toNat L1 V UX UU UV Wt cm).UX (mkD n4 n5 p.toNat L1 V UX UU UV Wt cm).p j = x from HX.out.symm]
                                refine ⟨hx0, hx1, fun h => absurd ?_ h, fun _ => good_of_far hk hfar'.out ?_⟩
                                · show fi (L1 p.toNat) (UX p.toNat) x = j
                                  rw [HL.out]; exact HG.out
                                · rw [← hcu.out]
                                  show cu = 0 ∨ cu = ((p.toNat : Nat) : Int) + 1
                                  rcases hz with h | h
                                  · exact Or.inl h
                                  · exact Or.inr (by omega)
                              clear h1c h2c
                              rcases hz with hz | hz
                              · subst hz
                                go_wp2
                                go_roundw
                                case rel => exact ⟨j + 1, by omega, by go_num, all_succ hents'.out hent.out, drew1 _ _⟩
                                case measure => simp [intOf]; omega
                              · have hz0 : cu ≠ 0 := by omega
                                have hzb0 : (cu != 0) = true := ineT hz0
                                have hzb1 : (cu != p + 1) = false := ineF hz
                                clear hz
                                go_wp2
                                go_roundw
                                case rel => exact ⟨j + 1, by omega, by go_num, all_succ hents'.out hent.out, drew1 _ _⟩
                                case measure => simp [intOf]; omega
                            · have hz0 : cu ≠ 0 := fun h => hz (Or.inl h)
                              have hzb0 : (cu != 0) = true := ineT hz0
                              have hzb1 : (cu != p + 1) = true := ineT (fun h => hz (Or.inr h))
                              have hz1 : cu ≠ p + 1 := fun h => hz (Or.inr h)
                              clear hz
                              by_cases hlo : 0 ≤ cu
                              · by_cases hhi : cu ≤ n5
                                · by_cases hkn : k < n5
                                  · have hr : (cu.toNat - 1) < n5 := by omega
                                    have ei : Hid ((cu - 1).toNat = cu.toNat - 1) := by show (cu - 1).toNat = cu.toNat - 1; omega
                                    have hcx := h1c.cell hr
                                    have hcu2 := h2c.cell hr
                                    have hxr := A.hx _ hr
                                    have hur := A.hu _ hr
                                    rw [(hall0.out _ hr).1] at hur
                                    rw [(hall0.out _ hr).1] at hcu2
                                    have hLr := hL1 _ hr
                                    have hnext : Hid (fi (L1 (cu.toNat - 1)) (UX (cu.toNat - 1)) x < L1 (cu.toNat - 1) → UU (cu.toNat - 1) (fi (L1 (cu.toNat - 1)) (UX (cu.toNat - 1)) x) = D.c x (k + 1) ∧ Far D x (k + 1)) := by
                                      intro hg
                                      rw [← ei.out] at hg ⊢
                                      have h := HD.out
                                      have hcu' := hcu.out
                                      have hfar := hfar'.out
                                      clear HX
                                      subst h
                                      refine ⟨?_, ?_⟩
                                      · rw [hcu']; rfl
                                      · intro i hi
                                        by_cases e : i = k
                                        · subst e
                                          rw [← hcu']
                                          refine ⟨by omega, hhi, ?_, hg⟩
                                          show cu ≠ ((p.toNat : Nat) : Int) + 1
                                          omega
                                        · exact hfar i (by omega)
                                    clear h1c h2c
                                    generalize L1 (cu.toNat - 1) = lr at *
                                    generalize A1 (cu.toNat - 1) = xr at *
                                    generalize A2 (cu.toNat - 1) = yr at *
                                    have hub := A.ub (cu.toNat - 1) (fi lr (UX (cu.toNat - 1)) x)
                                    go_wp2_with fail
                                    refine (firstOf_any _ lr _ x (UX (cu.toNat - 1)) _ (hxr.drewN mm) (by omega)).mono ?_
                                    rintro e w' ⟨⟨v, rfl, hv1, hv2⟩, hw⟩
                                    subst hw
                                    by_cases hg : fi lr (UX (cu.toNat - 1)) x < lr
                                    · have hv := hv1 hg
                                      have hn := hnext.out hg
                                      have hn1 : Hid (UU (cu.toNat - 1) (fi lr (UX (cu.toNat - 1)) x) = D.c x (k + 1)) := hn.1
                                      have hn2 : Hid (Far D x (k + 1)) := hn.2
                                      clear hv1 hv2 hn hxr hnext
                                      generalize hgg : fi lr (UX (cu.toNat - 1)) x = gg at *
                                      subst hv
                                      obtain ⟨by', oy, hay, hcy⟩ := hur gg hg
                                      subst hay
                                      simp only at hcy
                                      clear hur hgg
                                      go_wp2
                                      go_round
                                      case rel => exact ⟨k + 1, _, by omega, hn1, hub.1, hub.2, rfl, by go_num, hn2.out⟩
                                      case measure => simp [intOf]; omega
                                    · have hv := hv2 hg
                                      subst hv
                                      clear hv1 hv2 hxr hur hg
                                      go_wp2
                                      go_ret
                                      exact ⟨ansIf_no, drew1 _ _⟩
                                  · clear h1c h2c
                                    go_wp2
                                    go_ret
                                    exact ⟨ansIf_no, drew1 _ _⟩
                                · clear h1c h2c
                                  go_wp2
                                  go_ret
                                  exact ⟨ansIf_no, drew1 _ _⟩
                              · clear h1c h2c
                                go_wp2
                                go_ret
                                exact ⟨ansIf_no, drew1 _ _⟩
                        · have hne : (v != (j : Int)) = true := ineT (by omega)
                          obtain ⟨bu, ou, hau, hcu⟩ := hu j hjl
                          subst hau
                          simp only at hcu
                          have HG : Hid (fi l (UX p.toNat) x ≠ j) := hg
                          clear hv hg hfi hu
                          by_cases hs : UU p.toNat j = p + 1
                          · have hs' : (UU p.toNat j != p + 1) = false := ineF hs
                            have HS : Hid (UU p.toNat j = p + 1) := hs
                            clear hs
                            go_wp2
                            go_roundw
                            case rel =>
                              refine ⟨j + 1, by omega, by go_num, all_succ hents'.out ?_, drew1 _ _⟩
                              have h := HD.out
                              subst h
                              unfold Ent
                              rw [show (mkD n4 n5 p.toNat L1 V UX UU UV Wt cm).UX (mkD n4 n5 p.toNat L1 V UX UU UV Wt cm).p j = x from HX.out.symm]
                              refine ⟨hx0, hx1, fun _ => ?_, fun h => ?_⟩
                              · show UU p.toNat j = ((p.toNat : Nat) : Int) + 1
                                rw [HS.out]; omega
                              · refine absurd ?_ HG.out
                                rw [← HL.out]; exact h
                            case measure => simp [intOf]; omega
                          · have hs' : (UU p.toNat j != p + 1) = true := ineT hs
                            clear hs
                            go_wp2
                            go_ret
                            exact ⟨ansIf_no, drew1 _ _⟩
                      · clear hx hu
                        go_wp2
                        go_ret
                        exact ⟨ansIf_no, drew1 _ _⟩
                    · clear hx hu
                      go_wp2
                      go_ret
                      exact ⟨ansIf_no, drew1 _ _⟩
                  · go_wp2
                    go_ret
                    refine ⟨ansIf_yes ⟨rfl, rfl, rfl, rfl, by omega, hall0.out, ?_⟩, drew1 _ _⟩
                    have h := HD.out
                    subst h
                    exact fit_of_ents hq (fun j' hj' => hents j' (by have := HL.out; simp only [mkD] at hj'; omega))
              · have e4' : ((n4 : Int) != (n0 : Int)) = true := ineT (by omega)
                go_wp2
                go_ret
                exact ⟨ansIf_no, drew1 _ _⟩
        · have hp' : p < 0 ∨ (0 ≤ p ∧ (n1 : Int) ≤ p) := by omega
          clear hp
          subst e2 e3 e5
          rcases hp' with hp | ⟨hp, hp1⟩
          · go_enter Try.func22, Try.ntmps22
            go_wp2
            go_ret
            exact ⟨ansIf_no, drew0 _⟩
          · go_enter Try.func22, Try.ntmps22
            go_wp2
            go_ret
            exact ⟨ansIf_no, drew0 _⟩
      · have e5' : ((n5 : Int) != (n1 : Int)) = true := ineT (by omega)
        subst e2 e3
        go_enter Try.func22, Try.ntmps22
        go_wp2
        go_ret
        exact ⟨ansIf_no, drew0 _⟩
    · have e3' : ((n3 : Int) != (n1 : Int)) = true := ineT (by omega)
      subst e2
      go_enter Try.func22, Try.ntmps22
      go_wp2
      go_ret
      exact ⟨ansIf_no, drew0 _⟩
  · have e2' : ((n2 : Int) != (n1 : Int)) = true := ineT (by omega)
    go_enter Try.func22, Try.ntmps22
    go_wp2
    go_ret
    exact ⟨ansIf_no, drew0 _⟩
end Go.Proofs.Qxb6620996a
