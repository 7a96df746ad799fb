/-
  The plain mathematics of endSettle: no Go in sight.
-/
import Derived.Test.Qxb6620996aPure
import Derived.Test.Qxb6620996aAcc
namespace Go.Proofs.Qxb6620996a
set_option linter.unusedVariables false
namespace ED
variable {D : ED} {N : Int → Nat} {x : Int} {f : Nat}

/-- the new writers, the new values of x's stack -/
def nR (D : ED) (x : Int) (f : Nat) (i : Nat) : Int := if i < D.T x then D.c x i else D.nw f
def nV (D : ED) (x : Int) (f : Nat) (i : Nat) : Int := if i < D.T x then D.v x i else if D.com = true then D.v x (D.T x) else D.UV D.p f

theorem settle_VW (hx : 0 ≤ x) (hgood : D.Good x) (hf : f < D.L D.p) (hfresh : ¬ N x < D.L D.p) (hs : D.c x (D.T x) = D.self) (i : Nat) :
    (if i = x.toNat then D.nV x f 0 else D.FV N i) = D.FV (upd N x f) i ∧ (if i = x.toNat then D.nR x f 0 else D.FW N i) = D.FW (upd N x f) i := by
  have hxn : ((x.toNat : Nat) : Int) = x := by omega
  have hW : D.FW N x.toNat = D.Wt x.toNat := fresh_W hfresh hxn
  have hV : D.FV N x.toNat = D.V x.toNat := fresh_V hfresh hxn
  rcases Nat.eq_zero_or_pos (D.T x) with hT | hT
  · have hWs : D.Wt x.toNat = D.self := by rw [hT] at hs; exact hs
    constructor
    · rw [FV_upd hf]
      by_cases e : i = x.toNat
      · subst e
        rw [if_pos rfl]
        unfold nV
        rw [if_neg (by omega), hT]
        cases hc : D.com with
        | true => rw [if_pos rfl, if_neg (by simp), hV]; rfl
        | false => rw [if_neg (by simp), if_pos ⟨hxn, hWs, rfl⟩]
      · rw [if_neg e, if_neg (fun h => e (by omega))]
    · rw [FW_upd hf]
      by_cases e : i = x.toNat
      · subst e
        rw [if_pos rfl, if_pos ⟨hxn, hWs⟩]
        unfold nR
        rw [if_neg (by omega)]
      · rw [if_neg e, if_neg (fun h => e (by omega))]
  · have hWs : D.Wt x.toNat ≠ D.self := (c_go hT).2
    constructor
    · rw [FV_upd hf]
      by_cases e : i = x.toNat
      · subst e
        rw [if_pos rfl, if_neg (fun h => hWs h.2.1), hV]
        unfold nV
        rw [if_pos hT]; rfl
      · rw [if_neg e, if_neg (fun h => e (by omega))]
    · rw [FW_upd hf]
      by_cases e : i = x.toNat
      · subst e
        rw [if_pos rfl, if_neg (fun h => hWs h.2), hW]
        unfold nR
        rw [if_pos hT]; rfl
      · rw [if_neg e, if_neg (fun h => e (by omega))]

theorem settle_U (hgood : D.Good x) (hf : f < D.L D.p) (hfresh : ¬ N x < D.L D.p) (hs : D.c x (D.T x) = D.self) {i : Nat} (hi : i < D.T x) (r' j' : Nat) :
    (if r' = (D.c x i).toNat - 1 ∧ j' = D.g ((D.c x i).toNat - 1) x then D.nR x f (i + 1) else D.FU N r' j') = (if i + 1 < D.T x then D.FU N r' j' else D.FU (upd N x f) r' j') ∧
    (if r' = (D.c x i).toNat - 1 ∧ j' = D.g ((D.c x i).toNat - 1) x then D.nV x f (i + 1) else D.FQ N r' j') = (if i + 1 < D.T x then D.FQ N r' j' else D.FQ (upd N x f) r' j') := by
  obtain ⟨_, _, hgo⟩ := hgood
  obtain ⟨g1, g2, g3, g4⟩ := hgo i hi
  have ei : (D.c x i - 1).toNat = (D.c x i).toNat - 1 := by omega
  have hci : D.c x i = (((D.c x i).toNat - 1 : Nat) : Int) + 1 := by omega
  rw [ei] at g4
  have hux : D.UX ((D.c x i).toNat - 1) (D.g ((D.c x i).toNat - 1) x) = x := fi_hit g4
  have hU := fresh_U hfresh hux
  have hQ := fresh_Q hfresh hux
  have hc1 : D.c x (i + 1) = D.UU ((D.c x i).toNat - 1) (D.g ((D.c x i).toNat - 1) x) := c_hop hci
  have hv1 : D.v x (i + 1) = D.UV ((D.c x i).toNat - 1) (D.g ((D.c x i).toNat - 1) x) := by
    show D.UV (D.c x i - 1).toNat (D.g (D.c x i - 1).toNat x) = _
    rw [ei]
  by_cases hlt : i + 1 < D.T x
  · rw [if_pos hlt, if_pos hlt]
    unfold nR nV
    rw [if_pos hlt, if_pos hlt]
    constructor
    · by_cases e : r' = (D.c x i).toNat - 1 ∧ j' = D.g ((D.c x i).toNat - 1) x
      · rw [if_pos e, e.1, e.2, hU, hc1]
      · rw [if_neg e]
    · by_cases e : r' = (D.c x i).toNat - 1 ∧ j' = D.g ((D.c x i).toNat - 1) x
      · rw [if_pos e, e.1, e.2, hQ, hv1]
      · rw [if_neg e]
  · have hiT : D.T x - 1 = i := by omega
    have hT0 : 0 < D.T x := by omega
    rw [if_neg hlt, if_neg hlt]
    unfold nR nV
    rw [if_neg hlt, if_neg hlt]
    have hiff := hit_iff g4 hT0 hs (by rw [hiT]; exact hci) r' j'
    constructor
    · rw [FU_upd hf]
      by_cases e : r' = (D.c x i).toNat - 1 ∧ j' = D.g ((D.c x i).toNat - 1) x
      · rw [if_pos e, if_pos (hiff.2 e)]
      · rw [if_neg e, if_neg (fun h => e (hiff.1 h))]
    · rw [FQ_upd hf]
      by_cases e : r' = (D.c x i).toNat - 1 ∧ j' = D.g ((D.c x i).toNat - 1) x
      · rw [if_pos e]
        cases hc : D.com with
        | true =>
          rw [if_pos rfl, if_neg (by simp), e.1, e.2, hQ, ← hv1, show i + 1 = D.T x by omega]
        | false => rw [if_neg (by simp), if_pos ⟨hiff.2 e, rfl⟩]
      · rw [if_neg e, if_neg (fun h => e (hiff.1 h.1))]

theorem settle_none (hf : f < D.L D.p) (h : D.T x = 0) (r j : Nat) : D.FU (upd N x f) r j = D.FU N r j ∧ D.FQ (upd N x f) r j = D.FQ N r j :=
  ⟨same_FU hf (fun hh => by rw [hit_no (Or.inr h)] at hh; cases hh), same_FQ hf (fun hh => by rw [hit_no (Or.inr h)] at hh; cases hh)⟩

/-- the run's layer lies nowhere on x's chain: nothing turns -/
theorem settle_off (hx : 0 ≤ x) (hf : f < D.L D.p) (hs : D.c x (D.T x) = 0) : D.SameW N (upd N x f) ∧ D.SameU N (upd N x f) := by
  have hself : D.self ≠ 0 := by show ((D.p : Int) + 1) ≠ 0; omega
  have hne : D.c x (D.T x) ≠ D.self := fun h => hself (h.symm.trans hs)
  have hW0 : D.Wt x.toNat ≠ D.self := by
    by_cases hT : D.T x = 0
    · rw [hT] at hne; exact hne
    · exact (c_go (D := D) (x := x) (k := 0) (by omega)).2
  have hxi : ∀ {i : Nat}, (i : Int) = x → i = x.toNat := fun h => by omega
  exact ⟨⟨fun i => same_FW hf (fun h1 h2 => absurd h2 (by rw [hxi h1]; exact hW0)), fun i => same_FV hf (fun h1 h2 => absurd h2 (by rw [hxi h1]; exact hW0))⟩,
    ⟨fun r j => same_FU hf (fun h => by rw [hit_no (Or.inl hne)] at h; cases h), fun r j => same_FQ hf (fun h => by rw [hit_no (Or.inl hne)] at h; cases h)⟩⟩
end ED
end Go.Proofs.Qxb6620996a
