/-
  The plain mathematics of FnEndOverwrittenTakesTheRunsLayerOffItsChains: no Go in sight.
-/
namespace Go.Proofs.Qxb6620996a
set_option linter.unusedVariables false

/-- The first index below n at which f is x; n where there is none. -/
def fi : Nat → (Nat → Int) → Int → Nat
  | 0, _, _ => 0
  | n + 1, f, x => if fi n f x < n then fi n f x else if f n = x then n else n + 1

theorem fi_spec (n : Nat) (f : Nat → Int) (x : Int) : fi n f x ≤ n ∧ (∀ j, j < fi n f x → f j ≠ x) ∧ (fi n f x < n → f (fi n f x) = x) := by
  induction n with
  | zero => exact ⟨Nat.le_refl _, fun j hj => absurd hj (Nat.not_lt_zero _), fun h => absurd h (Nat.not_lt_zero _)⟩
  | succ n ih =>
    obtain ⟨h1, h2, h3⟩ := ih
    unfold fi
    by_cases hlt : fi n f x < n
    · rw [if_pos hlt]
      exact ⟨by omega, h2, fun _ => h3 hlt⟩
    · rw [if_neg hlt]
      have e : fi n f x = n := by omega
      rw [e] at h2
      by_cases hx : f n = x
      · rw [if_pos hx]
        exact ⟨by omega, h2, fun _ => hx⟩
      · rw [if_neg hx]
        refine ⟨Nat.le_refl _, fun j hj => ?_, fun h => absurd h (Nat.lt_irrefl _)⟩
        by_cases ej : j = n
        · rw [ej]; exact hx
        · exact h2 j (by omega)

theorem fi_le (n : Nat) (f : Nat → Int) (x : Int) : fi n f x ≤ n := (fi_spec n f x).1
theorem fi_min {n : Nat} {f : Nat → Int} {x : Int} {j : Nat} (h : j < fi n f x) : f j ≠ x := (fi_spec n f x).2.1 j h
theorem fi_hit {n : Nat} {f : Nat → Int} {x : Int} (h : fi n f x < n) : f (fi n f x) = x := (fi_spec n f x).2.2 h
theorem fi_eq {n : Nat} {f : Nat → Int} {x : Int} {j : Nat} (hj : j ≤ n) (hmin : ∀ i, i < j → f i ≠ x) (hit : j < n → f j = x) : fi n f x = j := by
  rcases Nat.lt_trichotomy (fi n f x) j with h | h | h
  · exact absurd (fi_hit (n := n) (f := f) (x := x) (by omega)) (hmin _ h)
  · exact h
  · have := fi_le n f x
    exact absurd (hit (by omega)) (fi_min h)
theorem fi_lt {n : Nat} {f : Nat → Int} {j : Nat} (hj : j < n) : fi n f (f j) ≤ j := by
  rcases Nat.lt_or_ge j (fi n f (f j)) with h | h
  · exact absurd rfl (fi_min h)
  · exact h

/-- The store as data: nr runs, m items; the run that ends; the undo columns; values, writers; did it commit. -/
structure ED where
  nr : Nat
  m : Nat
  p : Nat
  L : Nat → Nat
  UX : Nat → Nat → Int
  UU : Nat → Nat → Int
  UV : Nat → Nat → Int
  V : Nat → Int
  Wt : Nat → Int
  com : Bool

namespace ED
variable (D : ED)

/-- run r's first entry of item x -/
def g (r : Nat) (x : Int) : Nat := fi (D.L r) (D.UX r) x
def self : Int := (D.p : Int) + 1
/-- the chain of writers of item x -/
def c (x : Int) : Nat → Int
  | 0 => D.Wt x.toNat
  | k + 1 => D.UU (c x k - 1).toNat (D.g (c x k - 1).toNat x)
def halt (x : Int) (k : Nat) : Int := if D.c x k = 0 ∨ D.c x k = D.self then 1 else 0
/-- how far the chain goes -/
def T (x : Int) : Nat := fi (D.nr + 1) (D.halt x) 1
def Good (x : Int) : Prop :=
  D.T x ≤ D.nr ∧ (D.c x (D.T x) = 0 ∨ D.c x (D.T x) = D.self) ∧
    ∀ k, k < D.T x → 1 ≤ D.c x k ∧ D.c x k ≤ D.nr ∧ D.c x k ≠ D.self ∧ D.g (D.c x k - 1).toNat x < D.L (D.c x k - 1).toNat
/-- what endPremise's yes says -/
def Fit : Prop :=
  D.p < D.nr ∧ ∀ j, j < D.L D.p → 0 ≤ D.UX D.p j ∧ D.UX D.p j < D.m ∧ (D.g D.p (D.UX D.p j) ≠ j → D.UU D.p j = D.self) ∧ D.Good (D.UX D.p j)

/-- (r, j) is the entry just above run p's layer on item x's chain -/
def hit (x : Int) (r j : Nat) : Bool :=
  decide (D.UX r j = x ∧ j = D.g r x ∧ 0 < D.T x ∧ D.c x (D.T x) = D.self ∧ D.c x (D.T x - 1) = (r : Int) + 1)
def nw (e : Nat) : Int := if D.com = true then 0 else D.UU D.p e

/-! the store once the entries N x of the items x have been taken off (N x = L p: none yet) -/
def FW (N : Int → Nat) (i : Nat) : Int := if N i < D.L D.p ∧ D.Wt i = D.self then D.nw (N i) else D.Wt i
def FV (N : Int → Nat) (i : Nat) : Int := if N i < D.L D.p ∧ D.Wt i = D.self ∧ D.com = false then D.UV D.p (N i) else D.V i
def FU (N : Int → Nat) (r j : Nat) : Int := if N (D.UX r j) < D.L D.p ∧ D.hit (D.UX r j) r j = true then D.nw (N (D.UX r j)) else D.UU r j
def FQ (N : Int → Nat) (r j : Nat) : Int := if N (D.UX r j) < D.L D.p ∧ D.hit (D.UX r j) r j = true ∧ D.com = false then D.UV D.p (N (D.UX r j)) else D.UV r j

end ED

def upd (N : Int → Nat) (x : Int) (e : Nat) : Int → Nat := fun y => if y = x then e else N y

namespace ED
variable {D : ED} {N : Int → Nat} {x : Int} {e : Nat}

theorem FW_upd (he : e < D.L D.p) (i : Nat) : D.FW (upd N x e) i = if (i : Int) = x ∧ D.Wt i = D.self then D.nw e else D.FW N i := by
  unfold FW upd
  by_cases h1 : (i : Int) = x
  · by_cases h2 : D.Wt i = D.self <;> simp [h1, h2, he]
  · simp [h1]

theorem FV_upd (he : e < D.L D.p) (i : Nat) : D.FV (upd N x e) i = if (i : Int) = x ∧ D.Wt i = D.self ∧ D.com = false then D.UV D.p e else D.FV N i := by
  unfold FV upd
  by_cases h1 : (i : Int) = x
  · by_cases h2 : D.Wt i = D.self ∧ D.com = false
    · simp [h1, h2, he]
    · simp only [h1, true_and, if_true, he]
      rw [if_neg h2, if_neg h2, if_neg (fun h => h2 h.2)]
  · simp [h1]

theorem FU_upd (he : e < D.L D.p) (r j : Nat) : D.FU (upd N x e) r j = if D.hit x r j = true then D.nw e else D.FU N r j := by
  unfold FU upd
  by_cases h1 : D.UX r j = x
  · by_cases h2 : D.hit x r j = true <;> simp [h1, h2, he]
  · have h2 : D.hit x r j = false := by simp [hit, h1]
    simp [h1, h2]

theorem FQ_upd (he : e < D.L D.p) (r j : Nat) : D.FQ (upd N x e) r j = if D.hit x r j = true ∧ D.com = false then D.UV D.p e else D.FQ N r j := by
  unfold FQ upd
  by_cases h1 : D.UX r j = x
  · by_cases h2 : D.hit x r j = true ∧ D.com = false
    · simp [h1, h2, he]
    · simp only [h1, if_true, he, true_and]
      rw [if_neg h2, if_neg h2, if_neg (fun h => h2 h.2)]
  · have h2 : D.hit x r j = false := by simp [hit, h1]
    simp [h1, h2]

theorem hit_mk {r : Nat} (hr : D.g r x < D.L r) (hT : 0 < D.T x) (hs : D.c x (D.T x) = D.self) (hc : D.c x (D.T x - 1) = (r : Int) + 1) : D.hit x r (D.g r x) = true := by
  have := fi_hit (n := D.L r) (f := D.UX r) (x := x) hr
  unfold hit
  exact decide_eq_true ⟨this, rfl, hT, hs, hc⟩

theorem hit_out {r j : Nat} (h : D.hit x r j = true) : D.UX r j = x ∧ j = D.g r x ∧ 0 < D.T x ∧ D.c x (D.T x) = D.self ∧ D.c x (D.T x - 1) = (r : Int) + 1 := by
  simpa only [hit, decide_eq_true_eq] using h

theorem hit_iff {r : Nat} (hr : D.g r x < D.L r) (hT : 0 < D.T x) (hs : D.c x (D.T x) = D.self) (hc : D.c x (D.T x - 1) = (r : Int) + 1) (r' j' : Nat) :
    D.hit x r' j' = true ↔ r' = r ∧ j' = D.g r x := by
  constructor
  · intro h
    obtain ⟨_, h2, _, _, h5⟩ := hit_out h
    have e : r' = r := by omega
    subst e
    exact ⟨rfl, h2⟩
  · rintro ⟨rfl, rfl⟩
    exact hit_mk hr hT hs hc

theorem hit_no (h : D.c x (D.T x) ≠ D.self ∨ D.T x = 0) (r j : Nat) : D.hit x r j = false := by
  cases hh : D.hit x r j with
  | false => rfl
  | true =>
    obtain ⟨_, _, h3, h4, _⟩ := hit_out hh
    rcases h with h | h
    · exact absurd h4 h
    · omega

/-- ahead of its end the chain stands at a run -/
theorem c_go {k : Nat} (hk : k < D.T x) : D.c x k ≠ 0 ∧ D.c x k ≠ D.self := by
  have h := fi_min (n := D.nr + 1) (f := D.halt x) (x := 1) (j := k) hk
  unfold halt at h
  by_cases e : D.c x k = 0 ∨ D.c x k = D.self
  · rw [if_pos e] at h; exact absurd rfl h
  · exact ⟨fun h => e (Or.inl h), fun h => e (Or.inr h)⟩

theorem T_eq {k : Nat} (hk : k ≤ D.nr) (hgo : ∀ i, i < k → D.c x i ≠ 0 ∧ D.c x i ≠ D.self) (hend : D.c x k = 0 ∨ D.c x k = D.self) : D.T x = k := by
  refine fi_eq (by omega) (fun i hi => ?_) (fun _ => ?_)
  · unfold halt
    rw [if_neg (fun h => h.elim (hgo i hi).1 (hgo i hi).2)]
    decide
  · unfold halt
    rw [if_pos hend]

theorem c_hop {k r : Nat} (h : D.c x k = (r : Int) + 1) : D.c x (k + 1) = D.UU r (D.g r x) := by
  have e : (D.c x k - 1).toNat = r := by omega
  show D.UU (D.c x k - 1).toNat (D.g (D.c x k - 1).toNat x) = _
  rw [e]

/-- where nothing of x has been taken off, or the layer lies as it lay: x's chain is the old one -/
theorem same_W (hN : N x < D.L D.p → D.com = false ∧ D.UU D.p (N x) = D.self) {i : Nat} (hi : (i : Int) = x) : D.FW N i = D.Wt i := by
  unfold FW
  rw [hi]
  by_cases h : N x < D.L D.p ∧ D.Wt i = D.self
  · rw [if_pos h]
    obtain ⟨h1, h2⟩ := hN h.1
    simp [nw, h1, h2, h.2]
  · rw [if_neg h]

theorem same_U (hN : N x < D.L D.p → D.com = false ∧ D.UU D.p (N x) = D.self) {r j : Nat} (hj : D.UX r j = x) : D.FU N r j = D.UU r j := by
  unfold FU
  rw [hj]
  by_cases h : N x < D.L D.p ∧ D.hit x r j = true
  · rw [if_pos h]
    obtain ⟨h1, h2⟩ := hN h.1
    obtain ⟨_, k2, k3, k4, k5⟩ := hit_out h.2
    have := c_hop k5
    rw [show D.T x - 1 + 1 = D.T x by omega, ← k2] at this
    simp [nw, h1, h2, ← this, k4]
  · rw [if_neg h]

theorem same_FW {i e : Nat} (he : e < D.L D.p) (h : (i : Int) = x → D.Wt i = D.self → D.nw e = D.FW N i) : D.FW (upd N x e) i = D.FW N i := by
  rw [FW_upd he]
  by_cases h1 : (i : Int) = x ∧ D.Wt i = D.self
  · rw [if_pos h1]; exact h h1.1 h1.2
  · rw [if_neg h1]

theorem same_FV {i e : Nat} (he : e < D.L D.p) (h : (i : Int) = x → D.Wt i = D.self → D.com = true) : D.FV (upd N x e) i = D.FV N i := by
  rw [FV_upd he]
  by_cases h1 : (i : Int) = x ∧ D.Wt i = D.self ∧ D.com = false
  · have := h h1.1 h1.2.1
    rw [h1.2.2] at this
    cases this
  · rw [if_neg h1]

theorem same_FU {r j e : Nat} (he : e < D.L D.p) (h : D.hit x r j = true → D.nw e = D.FU N r j) : D.FU (upd N x e) r j = D.FU N r j := by
  rw [FU_upd he]
  by_cases h1 : D.hit x r j = true
  · rw [if_pos h1]; exact h h1
  · rw [if_neg h1]

theorem same_FQ {r j e : Nat} (he : e < D.L D.p) (h : D.hit x r j = true → D.com = true) : D.FQ (upd N x e) r j = D.FQ N r j := by
  rw [FQ_upd he]
  by_cases h1 : D.hit x r j = true ∧ D.com = false
  · have := h h1.1
    rw [h1.2] at this
    cases this
  · rw [if_neg h1]

/-- x's chain as the store bears it now: it ends at T, or it is cut short there -/
def Walk (D : ED) (N : Int → Nat) (x : Int) (T : Nat) (s : Nat → Int) : Prop :=
  s 0 = D.FW N x.toNat ∧ ∀ k, k < T → 1 ≤ s k ∧ s k ≤ D.nr ∧ s k ≠ D.self ∧ D.g (s k - 1).toNat x < D.L (s k - 1).toNat ∧ s (k + 1) = D.FU N (s k - 1).toNat (D.g (s k - 1).toNat x)

/-- what the store's four columns are, behind entry e of x -/
def AtW (D : ED) (N N' : Int → Nat) (x : Int) (e : Nat) : Prop :=
  (∀ i, D.FW N' i = if (i : Int) = x then D.nw e else D.FW N i) ∧ (∀ i, D.FV N' i = if (i : Int) = x ∧ D.com = false then D.UV D.p e else D.FV N i)
def AtU (D : ED) (N N' : Int → Nat) (r j : Nat) (e : Nat) : Prop :=
  (∀ r' j', D.FU N' r' j' = if r' = r ∧ j' = j then D.nw e else D.FU N r' j') ∧ (∀ r' j', D.FQ N' r' j' = if (r' = r ∧ j' = j) ∧ D.com = false then D.UV D.p e else D.FQ N r' j')
def SameW (D : ED) (N N' : Int → Nat) : Prop := (∀ i, D.FW N' i = D.FW N i) ∧ ∀ i, D.FV N' i = D.FV N i
def SameU (D : ED) (N N' : Int → Nat) : Prop := (∀ r j, D.FU N' r j = D.FU N r j) ∧ ∀ r j, D.FQ N' r j = D.FQ N r j

/-- ONE STEP WHERE x's CHAIN IS THE OLD ONE -/
theorem step_old (hx : 0 ≤ x) (hgood : D.Good x) (he : e < D.L D.p) (hN' : N x < D.L D.p → D.com = false ∧ D.UU D.p (N x) = D.self) :
    D.Walk N x (D.T x) (D.c x) ∧
      ((D.T x = 0 ∧ D.c x 0 = D.self ∧ D.AtW N (upd N x e) x e ∧ D.SameU N (upd N x e)) ∨
       (D.c x (D.T x) = 0 ∧ D.c x 0 ≠ D.self ∧ D.SameW N (upd N x e) ∧ D.SameU N (upd N x e)) ∨
       (∃ k, D.T x = k + 1 ∧ D.c x (D.T x) = D.self ∧ D.c x 0 ≠ D.self ∧ D.SameW N (upd N x e) ∧ D.AtU N (upd N x e) (D.c x k - 1).toNat (D.g (D.c x k - 1).toNat x) e)) := by
  obtain ⟨hTn, hend, hgo⟩ := hgood
  have hxn : ((x.toNat : Nat) : Int) = x := by omega
  have hxi : ∀ {i : Nat}, (i : Int) = x → i = x.toNat := fun h => by omega
  have hw : Walk D N x (D.T x) (D.c x) := by
    refine ⟨(same_W hN' hxn).symm, fun k hk => ?_⟩
    obtain ⟨g1, g2, g3, g4⟩ := hgo k hk
    have hux := fi_hit (n := D.L (D.c x k - 1).toNat) (f := D.UX (D.c x k - 1).toNat) (x := x) g4
    exact ⟨g1, g2, g3, g4, (same_U hN' hux).symm⟩
  refine ⟨hw, ?_⟩
  by_cases hs : D.c x (D.T x) = D.self
  · by_cases hT : D.T x = 0
    · have hW : D.Wt x.toNat = D.self := by rw [hT] at hs; exact hs
      refine Or.inl ⟨hT, hW, ⟨fun i => ?_, fun i => ?_⟩, ⟨fun r j => ?_, fun r j => ?_⟩⟩
      · rw [FW_upd he]
        by_cases h1 : (i : Int) = x
        · rw [if_pos h1, if_pos ⟨h1, by rw [hxi h1]; exact hW⟩]
        · rw [if_neg h1, if_neg (fun h => h1 h.1)]
      · rw [FV_upd he]
        by_cases h1 : (i : Int) = x ∧ D.com = false
        · rw [if_pos h1, if_pos ⟨h1.1, by rw [hxi h1.1]; exact hW, h1.2⟩]
        · rw [if_neg h1, if_neg (fun h => h1 ⟨h.1, h.2.2⟩)]
      · exact same_FU he (fun h => by rw [hit_no (Or.inr hT)] at h; cases h)
      · exact same_FQ he (fun h => by rw [hit_no (Or.inr hT)] at h; cases h)
    · have hgo0 := c_go (D := D) (x := x) (k := 0) (by omega)
      have hW0 : D.Wt x.toNat ≠ D.self := hgo0.2
      refine Or.inr (Or.inr ⟨D.T x - 1, by omega, hs, hgo0.2, ⟨fun i => ?_, fun i => ?_⟩, ⟨fun r j => ?_, fun r j => ?_⟩⟩)
      · exact same_FW he (fun h1 h2 => absurd h2 (by rw [hxi h1]; exact hW0))
      · exact same_FV he (fun h1 h2 => absurd h2 (by rw [hxi h1]; exact hW0))
      · obtain ⟨g1, _, _, g4⟩ := hgo (D.T x - 1) (by omega)
        have hi := hit_iff g4 (by omega) hs (by omega) r j
        rw [FU_upd he]
        by_cases h1 : D.hit x r j = true
        · rw [if_pos h1, if_pos (hi.1 h1)]
        · rw [if_neg h1, if_neg (fun h => h1 (hi.2 h))]
      · obtain ⟨g1, _, _, g4⟩ := hgo (D.T x - 1) (by omega)
        have hi := hit_iff g4 (by omega) hs (by omega) r j
        rw [FQ_upd he]
        by_cases h1 : D.hit x r j = true ∧ D.com = false
        · rw [if_pos h1, if_pos ⟨hi.1 h1.1, h1.2⟩]
        · rw [if_neg h1, if_neg (fun h => h1 ⟨hi.2 h.1, h.2⟩)]
  · have h0 : D.c x (D.T x) = 0 := hend.resolve_right hs
    have hW0 : D.Wt x.toNat ≠ D.self := by
      by_cases hT : D.T x = 0
      · rw [hT] at hs; exact hs
      · exact (c_go (D := D) (x := x) (k := 0) (by omega)).2
    refine Or.inr (Or.inl ⟨h0, hW0, ⟨fun i => ?_, fun i => ?_⟩, ⟨fun r j => ?_, fun r j => ?_⟩⟩)
    · exact same_FW he (fun h1 h2 => absurd h2 (by rw [hxi h1]; exact hW0))
    · exact same_FV he (fun h1 h2 => absurd h2 (by rw [hxi h1]; exact hW0))
    · exact same_FU he (fun h => by rw [hit_no (Or.inl hs)] at h; cases h)
    · exact same_FQ he (fun h => by rw [hit_no (Or.inl hs)] at h; cases h)


/-- ONE STEP, BY THE STATE OF x's CHAIN: (1) the run's layer is x's top; (2) it lies nowhere on the chain; (3) it lies just under entry (r, g) -/
theorem step (hx : 0 ≤ x) (hgood : D.Good x) (he : e < D.L D.p) (hN : N x < D.L D.p → D.com = false → D.UU D.p (N x) = D.self) (hself : D.self ≠ 0) :
    ∃ T s, T ≤ D.nr ∧ D.Walk N x T s ∧
      ((T = 0 ∧ s 0 = D.self ∧ D.AtW N (upd N x e) x e ∧ D.SameU N (upd N x e)) ∨
       (s T = 0 ∧ s 0 ≠ D.self ∧ D.SameW N (upd N x e) ∧ D.SameU N (upd N x e)) ∨
       (∃ k, T = k + 1 ∧ s T = D.self ∧ s 0 ≠ D.self ∧ D.SameW N (upd N x e) ∧ D.AtU N (upd N x e) (s k - 1).toNat (D.g (s k - 1).toNat x) e)) := by
  obtain ⟨hTn, hend, hgo⟩ := hgood
  have hxn : ((x.toNat : Nat) : Int) = x := by omega
  have hxi : ∀ {i : Nat}, (i : Int) = x → i = x.toNat := fun h => by omega
  by_cases hcase : N x < D.L D.p ∧ D.com = true
  · -- taken off already, and committed: the chain is cut short
    obtain ⟨hNx, hcom⟩ := hcase
    have hnw : ∀ e', D.nw e' = 0 := fun e' => by simp [nw, hcom]
    have h0 : D.T x = 0 → D.FW N x.toNat = 0 := by
      intro hT
      unfold FW
      rw [hxn]
      by_cases hs : D.Wt x.toNat = D.self
      · rw [if_pos ⟨hNx, hs⟩]; exact hnw _
      · rw [if_neg (fun h => hs h.2)]
        rw [hT] at hend
        exact hend.resolve_right hs
    refine ⟨D.T x, fun k => if k < D.T x then D.c x k else 0, hTn, ⟨?_, fun k hk => ?_⟩, Or.inr (Or.inl ⟨by simp, ?_, ⟨fun i => ?_, fun i => ?_⟩, ⟨fun r j => ?_, fun r j => ?_⟩⟩)⟩
    · by_cases hT : 0 < D.T x
      · simp only [hT, if_true]
        show D.Wt x.toNat = _
        unfold FW
        rw [if_neg (fun h => (c_go hT).2 h.2)]
      · simp only [hT, if_false]
        exact (h0 (by omega)).symm
    · obtain ⟨g1, g2, g3, g4⟩ := hgo k hk
      simp only [hk, if_true]
      refine ⟨g1, g2, g3, g4, ?_⟩
      have hux := fi_hit (n := D.L (D.c x k - 1).toNat) (f := D.UX (D.c x k - 1).toNat) (x := x) g4
      have hux' : D.UX (D.c x k - 1).toNat (D.g (D.c x k - 1).toNat x) = x := hux
      have hck : D.c x k = (((D.c x k - 1).toNat : Nat) : Int) + 1 := by omega
      unfold FU
      rw [hux']
      by_cases hk1 : k + 1 < D.T x
      · simp only [hk1, if_true]
        rw [if_neg (fun h => ?_)]
        · rfl
        · obtain ⟨_, _, k3, k4, k5⟩ := hit_out h.2
          have e1 := c_hop k5
          have e2 := c_hop hck
          rw [show D.T x - 1 + 1 = D.T x by omega, k4] at e1
          exact (c_go hk1).2 (by rw [e2, ← e1])
      · simp only [hk1, if_false]
        have hkT : k = D.T x - 1 := by omega
        by_cases hs : D.c x (D.T x) = D.self
        · rw [if_pos ⟨hNx, hit_mk g4 (by omega) hs (by rw [← hkT]; exact hck)⟩]
          exact (hnw _).symm
        · rw [if_neg (fun h => hs (hit_out h.2).2.2.2.1)]
          have e0 : D.c x (k + 1) = 0 := by
            rw [show k + 1 = D.T x by omega]
            exact hend.resolve_right hs
          exact e0.symm
    · by_cases hT : 0 < D.T x
      · simp only [hT, if_true]; exact (c_go hT).2
      · simp only [hT, if_false]; exact fun h => hself h.symm
    · refine same_FW he (fun h1 h2 => ?_)
      unfold FW
      rw [h1, if_pos ⟨hNx, h2⟩, hnw, hnw]
    · exact same_FV he (fun _ _ => hcom)
    · refine same_FU he (fun h => ?_)
      unfold FU
      rw [(hit_out h).1, if_pos ⟨hNx, h⟩, hnw, hnw]
    · exact same_FQ he (fun _ => hcom)
  · -- x's chain is the old one
    have hN' : N x < D.L D.p → D.com = false ∧ D.UU D.p (N x) = D.self := by
      intro h
      have hc : D.com = false := by
        cases hh : D.com with
        | false => rfl
        | true => exact absurd ⟨h, hh⟩ hcase
      exact ⟨hc, hN h hc⟩
    obtain ⟨h1, h2⟩ := step_old hx ⟨hTn, hend, hgo⟩ he hN'
    exact ⟨D.T x, D.c x, hTn, h1, h2⟩

/-! ### the real order: the entries from the last down -/
def NR (D : ED) : Nat → Int → Nat
  | 0 => fun _ => D.L D.p
  | k + 1 => upd (NR D k) (D.UX D.p (D.L D.p - (k + 1))) (D.L D.p - (k + 1))

theorem NR_spec (k : Nat) (hk : k ≤ D.L D.p) (x : Int) :
    D.NR k x ≤ D.L D.p ∧ (D.NR k x < D.L D.p → D.L D.p - k ≤ D.NR k x ∧ D.UX D.p (D.NR k x) = x) ∧ ∀ j, D.L D.p - k ≤ j → j < D.L D.p → D.UX D.p j = x → D.NR k x ≤ j := by
  induction k with
  | zero => exact ⟨Nat.le_refl _, fun h => absurd h (Nat.lt_irrefl _), fun j h1 h2 => by omega⟩
  | succ k ih =>
    obtain ⟨h1, h2, h3⟩ := ih (by omega)
    unfold NR upd
    by_cases hx : x = D.UX D.p (D.L D.p - (k + 1))
    · simp only [hx, if_true]
      exact ⟨by omega, fun _ => ⟨Nat.le_refl _, trivial⟩, fun j hj _ _ => hj⟩
    · simp only [hx, if_false]
      refine ⟨h1, fun h => ⟨by have := (h2 h).1; omega, (h2 h).2⟩, fun j hj hjl hjx => ?_⟩
      by_cases e : j = D.L D.p - (k + 1)
      · rw [e] at hjx; exact absurd hjx.symm hx
      · exact h3 j (by omega) hjl hjx

theorem NR_end : D.NR (D.L D.p) = D.g D.p := by
  funext x
  obtain ⟨h1, h2, h3⟩ := NR_spec (D := D) (D.L D.p) (Nat.le_refl _) x
  refine (fi_eq h1 (fun i hi hix => ?_) (fun h => (h2 h).2)).symm
  have := h3 i (by omega) (by omega) hix
  omega

/-- a later entry of an item taken off: its layer lies on the run's own -/
theorem NR_self (hf : D.Fit) {k : Nat} (hk : k < D.L D.p) (h : D.NR k (D.UX D.p (D.L D.p - (k + 1))) < D.L D.p) : D.UU D.p (D.NR k (D.UX D.p (D.L D.p - (k + 1)))) = D.self := by
  obtain ⟨_, h2, _⟩ := NR_spec (D := D) k (by omega) (D.UX D.p (D.L D.p - (k + 1)))
  obtain ⟨h4, h5⟩ := h2 h
  obtain ⟨_, _, h6, _⟩ := hf.2 _ h
  refine h6 (fun h7 => ?_)
  rw [h5] at h7
  have : D.g D.p (D.UX D.p (D.L D.p - (k + 1))) ≤ D.L D.p - (k + 1) := fi_lt (by omega)
  omega

/-! ### the model's order: the first entries, from the first up -/
def NM (D : ED) (j : Nat) (x : Int) : Nat := if D.g D.p x < j then D.g D.p x else D.L D.p

theorem NM_zero (x : Int) : D.NM 0 x = D.L D.p := by unfold NM; rw [if_neg (Nat.not_lt_zero _)]
theorem NM_hit {j : Nat} (hj : j < D.L D.p) (h : D.g D.p (D.UX D.p j) = j) : D.NM (j + 1) = upd (D.NM j) (D.UX D.p j) j := by
  funext x
  unfold NM upd
  by_cases e : x = D.UX D.p j
  · rw [if_pos e, e, h, if_pos (by omega)]
  · rw [if_neg e]
    show _ = (if D.g D.p x < j then D.g D.p x else D.L D.p)
    have : D.g D.p x ≠ j := fun hg => e (by
      have := fi_hit (n := D.L D.p) (f := D.UX D.p) (x := x) (by unfold g at hg; omega)
      rw [show fi (D.L D.p) (D.UX D.p) x = j from hg] at this
      exact this.symm)
    by_cases e2 : D.g D.p x < j
    · rw [if_pos e2, if_pos (by omega)]
    · rw [if_neg e2, if_neg (by omega)]
theorem NM_miss {j : Nat} (hj : j < D.L D.p) (h : D.g D.p (D.UX D.p j) ≠ j) : D.NM (j + 1) = D.NM j := by
  funext x
  unfold NM
  have : D.g D.p x ≠ j := fun hg => h (by
    have := fi_hit (n := D.L D.p) (f := D.UX D.p) (x := x) (by unfold g at hg; omega)
    rw [show fi (D.L D.p) (D.UX D.p) x = j from hg] at this
    rw [this]; exact hg)
  by_cases e2 : D.g D.p x < j
  · rw [if_pos e2, if_pos (by omega)]
  · rw [if_neg e2, if_neg (by omega)]
theorem NM_end : D.NM (D.L D.p) = D.g D.p := by
  funext x
  unfold NM
  by_cases h : D.g D.p x < D.L D.p
  · rw [if_pos h]
  · have : D.g D.p x ≤ D.L D.p := fi_le _ _ _
    rw [if_neg h]; omega
theorem NM_fresh {j : Nat} (h : D.g D.p (D.UX D.p j) = j) : ¬ D.NM j (D.UX D.p j) < D.L D.p := by
  unfold NM
  rw [h, if_neg (Nat.lt_irrefl _)]
  exact Nat.lt_irrefl _

/-- of an item that has not been taken off all lies as it lay -/
theorem fresh_W (h : ¬ N x < D.L D.p) {i : Nat} (hi : (i : Int) = x) : D.FW N i = D.Wt i := by unfold FW; rw [hi, if_neg (fun k => h k.1)]
theorem fresh_V (h : ¬ N x < D.L D.p) {i : Nat} (hi : (i : Int) = x) : D.FV N i = D.V i := by unfold FV; rw [hi, if_neg (fun k => h k.1)]
theorem fresh_U (h : ¬ N x < D.L D.p) {r j : Nat} (hj : D.UX r j = x) : D.FU N r j = D.UU r j := by unfold FU; rw [hj, if_neg (fun k => h k.1)]
theorem fresh_Q (h : ¬ N x < D.L D.p) {r j : Nat} (hj : D.UX r j = x) : D.FQ N r j = D.UV r j := by unfold FQ; rw [hj, if_neg (fun k => h k.1)]
/-- nothing taken off: the store as it came -/
theorem none_W (h : ∀ x, N x = D.L D.p) (i : Nat) : D.FW N i = D.Wt i := fresh_W (x := i) (by rw [h]; exact Nat.lt_irrefl _) rfl
theorem none_V (h : ∀ x, N x = D.L D.p) (i : Nat) : D.FV N i = D.V i := fresh_V (x := i) (by rw [h]; exact Nat.lt_irrefl _) rfl
theorem none_U (h : ∀ x, N x = D.L D.p) (r j : Nat) : D.FU N r j = D.UU r j := fresh_U (x := D.UX r j) (by rw [h]; exact Nat.lt_irrefl _) rfl
theorem none_Q (h : ∀ x, N x = D.L D.p) (r j : Nat) : D.FQ N r j = D.UV r j := fresh_Q (x := D.UX r j) (by rw [h]; exact Nat.lt_irrefl _) rfl

/-- the run's own row is on no chain -/
theorem own_row (hf : D.Fit) (N : Int → Nat) (hN : ∀ x, N x < D.L D.p → D.UX D.p (N x) = x) (j : Nat) : D.FU N D.p j = D.UU D.p j ∧ D.FQ N D.p j = D.UV D.p j := by
  have key : ¬ (N (D.UX D.p j) < D.L D.p ∧ D.hit (D.UX D.p j) D.p j = true) := by
    rintro ⟨h1, h2⟩
    obtain ⟨_, _, k3, _, k5⟩ := hit_out h2
    have hg := (hf.2 _ h1).2.2.2
    rw [hN _ h1] at hg
    exact (hg.2.2 (D.T (D.UX D.p j) - 1) (by omega)).2.2.1 k5
  constructor
  · unfold FU; rw [if_neg key]
  · unfold FQ; rw [if_neg (fun h => key ⟨h.1, h.2.1⟩)]

end ED
end Go.Proofs.Qxb6620996a
