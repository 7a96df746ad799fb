import Derived.Test.Qxb6620996aSmall
import Derived.BigRegion
import Derived.Deep.LoopGhost
namespace Go.Proofs.Qxb6620996a
open Go.RowKit Go.Deep
set_option linter.unusedVariables false

theorem info88 : (Try.prog.info? 88).map (fun i => (i.zero, i.size, i.bytes)) = some (some (.agg #[.int .i32 0, .int .i32 0, .int .i64 0]), 3, 16) := by kernel_rfl
theorem info86 : (Try.prog.info? 86).map (fun i => (i.zero, i.size, i.bytes)) = some (some (.slice none 0 0), 1, 24) := by kernel_rfl

/-- A row of n elements of three cells, of which the first k are laid. -/
def R3 (w : World) (b : Nat) (t : TypeId) (n k : Nat) (F0 F1 F2 : Nat → Value) : Prop :=
  ∃ cs : Array Value, w.heap[b]? = some (.cells cs t (0, 0)) ∧ cs.size = n * 3 ∧
    ∀ j, j < k → cs[j * 3]? = some (F0 j) ∧ cs[j * 3 + 1]? = some (F1 j) ∧ cs[j * 3 + 2]? = some (F2 j)

section
variable {w : World} {b n k : Nat} {t : TypeId} {F0 F1 F2 : Nat → Value}

theorem R3.made (w : World) (n : Nat) (t : TypeId) (z0 z1 z2 : Value) : R3 (w.alloc (.cells (madeCells #[z0, z1, z2] (n * 3)) t)) w.heap.size t n 0 F0 F1 F2 :=
  ⟨_, blk_alloc_new _ _, size_madeCells _ _, fun j hj => absurd hj (by omega)⟩
theorem R3.lt (h : R3 w b t n k F0 F1 F2) : b < w.heap.size := by obtain ⟨cs, hb, _⟩ := h; exact lt_of_block hb
theorem R3.of_block {w' : World} (h : R3 w b t n k F0 F1 F2) (e : w'.heap[b]? = w.heap[b]?) : R3 w' b t n k F0 F1 F2 := by
  obtain ⟨cs, hb, r⟩ := h
  exact ⟨cs, e.trans hb, r⟩
theorem R3.drew (h : R3 w b t n k F0 F1 F2) : R3 w.drew b t n k F0 F1 F2 := h
theorem R3.drewN (h : R3 w b t n k F0 F1 F2) (m : Nat) : R3 (w.drewN m) b t n k F0 F1 F2 := h
theorem R3.alloc (h : R3 w b t n k F0 F1 F2) (o : Obj) : R3 (w.alloc o) b t n k F0 F1 F2 := h.of_block (blk_alloc_lt _ _ _ h.lt)
theorem R3.setOther (h : R3 w b t n k F0 F1 F2) {a : Addr} (ha : b ≠ a.block) (v : Value) : R3 (w.setCell a v) b t n k F0 F1 F2 := h.of_block (blk_setCell_other _ _ _ _ ha)
theorem R3.old (h : R3 w b t n k F0 F1 F2) {j : Nat} (hj : j < n) :
    ∃ u0 u1 u2, w.cell? ⟨b, j * 3, none⟩ = some u0 ∧ w.cell? ⟨b, j * 3 + 1, none⟩ = some u1 ∧ w.cell? ⟨b, j * 3 + 2, none⟩ = some u2 := by
  obtain ⟨cs, hb, hs, _⟩ := h
  have g : ∀ i, i < cs.size → w.cell? ⟨b, i, none⟩ = some (cs[i]?.getD undef) := fun i hi => by simp [World.cell?, hb, hi]
  exact ⟨_, _, _, g _ (by omega), g _ (by omega), g _ (by omega)⟩
theorem R3.free (h : R3 w b t n k F0 F1 F2) (i : Nat) : w.frozen? ⟨b, i, none⟩ = false := by
  obtain ⟨cs, hb, _⟩ := h
  simp [World.frozen?, hb]
theorem R3.cells (h : R3 w b t n k F0 F1 F2) {j : Nat} (hj : j < k) : w.cell? ⟨b, j * 3, none⟩ = some (F0 j) ∧ w.cell? ⟨b, j * 3 + 1, none⟩ = some (F1 j) ∧ w.cell? ⟨b, j * 3 + 2, none⟩ = some (F2 j) := by
  obtain ⟨cs, hb, hs, hc⟩ := h
  obtain ⟨c0, c1, c2⟩ := hc j hj
  simp [World.cell?, hb, c0, c1, c2]
theorem R3.congr {G0 G1 G2 : Nat → Value} (h : R3 w b t n k F0 F1 F2) (e : ∀ j, j < k → F0 j = G0 j ∧ F1 j = G1 j ∧ F2 j = G2 j) : R3 w b t n k G0 G1 G2 := by
  obtain ⟨cs, hb, hs, hc⟩ := h
  exact ⟨cs, hb, hs, fun j hj => by rw [← (e j hj).1, ← (e j hj).2.1, ← (e j hj).2.2]; exact hc j hj⟩
theorem R3.set (h : R3 w b t n k F0 F1 F2) (hk : k < n) :
    R3 (((w.setCell ⟨b, k * 3, none⟩ (F0 k)).setCell ⟨b, k * 3 + 1, none⟩ (F1 k)).setCell ⟨b, k * 3 + 2, none⟩ (F2 k)) b t n (k + 1) F0 F1 F2 := by
  obtain ⟨cs, hb, hs, hc⟩ := h
  have h1 := heap_setCell_same w b (k * 3) _ _ (F0 k) hb
  have h2 := heap_setCell_same _ b (k * 3 + 1) _ _ (F1 k) h1
  have h3 := heap_setCell_same _ b (k * 3 + 2) _ _ (F2 k) h2
  refine ⟨_, h3, by simpa using hs, fun j hj => ?_⟩
  simp only [Array.getElem?_setIfInBounds, Array.size_setIfInBounds]
  by_cases e : j = k
  · subst e
    refine ⟨?_, ?_, ?_⟩
    · rw [if_neg (by omega), if_neg (by omega), if_pos rfl, if_pos (by omega)]
    · rw [if_neg (by omega), if_pos rfl, if_pos (by omega)]
    · rw [if_pos rfl, if_pos (by omega)]
  · obtain ⟨c0, c1, c2⟩ := hc j (by omega)
    refine ⟨?_, ?_, ?_⟩
    · rw [if_neg (by omega), if_neg (by omega), if_neg (by omega)]; exact c0
    · rw [if_neg (by omega), if_neg (by omega), if_neg (by omega)]; exact c1
    · rw [if_neg (by omega), if_neg (by omega), if_neg (by omega)]; exact c2
/-- the middle cell of element j stored -/
theorem R3.set1 (h : R3 w b t n k F0 F1 F2) {j : Nat} (v : Value) : R3 (w.setCell ⟨b, j * 3 + 1, none⟩ v) b t n k F0 (fun i => if i = j then v else F1 i) F2 := by
  obtain ⟨cs, hb, hs, hc⟩ := h
  refine ⟨_, heap_setCell_same w b (j * 3 + 1) _ _ v hb, by simpa using hs, fun i hi => ?_⟩
  obtain ⟨c0, c1, c2⟩ := hc i hi
  simp only [Array.getElem?_setIfInBounds]
  have hsz : i * 3 + 1 < cs.size := by
    rcases Nat.lt_or_ge (i * 3 + 1) cs.size with h' | h'
    · exact h'
    · rw [Array.getElem?_eq_none h'] at c1; cases c1
  refine ⟨by rw [if_neg (by omega)]; exact c0, ?_, by rw [if_neg (by omega)]; exact c2⟩
  by_cases e : i = j
  · subst e; rw [if_pos rfl, if_pos hsz, if_pos rfl]
  · rw [if_neg (by omega), if_neg e]; exact c1
/-- the last cell of element j stored -/
theorem R3.set2 (h : R3 w b t n k F0 F1 F2) {j : Nat} (v : Value) : R3 (w.setCell ⟨b, j * 3 + 2, none⟩ v) b t n k F0 F1 (fun i => if i = j then v else F2 i) := by
  obtain ⟨cs, hb, hs, hc⟩ := h
  refine ⟨_, heap_setCell_same w b (j * 3 + 2) _ _ v hb, by simpa using hs, fun i hi => ?_⟩
  obtain ⟨c0, c1, c2⟩ := hc i hi
  simp only [Array.getElem?_setIfInBounds]
  have hsz : i * 3 + 2 < cs.size := by
    rcases Nat.lt_or_ge (i * 3 + 2) cs.size with h' | h'
    · exact h'
    · rw [Array.getElem?_eq_none h'] at c2; cases c2
  refine ⟨by rw [if_neg (by omega)]; exact c0, by rw [if_neg (by omega)]; exact c1, ?_⟩
  by_cases e : i = j
  · subst e; rw [if_pos rfl, if_pos hsz, if_pos rfl]
  · rw [if_neg (by omega), if_neg e]; exact c2
end

/-- THE STORE OF THE REAL CODE: the struct at block S; the outer undo slice at bU, row r at bU + 1 + r; values, writers and counts in rows of their own below bU. -/
structure Sto (w : World) (S bU bv bw be : Nat) (av aw ae : Option Addr) (cv cw ce : Nat) (D : ED) (Vs Ws Es : Nat → Int) (Us Qs : Nat → Nat → Int) : Prop where
  box : w.heap[S]? = some (.cells #[.pointer none, .slice av D.m cv, .slice (some ⟨bU, 0, none⟩) D.nr D.nr, .bool true, .slice aw D.m cw, .slice none 0 0, .slice ae D.nr ce] 93 (0, 0))
  outer : w.rowIs bU 86 D.nr (fun r => .slice (some ⟨bU + 1 + r, 0, none⟩) (D.L r) (D.L r))
  rows : ∀ r, r < D.nr → R3 w (bU + 1 + r) 88 (D.L r) (D.L r) (fun j => .int .i32 (D.UX r j)) (fun j => .int .i32 (Us r j)) (fun j => .int .i64 (Qs r j))
  vals : 0 < D.m → av = some ⟨bv, 0, none⟩ ∧ w.rowIs bv 2 D.m (fun i => .int .i64 (Vs i))
  wris : 0 < D.m → aw = some ⟨bw, 0, none⟩ ∧ w.rowIs bw 21 D.m (fun i => .int .i32 (Ws i))
  ends : 0 < D.nr → ae = some ⟨be, 0, none⟩ ∧ w.rowIs be 2 D.nr (fun i => .int .i64 (Es i))

/-- the blocks lie apart -/
structure Apart (S bU bv bw be nr m : Nat) : Prop where
  s : S = bU + 1 + nr
  v : 0 < m → bv < bU ∧ bv ≠ bw ∧ bv ≠ be
  w : 0 < m → bw < bU ∧ bw ≠ be
  e : be < bU

theorem Sto.field {w : World} {S bU bv bw be : Nat} {av aw ae : Option Addr} {cv cw ce : Nat} {D : ED} {Vs Ws Es : Nat → Int} {Us Qs : Nat → Nat → Int} (h : Sto w S bU bv bw be av aw ae cv cw ce D Vs Ws Es Us Qs) :
    w.cell? ⟨S, 1, none⟩ = some (.slice av D.m cv) ∧ w.cell? ⟨S, 2, none⟩ = some (.slice (some ⟨bU, 0, none⟩) D.nr D.nr) ∧ w.cell? ⟨S, 4, none⟩ = some (.slice aw D.m cw) ∧ w.cell? ⟨S, 6, none⟩ = some (.slice ae D.nr ce) := by
  have hb := h.box
  simp [World.cell?, hb]

/-- what overwriterOf hands back -/
def OwAns (bU : Nat) (D : ED) (x : Int) (T : Nat) (s : Nat → Int) (e : Ending) : Prop :=
  ∃ o, e = .returned (.pointer o) ∧ ((T = 0 ∨ s T = 0) → o = none) ∧ (∀ k, T = k + 1 → s T = D.self → o = some ⟨bU + 1 + ((s k).toNat - 1), D.g ((s k).toNat - 1) x * 3, none⟩)

set_option maxHeartbeats 2000000 in
theorem overwriter_any (S bU bv bw be : Nat) (av aw ae : Option Addr) (cv cw ce : Nat) (D : ED) (Vs Ws Es : Nat → Int) (Us Qs : Nat → Nat → Int) (w : World) (x sf : Int) (T : Nat) (s : Nat → Int)
    (h : Sto w S bU bv bw be av aw ae cv cw ce D Vs Ws Es Us Qs) (hx0 : 0 ≤ x) (hx1 : x < D.m) (hm : D.m ≤ 4096) (hnr : D.nr ≤ 256) (hL : ∀ r, r < D.nr → D.L r ≤ 256)
    (hsf : sf = D.self) (hs0 : s 0 = Ws x.toNat) (hs : ∀ k, k < T → 1 ≤ s k ∧ s k ≤ D.nr ∧ s k ≠ D.self ∧ D.g ((s k).toNat - 1) x < D.L ((s k).toNat - 1) ∧ s (k + 1) = Us ((s k).toNat - 1) (D.g ((s k).toNat - 1) x))
    (hT : s T = 0 ∨ s T = D.self) :
    Calls Try.prog 38 #[.pointer (some ⟨S, 0, none⟩), .int .i32 x, .int .i32 sf] w fun e w' => OwAns bU D x T s e ∧ w' = w := by
  obtain ⟨_, f2, f4, _⟩ := h.field
  obtain ⟨rfl, hw⟩ := h.wris (by omega)
  have hcx := hw.cell (i := x.toNat) (by omega)
  have ho := h.outer
  have hrows := h.rows
  obtain ⟨nr, hnrr⟩ : ∃ nr, nr = D.nr := ⟨_, rfl⟩
  obtain ⟨m, hmm⟩ : ∃ m, m = D.m := ⟨_, rfl⟩
  rw [← hnrr] at f2 ho hrows hs hL hnr
  rw [← hmm] at f4 hx1 hm
  rw [← hs0] at hcx
  have hs' : Hid (∀ k, k < T → 1 ≤ s k ∧ s k ≤ nr ∧ s k ≠ D.self ∧ D.g ((s k).toNat - 1) x < D.L ((s k).toNat - 1) ∧ s (k + 1) = Us ((s k).toNat - 1) (D.g ((s k).toNat - 1) x)) := hs
  have hT' : Hid (s T = 0 ∨ s T = D.self) := hT
  have hsf' : Hid (sf = D.self) := hsf
  clear h hw hs0 hs hT hsf hnrr hmm
  go_enter Try.func38, Try.ntmps38
  go_wp2
  clear hcx f4
  go_loopg [7] T (fun gk u wr => ∃ k : Nat, k + gk = T ∧ wr = w ∧ u = .int .i32 (s k) ∧ Hid (0 < k → s k ≠ D.self))
  case atStart => exact ⟨0, by omega, rfl, rfl, fun h => absurd h (by omega)⟩
  case round =>
    obtain ⟨k, hk, rfl, rfl, hne⟩ := hrel
    obtain ⟨cu, hcu⟩ : ∃ cu, cu = s k := ⟨_, rfl⟩
    have HCU : Hid (cu = s k) := hcu
    rw [← hcu]
    clear hcu
    have hself : Hid (D.self ≠ 0) := by show ((D.p : Int) + 1) ≠ 0; omega
    by_cases hz0 : cu = 0
    · have hans : Hid (OwAns bU D x T s (.returned (.pointer none))) := by
        have hkT : ¬ k < T := fun h => by
          have := (hs'.out k h).1
          rw [← HCU.out] at this
          omega
        obtain rfl : k = T := by omega
        refine ⟨none, rfl, fun _ => rfl, fun k' hk' h => ?_⟩
        exact absurd (h.symm.trans (HCU.out.symm.trans hz0)) hself.out
      subst hz0
      clear ho hrows f2
      go_wp2
      go_ret
      exact ⟨hans.out, rfl⟩
    · have hzb0 : (cu != 0) = true := ineT hz0
      by_cases hz1 : cu = sf
      · have hans : Hid (OwAns bU D x T s (.returned (.pointer none))) := by
          have e1 : s k = D.self := HCU.out.symm.trans (hz1.trans hsf'.out)
          have hkT : ¬ k < T := fun h => (hs'.out k h).2.2.1 e1
          have hk0 : k = 0 := by
            rcases Nat.eq_zero_or_pos k with h | h
            · exact h
            · exact absurd e1 (hne.out h)
          refine ⟨none, rfl, fun _ => rfl, fun k' hk' h => ?_⟩
          omega
        have hzb1 : (cu != sf) = false := ineF hz1
        clear ho hrows f2 hz1
        go_wp2
        go_ret
        exact ⟨hans.out, rfl⟩
      · have hzb1 : (cu != sf) = true := ineT hz1
        have hkT : k < T := by
          rcases Nat.lt_or_ge k T with h | h
          · exact h
          · obtain rfl : k = T := by omega
            rcases hT'.out with h1 | h1
            · exact absurd (HCU.out.trans h1) hz0
            · exact absurd ((HCU.out.trans h1).trans hsf'.out.symm) hz1
        obtain ⟨g1, g2, g3, g4, g5⟩ := hs'.out k hkT
        rw [← HCU.out] at g1 g2 g4 g5
        have hr : cu.toNat - 1 < nr := by omega
        have hco := ho.cell hr
        have hrow := hrows _ hr
        have hLr := hL _ hr
        have hgl : Hid (fi (D.L (cu.toNat - 1)) (D.UX (cu.toNat - 1)) x < D.L (cu.toNat - 1)) := g4
        have hnx : Hid (s (k + 1) = Us (cu.toNat - 1) (D.g (cu.toNat - 1) x)) := g5
        have hout : Hid (∀ k', T = k' + 1 → k' = k → bU + 1 + ((s k').toNat - 1) = bU + 1 + (cu.toNat - 1) ∧ D.g ((s k').toNat - 1) x = D.g (cu.toNat - 1) x) := by
          intro k' _ h
          rw [h, ← HCU.out]
          exact ⟨rfl, rfl⟩
        have hg : Hid (D.g (cu.toNat - 1) x = fi (D.L (cu.toNat - 1)) (D.UX (cu.toNat - 1)) x) := rfl
        clear ho hrows hL g3 g4 g5 hne hz1 hz0
        generalize D.L (cu.toNat - 1) = l at *
        go_wp2
        go_loop [33, 8] (fun i f => ∃ i' : Nat, i' ≤ l ∧ i = .int .i64 i' ∧ f = .pointer none ∧ Hid (∀ j, j < i' → D.UX (cu.toNat - 1) j ≠ x)) (fun i _ => l - (intOf i).toNat)
        case atStart => exact ⟨0, Nat.zero_le _, rfl, rfl, fun j hj => absurd hj (by omega)⟩
        case round =>
          obtain ⟨i, hi, rfl, rfl, hmin⟩ := hrel
          by_cases hil : i < l
          · obtain ⟨t0, t1, _⟩ := hrow.cells hil
            by_cases hux : D.UX (cu.toNat - 1) i = x
            · have hgi : D.g (cu.toNat - 1) x = i := hg.out.trans (fi_eq (by omega) hmin.out (fun _ => hux))
              have hux' : (D.UX (cu.toNat - 1) i == x) = true := ieqT hux
              have hnx2 : s (k + 1) = Us (cu.toNat - 1) i := by rw [hnx.out, hgi]
              clear hnx hux hrow
              by_cases hu : Us (cu.toNat - 1) i = sf
              · have hu' : (Us (cu.toNat - 1) i == sf) = true := ieqT hu
                have hans : Hid (OwAns bU D x T s (.returned (.pointer (some ⟨bU + 1 + (cu.toNat - 1), i * 3, none⟩)))) := by
                  have e1 : s (k + 1) = D.self := hnx2.trans (hu.trans hsf'.out)
                  have hkT2 : ¬ k + 1 < T := fun h => (hs'.out _ h).2.2.1 e1
                  have hTk : T = k + 1 := by omega
                  refine ⟨_, rfl, fun h => ?_, fun k' hk' h => ?_⟩
                  · rcases h with h | h
                    · omega
                    · rw [hTk, e1] at h; exact absurd h hself.out
                  · obtain ⟨h1, h2⟩ := hout.out k' hk' (by omega)
                    rw [h1, h2, hgi]
                clear hu hnx2 hgi
                go_wp2
                go_ret
                exact ⟨hans.out, rfl⟩
              · have hu' : (Us (cu.toNat - 1) i == sf) = false := ieqF hu
                have hne2 : Hid (s (k + 1) ≠ D.self) := fun h => hu (hnx2.symm.trans (h.trans hsf'.out.symm))
                have hnx3 : Hid (s (k + 1) = Us (cu.toNat - 1) i) := hnx2
                clear hu hnx2 hgi
                go_wp2
                go_roundg (gk - 1)
                case measure => omega
                case rel => exact ⟨k + 1, by omega, rfl, by rw [hnx3.out], fun _ => hne2.out⟩
            · have hux' : (D.UX (cu.toNat - 1) i == x) = false := ieqF hux
              clear hrow
              go_wp2
              go_round
              case rel => exact ⟨i + 1, by omega, by go_num, rfl, all_succ hmin.out hux⟩
              case measure => simp [intOf]; omega
          · exfalso
            have h1 := hgl.out
            have h2 : fi l (D.UX (cu.toNat - 1)) x = i := fi_eq hi hmin.out (fun h => absurd h hil)
            omega
end Go.Proofs.Qxb6620996a
