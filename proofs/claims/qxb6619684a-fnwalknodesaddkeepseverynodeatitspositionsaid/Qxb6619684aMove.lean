import Derived.Test.Qxb6619684aAdd
import Derived.OpenShut
namespace Go.Proofs.Qxb6619684a
open Go.RowKit Go.Deep Go.Maps
set_option linter.unusedVariables false

def key32 (x : Nat) : Value := .int .u32 x
theorem inv29 (key : Value) (kl : Lit) (h : keyOf Try.prog 29 key = some kl) : ∃ x : Nat, key = key32 x := by
  obtain ⟨x, rfl, rfl, hw⟩ := Maps.keyOf_int_inv Try.underlying29 h
  have := bounds_u32 hw
  exact ⟨x.toNat, by simp [key32]; omega⟩
theorem is29 {x : Nat} {kl : Lit} (h : keyOf Try.prog 29 (key32 x) = some kl) : kl = K29 x := by
  obtain ⟨x', e, rfl, hw⟩ := Maps.keyOf_int_inv Try.underlying29 h
  simp [key32] at e
  subst e
  rfl
theorem inv36 (v : Value) (y : DataW Unit × List MemPlace) (h : R36 v = some y) : ∃ c, v = PV c := by
  obtain ⟨o, h1, _⟩ := R36_inv h
  exact ⟨o, h1⟩
theorem set_three1 {w : World} {tb : Nat} {a b c : Value} (h : w.rowIs tb 61 3 (three a b c)) (v : Value) : (w.setCell ⟨tb, 1, none⟩ v).rowIs tb 61 3 (three a v c) :=
  (h.set 1 v).congr (fun i hi => by
    rcases (show i = 0 ∨ i = 1 ∨ i = 2 by omega) with rfl | rfl | rfl <;> simp [three])
theorem set_three2 {w : World} {tb : Nat} {a b c : Value} (h : w.rowIs tb 61 3 (three a b c)) (v : Value) : (w.setCell ⟨tb, 2, none⟩ v).rowIs tb 61 3 (three a b v) :=
  (h.set 2 v).congr (fun i hi => by
    rcases (show i = 0 ∨ i = 1 ∨ i = 2 by omega) with rfl | rfl | rfl <;> simp [three])

/-- the row that is being filled off the map -/
def part (left : Lit → Bool) (M : Nat → Option Nat) (q : Nat) : Value := if left (K29 q) = true then .pointer none else PV (M q)

theorem part_step {w : World} {db n x : Nat} {left : Lit → Bool} {M : Nat → Option Nat} (h : w.rowIs db 36 n (part left M)) (hx : x < n) :
    (w.setCell ⟨db, x, none⟩ (PV (M x))).rowIs db 36 n (part (fun z => left z && !z.sameKey (K29 x)) M) := by
  refine (h.set x _).congr (fun i hi => ?_)
  by_cases e : i = x
  · subst e
    have : (K29 i).sameKey (K29 i) = true := by simp [K29, Lit.sameKey]
    simp [part, this]
  · have : (K29 i).sameKey (K29 x) = false := sameKey_ne (K29_ne e)
    simp [part, this, e]

/-- the move from the map into the slice -/
theorem add_move (tb mb n k p b cnt : Nat) (M : Nat → Option Nat) (D : DataW Unit) (w : World) (h : w.rowIs tb 61 3 (three (.int .u32 n) (.map (some mb)) (.slice none 0 0)))
    (hown : w.ownsMap Try.prog 29 R36 mb k D) (hD : Rd D M cnt) (hc : n / 8 ≤ cnt) (hk : k ≤ 65536) (hp : p < n) (hn : n ≤ 65536) (hM : ∀ q, M q ≠ none → q < n) :
    Calls Try.prog 30 #[.pointer (some ⟨tb, 0, none⟩), .int .u32 p, .pointer (some ⟨b, 0, none⟩)] w fun e w' =>
      e = .returned (.tuple #[]) ∧ w.grownBy w' (some tb) ∧ w'.rowIs tb 61 3 (three (.int .u32 n) (.map none) (.slice (some ⟨w.heap.size, 0, none⟩) n n)) ∧
      w'.rowIs w.heap.size 36 n (fun r => PV (upd M p b r)) := by
  have htl := h.lt
  have hml := hown.lt
  have hmt : mb ≠ tb := by
    intro e
    subst e
    obtain ⟨es, cl, hb, _⟩ := hown
    obtain ⟨c, hc, _⟩ := h
    rw [hb] at hc; cases hc
  have h0 : w.cell? ⟨tb, 0, none⟩ = some (.int .u32 n) := h.cell (i := 0) (by omega)
  have h1 : w.cell? ⟨tb, 1, none⟩ = some (.map (some mb)) := h.cell (i := 1) (by omega)
  have h2 : w.cell? ⟨tb, 2, none⟩ = some (.slice none 0 0) := h.cell (i := 2) (by omega)
  have f2 : w.frozen? ⟨tb, 2, none⟩ = false := h.frozen 2
  have hnil := fun w => Lib.run_eql_slice_nil (P := Try.prog) w 34 36 none 0 0 0 0 Try.underlying34
  have hnil2 := fun w bb => run_neq_slice_nil_any (P := Try.prog) w 34 36 (some ⟨bb, 0, none⟩) n n 0 0 Try.underlying34
  have hlen := fun (m : Nat) (ty : TypeId) => World.ownsMap.len (w := w.drewN m) hown Try.underlying39 ty
  rw [hD.size'] at hlen
  have mk0 := run_make_row' (P := Try.prog) 34 36 (.pointer none) 8 Try.underlying34 info36 rfl .u32 .u32 n (by omega) (by omega)
  obtain ⟨e8, he8⟩ : ∃ e8, e8 = n / 8 := ⟨_, rfl⟩
  have E : Hid (∀ m, Calls Try.prog 33 #[.int .u32 n] (w.drewN m) fun e w' => e = .returned (.int .i64 (e8 : Int)) ∧ w' = w.drewN m) := fun m => by rw [he8]; exact dense_any n _ hn
  rw [← he8] at hc
  have hge : decide ((e8 : Int) ≤ (cnt : Int)) = true := decide_eq_true (by omega)
  clear he8
  have hown' : Hid (w.ownsMap Try.prog 29 R36 mb k D) := hown
  have hD' : Hid (Rd D M cnt) := hD
  have h' : Hid (w.rowIs tb 61 3 (three (.int .u32 n) (.map (some mb)) (.slice none 0 0))) := h
  have hM' : Hid (∀ q, M q ≠ none → q < n) := hM
  clear h hown hD hM
  go_enter Try.func30, Try.ntmps30
  go_wp2
  go_quiet ((go_at_call 33; exact Calls.quiet_of_same (E.out _)))
  clear hlen E
  clear hge
  obtain ⟨wq, hwq⟩ : ∃ wq, wq = w.drewN nq := ⟨_, rfl⟩
  have hG0 : w.grownBy wq (some tb) := by rw [hwq]; exact grown_drew (World.grownBy.refl _ _)
  have hsz : wq.heap.size = w.heap.size := by rw [hwq]; rfl
  have h'q : wq.rowIs tb 61 3 (three (.int .u32 n) (.map (some mb)) (.slice none 0 0)) := by rw [hwq]; exact h'.out
  have hownq : wq.ownsMap Try.prog 29 R36 mb k D := by rw [hwq]; exact own_drew hown'.out
  rw [← hwq]
  clear hwq h0 h1 h2 f2 hown' h'
  rw [← hsz] at htl hml
  have hszH : Hid (wq.heap.size = w.heap.size) := hsz
  clear hsz
  have h0 : wq.cell? ⟨tb, 0, none⟩ = some (.int .u32 n) := h'q.cell (i := 0) (by omega)
  have h1 : wq.cell? ⟨tb, 1, none⟩ = some (.map (some mb)) := h'q.cell (i := 1) (by omega)
  have h2 : wq.cell? ⟨tb, 2, none⟩ = some (.slice none 0 0) := h'q.cell (i := 2) (by omega)
  have f2 : wq.frozen? ⟨tb, 2, none⟩ = false := h'q.frozen 2
  have hown' : Hid (wq.ownsMap Try.prog 29 R36 mb k D) := hownq
  have h' : Hid (wq.rowIs tb 61 3 (three (.int .u32 n) (.map (some mb)) (.slice none 0 0))) := h'q
  have hG' : Hid (w.grownBy wq (some tb)) := hG0
  clear h'q hownq hG0
  obtain ⟨w2, hw2⟩ : ∃ w2, w2 = (wq.setCell ⟨tb, 2, none⟩ (.slice (some ⟨wq.heap.size, 0, none⟩) n n)).alloc (.cells (madeCells #[.pointer none] n) 36) := ⟨_, rfl⟩
  have hsz2 : Hid (w2.heap.size = wq.heap.size + 1) := by
    show w2.heap.size = wq.heap.size + 1
    rw [hw2]; simp
  have hT2 : Hid (w2.rowIs tb 61 3 (three (.int .u32 n) (.map (some mb)) (.slice (some ⟨wq.heap.size, 0, none⟩) n n))) := by
    rw [hw2]; exact (set_three2 h'.out _).alloc _
  have hB2 : Hid (w2.rowIs wq.heap.size 36 n (fun _ => .pointer none)) := by
    have := World.rowIs_made (wq.setCell ⟨tb, 2, none⟩ (.slice (some ⟨wq.heap.size, 0, none⟩) n n)) (.pointer none) n 36
    rw [← hw2] at this
    show w2.rowIs wq.heap.size 36 n (fun _ => .pointer none)
    simpa using this
  have hO2 : Hid (w2.ownsMap Try.prog 29 R36 mb k D) := by
    rw [hw2]; exact (hown'.out.setCell hmt _).alloc _
  have hG2 : Hid (w.grownBy w2 (some tb)) := by
    rw [hw2]
    exact (hG'.out.andThen (grown_set wq ⟨tb, 2, none⟩ _) (fun j hj => Or.inr hj)).andThen (World.grownBy_alloc _ _ none) (fun j hj => by cases hj)
  have hw2' : Hid (w2 = (wq.setCell ⟨tb, 2, none⟩ (.slice (some ⟨wq.heap.size, 0, none⟩) n n)).alloc (.cells (madeCells #[.pointer none] n) 36)) := hw2
  clear hw2
  go_wp2_with (first
    | (at_range; refine wpList_range_own _ rfl _ 39 rfl 29 36 law29 Try.underlying39 R36 mb k D rfl ((hown'.out.setCell hmt _).alloc _) ?_; rw [← hw2'.out]; intro w0 hrg0 hg0 hs0)
    | go_in)
  go_frame
  clear h0 h1 h2 f2 mk0 hnil hw2' hs0
  have hszl : Hid (∀ wr, w2.grownBy wr none → wq.heap.size < wr.heap.size) := fun wr hg => by have := hg.size; have := hsz2.out; omega
  obtain ⟨r, hr⟩ : ∃ r, r = w2.heap.size := ⟨_, rfl⟩
  rw [← hr] at hrg0 ⊢
  have hr' : Hid (r = w2.heap.size) := hr
  clear hr
  have hrw : wq.heap.size < r := by rw [hr'.out, hsz2.out]; omega
  go_loopw [6] (fun _ wr => ∃ (left : Lit → Bool) (cnt' : Nat), wr.ranges Try.prog 29 R36 mb r k D left cnt' ∧ wr.rowIs tb 61 3 (three (.int .u32 n) (.map (some mb)) (.slice (some ⟨wq.heap.size, 0, none⟩) n n)) ∧
      wr.rowIs wq.heap.size 36 n (part left M) ∧ (∀ q, left (K29 q) = true → M q ≠ none) ∧ w.grownBy wr (some tb)) (fun _ wr => wr.rangeLeft mb r)
  case atStart =>
    refine ⟨_, _, hrg0, hT2.out.of_block (hg0.block tb hT2.out.lt (by simp)), ?_, fun q hq => ?_, hG2.out.andThen hg0 (fun j hj => by cases hj)⟩
    · refine (hB2.out.of_block (hg0.block _ hB2.out.lt (by simp))).congr (fun q _ => ?_)
      unfold part
      rw [hD'.out.has']
      cases M q <;> rfl
    · rw [hD'.out.has'] at hq
      intro e
      rw [e] at hq; cases hq
  case round =>
    clear hrg0 hg0 hT2 hB2 hO2 hG2 hG' hown' h'
    obtain ⟨left, cnt', hrg, hT, hB, hL, hG⟩ := hrel
    have hL' : Hid (∀ q, left (K29 q) = true → M q ≠ none) := hL
    clear hL
    go_wp2_with (first
      | (at_next; refine wpList_next_ranges _ rfl _ rfl 29 law29 R36 key32 PV inv29 inv36 mb r k D _ _ rfl hrg ?_ ?_)
      | go_in)
    · intro hc0 hl0
      have hB' : Hid (wr.rowIs wq.heap.size 36 n (fun q => PV (M q))) := hB.congr (fun q _ => by simp [part, hl0])
      have hT' : Hid (wr.rowIs tb 61 3 (three (.int .u32 n) (.map (some mb)) (.slice (some ⟨wq.heap.size, 0, none⟩) n n))) := hT
      have hGH : Hid (w.grownBy wr (some tb)) := hG
      have t1 : wr.cell? ⟨tb, 1, none⟩ = some (.map (some mb)) := hT.cell (i := 1) (by omega)
      have t2 : wr.cell? ⟨tb, 2, none⟩ = some (.slice (some ⟨wq.heap.size, 0, none⟩) n n) := hT.cell (i := 2) (by omega)
      have f1 := hT.frozen 1
      have d0 := hB'.out.cell hp
      have f0 := hB'.out.frozen p
      have hne : wq.heap.size ≠ tb := by omega
      have hne2 : tb ≠ wq.heap.size := by omega
      clear hT hB hG hrg hl0 hL' hM' hD'
      go_wp2
      refine bodyPost_ret (v := .tuple #[]) (by simp [results, Try.results30, go_sem]) rfl ?_
      refine ⟨rfl, ?_, ?_, ?_⟩
      · refine (hGH.out.andThen (grown_set wr ⟨tb, 1, none⟩ _) (fun j hj => Or.inr hj)).andThen (grown_set _ ⟨wq.heap.size, p, none⟩ _) (fun j hj => Or.inl ?_)
        cases hj
        exact Nat.le_of_eq hszH.out.symm
      · rw [← hszH.out]
        exact (set_three1 hT'.out _).setOther hne2 _
      · rw [← hszH.out]
        refine ((hB'.out.setOther hne _).set p _).congr (fun i hi => ?_)
        by_cases e : i = p
        · subst e; simp [upd, PV]
        · simp [upd, e]
    · intro x c kl y ps w1 cnt1 hkx hlx hRc hat hrg1 hlt hg1 hs1 hen
      obtain rfl := is29 hkx
      rw [R36_mk] at hRc
      cases hRc
      obtain ⟨b', hb'⟩ : ∃ b', M x = some b' := by
        cases hm : M x with
        | none => exact absurd hm (hL'.out x hlx)
        | some b' => exact ⟨b', rfl⟩
      have hcb : c = some b' := by
        have e1 := hat (.lit (PL none))
        rw [hD'.out.at' x b' hb'] at e1
        injection e1 with e2
        exact (PL_inj e2).symm
      subst hcb
      have hxn : x < n := hM'.out x (by rw [hb']; simp)
      simp only [PV, key32] at hen ⊢
      have hT1 := hT.of_block (hg1.block tb hT.lt (fun e => by have := Option.some.inj e; omega))
      have hB1 := hB.of_block (hg1.block _ hB.lt (fun e => by have := Option.some.inj e; omega))
      have t2 : w1.cell? ⟨tb, 2, none⟩ = some (.slice (some ⟨wq.heap.size, 0, none⟩) n n) := hT1.cell (i := 2) (by omega)
      have d0 := hB1.cell hxn
      have f0 := hB1.frozen x
      have hB2 : Hid ((w1.setCell ⟨wq.heap.size, x, none⟩ (.pointer (some ⟨b', 0, none⟩))).rowIs wq.heap.size 36 n (part (fun z => left z && !z.sameKey (K29 x)) M)) := by
        have h9 := part_step hB1 hxn
        rw [hb'] at h9
        exact h9
      have hrg2 := hrg1.kept (grown_set w1 ⟨wq.heap.size, x, none⟩ (.pointer (some ⟨b', 0, none⟩))) (fun e => by have := Option.some.inj e; simp at this; omega) (fun e => by have := Option.some.inj e; simp at this; omega)
      have hT2 : Hid ((w1.setCell ⟨wq.heap.size, x, none⟩ (.pointer (some ⟨b', 0, none⟩))).rowIs tb 61 3 (three (.int .u32 n) (.map (some mb)) (.slice (some ⟨wq.heap.size, 0, none⟩) n n))) := hT1.setOther (by simp; omega) _
      have hG2 : Hid (w.grownBy (w1.setCell ⟨wq.heap.size, x, none⟩ (.pointer (some ⟨b', 0, none⟩))) (some tb)) := by
        refine (hG.andThen hg1 (fun j hj => Or.inl ?_)).andThen (grown_set w1 ⟨wq.heap.size, x, none⟩ _) (fun j hj => Or.inl ?_)
        · cases hj
          have := hszH.out
          omega
        · cases hj
          exact Nat.le_of_eq hszH.out.symm
      have hLn : Hid (∀ q, (left (K29 q) && !(K29 q).sameKey (K29 x)) = true → M q ≠ none) := fun q hq => hL'.out q (by simp at hq; exact hq.1)
      have hltH : Hid (cnt1 < cnt') := hlt
      clear hat hT hB hT1 hB1 hg1 hG hb' hkx hlx hL' hM' hD' hrg1 hlt
      go_wp2
      go_roundw
      case rel => exact ⟨_, cnt1, hrg2, hT2.out, hB2.out, hLn.out, hG2.out⟩
      case measure => rw [hrg2.left_eq, hrg.left_eq]; exact hltH.out
end Go.Proofs.Qxb6619684a
