import Derived.Test.Qxb6620996aDueKit
import Derived.BigRegion
namespace Go.Proofs.Qxb6620996a
open Go.RowKit Go.Deep
set_option linter.unusedVariables false

/-- What the outer loop of ZZDue keeps: the first k rows are laid. -/
structure Outer (w wr : World) (n k : Nat) (L : Nat → Nat) (Z X : Nat → Nat → Int) (E : Nat → Nat → Bool) : Prop where
  bel : Below w.heap.size w wr
  top : wr.rowIs w.heap.size 59 n (fun r => if r < k then .slice (some ⟨w.heap.size + 2 + r, 0, none⟩) (L r) (L r) else .slice none 0 0)
  box : wr.heap[w.heap.size + 1]? = some (.cells #[.slice (some ⟨w.heap.size, 0, none⟩) n n] 58 (0, 0))
  rows : ∀ r, r < k → PR wr (w.heap.size + 2 + r) (L r) (L r) (Z r) (X r) (E r)

section
variable {w wr : World} {n k : Nat} {L : Nat → Nat} {Z X : Nat → Nat → Int} {E : Nat → Nat → Bool}

theorem Outer.drew (h : Outer w wr n k L Z X E) : Outer w wr.drew n k L Z X E := ⟨h.bel.drew, h.top.drew, h.box, h.rows⟩

theorem Outer.alloc (h : Outer w wr n k L Z X E) (o : Obj) : Outer w (wr.alloc o) n k L Z X E :=
  ⟨h.bel.alloc (by have := lt_of_block h.box; omega) o, h.top.alloc o, by rw [blk_alloc_lt _ _ _ (lt_of_block h.box)]; exact h.box,
   fun r hr => (h.rows r hr).of_block (blk_alloc_lt _ _ _ (h.rows r hr).lt)⟩

theorem Outer.set (h : Outer w wr n k L Z X E) (c : Nat) (v : Value) : Outer w (wr.setCell ⟨w.heap.size + 2 + k, c, none⟩ v) n k L Z X E :=
  ⟨h.bel.setCell (by simp; omega) v, h.top.setOther (by simp; omega) v, by rw [heap_setCell_other _ _ _ _ (by simp; omega)]; exact h.box,
   fun r hr => (h.rows r hr).of_block (heap_setCell_other _ _ _ _ (by simp; omega))⟩

theorem Outer.next (h : Outer w wr n k L Z X E) (hk : k < n) (hp : PR wr (w.heap.size + 2 + k) (L k) (L k) (Z k) (X k) (E k)) :
    Outer w (wr.setCell ⟨w.heap.size, k, none⟩ (.slice (some ⟨w.heap.size + 2 + k, 0, none⟩) (L k) (L k))) n (k + 1) L Z X E := by
  refine ⟨h.bel.setCell (Nat.le_refl _) _, (h.top.set k _).congr (fun i hi => ?_), ?_, fun r hr => ?_⟩
  · by_cases e : i = k
    · subst e; simp
    · by_cases e2 : i < k
      · simp [e, e2, show i < k + 1 by omega]
      · simp [e, e2, show ¬ i < k + 1 by omega]
  · rw [heap_setCell_other _ _ _ _ (by simp)]; exact h.box
  · by_cases e : r = k
    · subst e; exact hp.of_block (heap_setCell_other _ _ _ _ (by simp; omega))
    · exact (h.rows r (by omega)).of_block (heap_setCell_other _ _ _ _ (by simp; omega))

theorem Outer.start (w : World) (n : Nat) : Outer w ((w.alloc (.cells (madeCells #[.slice none 0 0] n) 59)).alloc (.cells #[.slice (some ⟨w.heap.size, 0, none⟩) n n] 58)) n 0 L Z X E :=
  ⟨((Below.refl _ _).alloc (Nat.le_refl _) _).alloc (by simp) _, ((World.rowIs_made w (.slice none 0 0) n 59).congr (fun i hi => by simp)).alloc _, heap_alloc2_new _ _ _, fun r hr => absurd hr (by omega)⟩

/-- the round's three stores -/
theorem Outer.laid (h : Outer w wr n k L Z X E) {j : Nat} (v0 v1 v2 : Value) :
    Outer w (((wr.setCell ⟨w.heap.size + 2 + k, j * 3, none⟩ v0).setCell ⟨w.heap.size + 2 + k, j * 3 + 1, none⟩ v1).setCell ⟨w.heap.size + 2 + k, j * 3 + 2, none⟩ v2) n k L Z X E :=
  ((h.set _ _).set _ _).set _ _

theorem Outer.keep (h : Outer w wr n k L Z X E) {b o : Nat} {v : Value} (hc : w.cell? ⟨b, o, none⟩ = some v) : wr.cell? ⟨b, o, none⟩ = some v :=
  (h.bel.cell (p := ⟨b, o, none⟩) (block_lt_of_cell hc)).trans hc
end

/-- What the last loop of ZZDue keeps. -/
structure Out3 (w wr : World) (sb g n m f j : Nat) (Z X : Nat → Int) (E : Nat → Bool) : Prop where
  bel : Below w.heap.size w wr
  src : PR wr sb n n Z X E
  r0 : wr.rowIs g 21 m (fun i => if i < j then .int .i32 (Z (f + i)) else .int .i32 0)
  r1 : wr.rowIs (g + 1) 21 m (fun i => if i < j then .int .i32 (X (f + i)) else .int .i32 0)
  r2 : wr.rowIs (g + 1 + 1) 4 m (fun i => if i < j then .bool (E (f + i)) else .bool false)

theorem Out3.step {w wr : World} {sb g n m f j : Nat} {Z X : Nat → Int} {E : Nat → Bool} (h : Out3 w wr sb g n m f j Z X E) (hg : w.heap.size ≤ g) (hsb : sb < g) :
    Out3 w (((wr.setCell ⟨g, j, none⟩ (.int .i32 (Z (f + j)))).setCell ⟨g + 1, j, none⟩ (.int .i32 (X (f + j)))).setCell ⟨g + 1 + 1, j, none⟩ (.bool (E (f + j)))) sb g n m f (j + 1) Z X E := by
  have key : ∀ (u : Nat → Value) (z : Value) (i : Nat), (if i = j then u j else if i < j then u i else z) = if i < j + 1 then u i else z := by
    intro u z i
    by_cases e : i = j
    · subst e; simp
    · by_cases e2 : i < j
      · simp [e, e2, show i < j + 1 by omega]
      · simp [e, e2, show ¬ i < j + 1 by omega]
  refine ⟨((h.bel.setCell hg _).setCell (by simp; omega) _).setCell (by simp; omega) _, ((h.src.setOther (by simp; omega) _).setOther (by simp; omega) _).setOther (by simp; omega) _, ?_, ?_, ?_⟩
  · exact (((h.r0.set j _).setOther (by simp) _).setOther (by simp; omega) _).congr (fun i _ => key (fun i => .int .i32 (Z (f + i))) _ i)
  · exact (((h.r1.setOther (by simp) _).set j _).setOther (by simp) _).congr (fun i _ => key (fun i => .int .i32 (X (f + i))) _ i)
  · exact (((h.r2.setOther (by simp; omega) _).setOther (by simp) _).set j _).congr (fun i _ => key (fun i => .bool (E (f + i))) _ i)

/-- What ZZDue hands back: the run of 'next' in row q, in three new rows. -/
def ZAns (n : Nat) (Z X : Nat → Int) (E : Nat → Bool) (next : Int) (e : Ending) (w' : World) : Prop :=
  ∃ f t g0 g1 g2 m, IsRun n Z next f t ∧ m = t - f ∧ e = .returned (.tuple #[.slice (some ⟨g0, 0, none⟩) m m, .slice (some ⟨g1, 0, none⟩) m m, .slice (some ⟨g2, 0, none⟩) m m]) ∧
    w'.rowIs g0 21 m (fun i => .int .i32 (Z (f + i))) ∧ w'.rowIs g1 21 m (fun i => .int .i32 (X (f + i))) ∧ w'.rowIs g2 4 m (fun i => .bool (E (f + i)))

set_option maxHeartbeats 2000000 in
theorem zzdue_any (a0 a1 a2 : Option Addr) (n c0 c1 c2 q : Nat) (next : Int) (A0 A1 A2 : Nat → Option Addr) (L C0 C1 C2 : Nat → Nat) (Z X : Nat → Nat → Int) (E : Nat → Nat → Bool) (w : World)
    (h0 : Sl w a0 n (fun r => .slice (A0 r) (L r) (C0 r))) (h1 : Sl w a1 n (fun r => .slice (A1 r) (L r) (C1 r))) (h2 : Sl w a2 n (fun r => .slice (A2 r) (L r) (C2 r)))
    (hz : ∀ r, r < n → Sl w (A0 r) (L r) (fun j => .int .i32 (Z r j))) (hx : ∀ r, r < n → Sl w (A1 r) (L r) (fun j => .int .i32 (X r j))) (he : ∀ r, r < n → Sl w (A2 r) (L r) (fun j => .bool (E r j)))
    (hn : n ≤ 1048576) (hL : ∀ r, r < n → L r ≤ 1048576) (hq : q < n) (hs : ∀ j, j + 1 < L q → Z q j ≤ Z q (j + 1)) (hZ : ∀ j, -2147483648 ≤ Z q j ∧ Z q j ≤ 2147483647) :
    Calls Try.prog 9 #[.slice a0 n c0, .slice a1 n c1, .slice a2 n c2, .int .i64 q, .int .i64 next] w fun e w' =>
      ZAns (L q) (Z q) (X q) (E q) next e w' ∧ Below w.heap.size w w' := by
  have hst := Outer.start (L := L) (Z := Z) (X := X) (E := E) w n
  have hsz0 : ((w.alloc (.cells (madeCells #[.slice none 0 0] n) 59)).alloc (.cells #[.slice (some ⟨w.heap.size, 0, none⟩) n n] 58)).heap.size = w.heap.size + 2 := by simp only [Go.Deep.nblk_alloc]
  have mk0 := run_make_row' (P := Try.prog) 56 59 (.slice none 0 0) 24 Try.underlying56 info59 rfl .i64 .i64 n (by omega) (by omega)
  go_enter Try.func9, Try.ntmps9
  go_wp2
  generalize ((w.alloc (.cells (madeCells #[.slice none 0 0] n) 59)).alloc (.cells #[.slice (some ⟨w.heap.size, 0, none⟩) n n] 58)) = ws at *
  go_loopw [28] (fun i wr => ∃ k : Nat, k ≤ n ∧ i = .int .i64 k ∧ wr.heap.size = w.heap.size + 2 + k ∧ Outer w wr n k L Z X E) (fun i _ => n - (intOf i).toNat)
  case atStart => exact ⟨0, Nat.zero_le _, rfl, hsz0, hst⟩
  case round =>
    clear hsz0
    obtain ⟨k, hk, rfl, hsz, hout⟩ := hrel
    by_cases hlt : k < n
    · have hLk := hL k hlt
      obtain ⟨b, off, rfl, hc⟩ := h0 k hlt
      obtain ⟨b1, off1, rfl, hc1⟩ := h1 k hlt
      obtain ⟨b2, off2, rfl, hc2⟩ := h2 k hlt
      have hbl : b < w.heap.size := block_lt_of_cell hc
      have hbl2 : b < w.heap.size + 2 + k := by omega
      have hc' := (hout.bel.cell (p := ⟨b, off + k, none⟩) (block_lt_of_cell hc)).trans hc
      have mk1 := run_make_row3 (P := Try.prog) 59 61 (.int .i32 0) (.int .i32 0) (.bool false) 12 Try.underlying59 info61 .i64 .i64 (L k) (by omega) (by omega)
      have hzk := hz k hlt
      have hxk := hx k hlt
      have hek := he k hlt
      have hpr : PR (wr.alloc (.cells (madeCells #[.int .i32 0, .int .i32 0, .bool false] (L k * 3)) 61)) wr.heap.size (L k) 0 (Z k) (X k) (E k) := PR.made _ _ _ _ _
      rw [hsz] at hpr
      have hout1 := hout.alloc (.cells (madeCells #[.int .i32 0, .int .i32 0, .bool false] (L k * 3)) 61)
      have hsz1 : (wr.alloc (.cells (madeCells #[.int .i32 0, .int .i32 0, .bool false] (L k * 3)) 61)).heap.size = w.heap.size + 2 + k + 1 := by simp [hsz]
      clear hst mk0
      clear h0 h1 h2 hz hx he hL
      go_wp2
      generalize wr.alloc (.cells (madeCells #[.int .i32 0, .int .i32 0, .bool false] (L k * 3)) 61) = w1 at *
      clear hc' hbl2 mk1 hout hsz
      go_loopw [42] (fun i wi => ∃ j : Nat, j ≤ L k ∧ i = .int .i64 j ∧ wi.heap.size = w.heap.size + 2 + k + 1 ∧ Outer w wi n k L Z X E ∧ PR wi (w.heap.size + 2 + k) (L k) j (Z k) (X k) (E k)) (fun i _ => L k - (intOf i).toNat)
      case atStart => exact ⟨0, Nat.zero_le _, rfl, hsz1, hout1, hpr⟩
      case round =>
        clear hsz1 hout1 hpr
        obtain ⟨j, hj, rfl, hsz, hout, hpr⟩ := hrel
        by_cases hjl : j < L k
        · obtain ⟨ba, oa, ha, hza⟩ := hzk j hjl
          obtain ⟨bx, ox, hax, hxa⟩ := hxk j hjl
          obtain ⟨be, oe, hae, hea⟩ := hek j hjl
          rw [ha] at hc
          rw [hax] at hc1
          rw [hae] at hc2
          have hc' := hout.keep hc
          have hc1' := hout.keep hc1
          have hc2' := hout.keep hc2
          have hza' := hout.keep hza
          have hxa' := hout.keep hxa
          have hea' := hout.keep hea
          obtain ⟨u0, u1, u2, hu0, hu1, hu2⟩ := hpr.old hjl
          have hf0 := hpr.free (j * 3)
          have hf1 := hpr.free (j * 3 + 1)
          have hf2 := hpr.free (j * 3 + 2)
          have hpr2 := hpr.set hjl
          have hout2 := hout.laid (j := j) (.int .i32 (Z k j)) (.int .i32 (X k j)) (.bool (E k j))
          clear ha hax hae hza hxa hea hc hc1 hc2 hzk hxk hek
          go_wp2
          go_region
          go_wp2
          go_roundw
          case rel => exact ⟨j + 1, by omega, by go_num, by simpa using hsz, hout2.drew, hpr2.drew⟩
          case measure => simp [intOf]; omega
        · obtain rfl : j = L k := by omega
          have hnx := hout.next hlt hpr
          have hct := hout.top.cell hlt
          have hft := hout.top.frozen k
          have hbx := cell_of_one hout.box
          simp only [Nat.lt_irrefl, if_false] at hct
          clear hc hc1 hc2 hzk hxk hek
          go_wp2
          go_roundw
          case rel => exact ⟨k + 1, by omega, by go_num, by simp only [Go.Deep.nblk_setCell]; omega, hnx⟩
          case measure => simp [intOf]; omega
    · obtain rfl : k = n := by omega
      have hbx := cell_of_one hout.box
      have hsl : Sl wr (some ⟨w.heap.size, 0, none⟩) k (fun r => .slice (some ⟨w.heap.size + 2 + r, 0, none⟩) (L r) (L r)) :=
        sl_of_row (hout.top.congr (fun i hi => by simp [hi]))
      have hrow := hout.rows q hq
      have hG : w.heap.size + 2 + q < wr.heap.size := by omega
      have hLq := hL q hq
      have hZ' : Hid (∀ j, -2147483648 ≤ Z q j ∧ Z q j ≤ 2147483647) := hZ
      have hs' : Hid (∀ j, j + 1 < L q → Z q j ≤ Z q (j + 1)) := hs
      clear h0 h1 h2 hz hx he hL mk0 hst hZ hs
      go_wp2_with fail
      refine (due_any _ k k q next (fun r => w.heap.size + 2 + r) L (Z q) (X q) (E q) _ hsl hq hn hLq hrow.rw hs'.out hG hZ'.out).mono ?_
      rintro e w1 ⟨⟨a, f, t, m, c', rfl, hm, hrun, ha⟩, hb⟩
      have hm' : Hid (m = t - f) := hm
      have ha' : Hid (f < t → a = some ⟨w.heap.size + 2 + q, f * 3, none⟩) := ha
      have hml : m ≤ 1048576 := by have := hrun.2.1; omega
      have hout1 : Below w.heap.size w w1 := hout.bel.trans (hb.mono (by omega))
      have hrow1 : PR w1 (w.heap.size + 2 + q) (L q) (L q) (Z q) (X q) (E q) := hrow.of_block (hb.block _ hG)
      have hG1 : w.heap.size + 2 + q < w1.heap.size := hrow1.lt
      clear hm ha hb hrow hG hsl hbx hout hsz
      have mk1 := run_make_row' (P := Try.prog) 25 21 (.int .i32 0) 4 Try.underlying25 info21 rfl .i64 .i64 m (by omega) (by omega)
      have mk2 := run_make_row' (P := Try.prog) 26 4 (.bool false) 1 Try.underlying26 info4 rfl .i64 .i64 m (by omega) (by omega)
      have r0 := ((World.rowIs_made w1 (.int .i32 0) m 21).alloc (.cells (madeCells #[.int .i32 0] m) 21)).alloc (.cells (madeCells #[.bool false] m) 4)
      have r1 := ((World.rowIs_made (w1.alloc (.cells (madeCells #[.int .i32 0] m) 21)) (.int .i32 0) m 21)).alloc (.cells (madeCells #[.bool false] m) 4)
      have r2 := World.rowIs_made ((w1.alloc (.cells (madeCells #[.int .i32 0] m) 21)).alloc (.cells (madeCells #[.int .i32 0] m) 21)) (.bool false) m 4
      simp only [Go.Deep.nblk_alloc] at r1 r2
      have hrow4 := ((hrow1.alloc (.cells (madeCells #[.int .i32 0] m) 21)).alloc (.cells (madeCells #[.int .i32 0] m) 21)).alloc (.cells (madeCells #[.bool false] m) 4)
      have hout4 := ((hout1.alloc (by omega) (.cells (madeCells #[.int .i32 0] m) 21)).alloc (by simp only [Go.Deep.nblk_alloc]; omega) (.cells (madeCells #[.int .i32 0] m) 21)).alloc (by simp only [Go.Deep.nblk_alloc]; omega) (.cells (madeCells #[.bool false] m) 4)
      have hO : Out3 w (((w1.alloc (.cells (madeCells #[.int .i32 0] m) 21)).alloc (.cells (madeCells #[.int .i32 0] m) 21)).alloc (.cells (madeCells #[.bool false] m) 4)) (w.heap.size + 2 + q) w1.heap.size (L q) m f 0 (Z q) (X q) (E q) :=
        ⟨hout4, hrow4, r0.congr (fun i _ => by simp), r1.congr (fun i _ => by simp), r2.congr (fun i _ => by simp)⟩
      clear hrow1 hout1 hrow4 hout4 r0 r1 r2
      go_wp2
      generalize (((w1.alloc (.cells (madeCells #[.int .i32 0] m) 21)).alloc (.cells (madeCells #[.int .i32 0] m) 21)).alloc (.cells (madeCells #[.bool false] m) 4)) = w4 at *
      clear mk1 mk2
      go_loopw [92] (fun i wr => ∃ j : Nat, j ≤ m ∧ i = .int .i64 j ∧ Out3 w wr (w.heap.size + 2 + q) w1.heap.size (L q) m f j (Z q) (X q) (E q)) (fun i _ => m - (intOf i).toNat)
      case atStart => exact ⟨0, Nat.zero_le _, rfl, hO⟩
      case round =>
        clear hO
        obtain ⟨j, hj, rfl, hO⟩ := hrel
        by_cases hjm : j < m
        · obtain rfl := ha'.out (by have := hm'.out; omega)
          have hfj : f + j < L q := by have := hm'.out; have := hrun.2.1; omega
          obtain ⟨s0, s1, s2⟩ := hO.src.rw (f + j) hfj
          rw [Nat.add_mul] at s0 s1 s2
          have t0 := hO.r0.cell hjm
          have t1 := hO.r1.cell hjm
          have t2 := hO.r2.cell hjm
          have f0 := hO.r0.frozen j
          have f1 := hO.r1.frozen j
          have f2 := hO.r2.frozen j
          have hn := hO.step (by omega) hG1
          simp only [Nat.lt_irrefl, if_false] at t0 t1 t2
          go_wp2
          go_roundw
          case rel => exact ⟨j + 1, by omega, by go_num, hn⟩
          case measure => simp [intOf]; omega
        · obtain rfl : j = m := by omega
          go_wp2
          go_ret3
          exact ⟨⟨f, t, _, _, _, _, hrun, hm'.out, rfl, hO.r0.congr (fun i hi => by simp [hi]), hO.r1.congr (fun i hi => by simp [hi]), hO.r2.congr (fun i hi => by simp [hi])⟩, hO.bel⟩
end Go.Proofs.Qxb6620996a
