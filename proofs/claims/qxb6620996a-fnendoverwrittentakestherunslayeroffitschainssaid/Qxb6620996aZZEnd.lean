import Derived.Test.Qxb6620996aEndRun
namespace Go.Proofs.Qxb6620996a
open Go.RowKit Go.Deep
set_option linter.unusedVariables false

theorem endRun_any (S bU bv bw be : Nat) (av aw ae : Option Addr) (cv cw ce : Nat) (D : ED) (Es : Nat → Int) (w : World) (B : Nat)
    (h : StoN w S bU bv bw be av aw ae cv cw ce D (D.NR 0) Es) (A : Apart S bU bv bw be D.nr D.m) (hf : D.Fit) (hB : (0 < D.m → B ≤ bv ∧ B ≤ bw) ∧ B ≤ be ∧ B ≤ bU)
    (hm : D.m ≤ 4096) (hnr : D.nr ≤ 256) (hL : ∀ r, r < D.nr → D.L r ≤ 256) :
    Calls Try.prog 36 #[.pointer (some ⟨S, 0, none⟩), .int .i64 D.p, .bool D.com] w fun e w' => e = .returned (.tuple #[]) ∧ Done w' S bU bv bw be av aw ae cv cw ce D Es ∧ Below B w w' := by
  cases hc : D.com with
  | false => exact endRun_abort S bU bv bw be av aw ae cv cw ce D Es w B h A hf hB hm hnr hL hc
  | true => exact endRun_commit S bU bv bw be av aw ae cv cw ce D Es w B h A hf hB hm hnr hL hc

theorem Done.below {w w' : World} {S bU bv bw be : Nat} {av aw ae : Option Addr} {cv cw ce : Nat} {D : ED} {Es : Nat → Int} (h : Done w S bU bv bw be av aw ae cv cw ce D Es) (hb : Below w.heap.size w w') : Done w' S bU bv bw be av aw ae cv cw ce D Es :=
  ⟨(hb.block _ (lt_of_block h.box)).trans h.box, h.outer.of_block (hb.block _ h.outer.lt), fun r hr => (h.rows r hr).of_block (hb.block _ (h.rows r hr).lt), fun hm => ⟨(h.vals hm).1, (h.vals hm).2.of_block (hb.block _ (h.vals hm).2.lt)⟩,
   fun hm => ⟨(h.wris hm).1, (h.wris hm).2.of_block (hb.block _ (h.wris hm).2.lt)⟩, fun hm => ⟨(h.ends hm).1, (h.ends hm).2.of_block (hb.block _ (h.ends hm).2.lt)⟩⟩

/-- What the outer loop of ZZEndOverwritten keeps: the first k rows are laid. -/
structure OuterE (w wr : World) (n k : Nat) (L : Nat → Nat) (X U Q : Nat → Nat → Int) : Prop where
  bel : Below w.heap.size w wr
  top : wr.rowIs w.heap.size 86 n (fun r => if r < k then .slice (some ⟨w.heap.size + 1 + r, 0, none⟩) (L r) (L r) else .slice none 0 0)
  rows : ∀ r, r < k → R3 wr (w.heap.size + 1 + r) 88 (L r) (L r) (fun j => .int .i32 (X r j)) (fun j => .int .i32 (U r j)) (fun j => .int .i64 (Q r j))

section
variable {w wr : World} {n k : Nat} {L : Nat → Nat} {X U Q : Nat → Nat → Int}

theorem OuterE.drew (h : OuterE w wr n k L X U Q) : OuterE w wr.drew n k L X U Q := ⟨h.bel.drew, h.top.drew, h.rows⟩
theorem OuterE.alloc (h : OuterE w wr n k L X U Q) (o : Obj) : OuterE w (wr.alloc o) n k L X U Q :=
  ⟨h.bel.alloc (by have := h.top.lt; omega) o, h.top.alloc o, fun r hr => (h.rows r hr).alloc o⟩
theorem OuterE.set (h : OuterE w wr n k L X U Q) (c : Nat) (v : Value) : OuterE w (wr.setCell ⟨w.heap.size + 1 + k, c, none⟩ v) n k L X U Q :=
  ⟨h.bel.setCell (by simp; omega) v, h.top.setOther (by simp; omega) v, fun r hr => (h.rows r hr).setOther (by simp; omega) v⟩
theorem OuterE.next (h : OuterE w wr n k L X U Q) (hk : k < n) (hp : R3 wr (w.heap.size + 1 + k) 88 (L k) (L k) (fun j => .int .i32 (X k j)) (fun j => .int .i32 (U k j)) (fun j => .int .i64 (Q k j))) :
    OuterE w (wr.setCell ⟨w.heap.size, k, none⟩ (.slice (some ⟨w.heap.size + 1 + k, 0, none⟩) (L k) (L k))) n (k + 1) L X U Q := by
  refine ⟨h.bel.setCell (Nat.le_refl _) _, (h.top.set k _).congr (fun i hi => ?_), fun r hr => ?_⟩
  · by_cases e : i = k
    · subst e; simp
    · by_cases e2 : i < k
      · simp [e, e2, show i < k + 1 by omega]
      · simp [e, e2, show ¬ i < k + 1 by omega]
  · by_cases e : r = k
    · subst e; exact hp.setOther (by simp; omega) _
    · exact (h.rows r (by omega)).setOther (by simp; omega) _
theorem OuterE.start (w : World) (n : Nat) : OuterE w (w.alloc (.cells (madeCells #[.slice none 0 0] n) 86)) n 0 L X U Q :=
  ⟨(Below.refl _ _).alloc (Nat.le_refl _) _, (World.rowIs_made w (.slice none 0 0) n 86).congr (fun i hi => by simp), fun r hr => absurd hr (by omega)⟩
theorem OuterE.laid (h : OuterE w wr n k L X U Q) {j : Nat} (v0 v1 v2 : Value) :
    OuterE w (((wr.setCell ⟨w.heap.size + 1 + k, j * 3, none⟩ v0).setCell ⟨w.heap.size + 1 + k, j * 3 + 1, none⟩ v1).setCell ⟨w.heap.size + 1 + k, j * 3 + 2, none⟩ v2) n k L X U Q :=
  ((h.set _ _).set _ _).set _ _
theorem OuterE.keep (h : OuterE w wr n k L X U Q) {b o : Nat} {v : Value} (hc : w.cell? ⟨b, o, none⟩ = some v) : wr.cell? ⟨b, o, none⟩ = some v :=
  (h.bel.cell (p := ⟨b, o, none⟩) (block_lt_of_cell hc)).trans hc
end

/-- the three columns that ZZEndOverwritten hands back, the first k rows laid -/
structure Cols (wr : World) (G nr k : Nat) (R n : Nat → Nat) (X U Q : Nat → Nat → Int) : Prop where
  t0 : wr.rowIs G 25 nr (fun r => if r < k then .slice (some ⟨R r, 0, none⟩) (n r) (n r) else .slice none 0 0)
  t1 : wr.rowIs (G + 1) 25 nr (fun r => if r < k then .slice (some ⟨R r + 1, 0, none⟩) (n r) (n r) else .slice none 0 0)
  t2 : wr.rowIs (G + 1 + 1) 43 nr (fun r => if r < k then .slice (some ⟨R r + 1 + 1, 0, none⟩) (n r) (n r) else .slice none 0 0)
  rows : ∀ r, r < k → G + 1 + 1 < R r ∧ wr.rowIs (R r) 21 (n r) (fun j => .int .i32 (X r j)) ∧ wr.rowIs (R r + 1) 21 (n r) (fun j => .int .i32 (U r j)) ∧ wr.rowIs (R r + 1 + 1) 2 (n r) (fun j => .int .i64 (Q r j))

theorem Cols.of_below {w w' : World} {G nr k : Nat} {R n : Nat → Nat} {X U Q : Nat → Nat → Int} (h : Cols w G nr k R n X U Q) (hb : Below w.heap.size w w') : Cols w' G nr k R n X U Q :=
  ⟨h.t0.of_block (hb.block _ h.t0.lt), h.t1.of_block (hb.block _ h.t1.lt), h.t2.of_block (hb.block _ h.t2.lt), fun r hr => ⟨(h.rows r hr).1, (h.rows r hr).2.1.of_block (hb.block _ (h.rows r hr).2.1.lt),
   (h.rows r hr).2.2.1.of_block (hb.block _ (h.rows r hr).2.2.1.lt), (h.rows r hr).2.2.2.of_block (hb.block _ (h.rows r hr).2.2.2.lt)⟩⟩

/-- a fresh row, the first j of its cells laid -/
def Part (w : World) (b : Nat) (t : TypeId) (n j : Nat) (f : Nat → Value) (z : Value) : Prop := w.rowIs b t n (fun i => if i < j then f i else z)

theorem Cols.next {wr w1 : World} {G nr k b : Nat} {R n : Nat → Nat} {X U Q : Nat → Nat → Int} (h : Cols wr G nr k R n X U Q) (hk : k < nr) (hb : b = wr.heap.size) (hbel : Below b wr w1)
    (r0 : w1.rowIs b 21 (n k) (fun j => .int .i32 (X k j))) (r1 : w1.rowIs (b + 1) 21 (n k) (fun j => .int .i32 (U k j))) (r2 : w1.rowIs (b + 1 + 1) 2 (n k) (fun j => .int .i64 (Q k j))) :
    Cols (((w1.setCell ⟨G, k, none⟩ (.slice (some ⟨b, 0, none⟩) (n k) (n k))).setCell ⟨G + 1, k, none⟩ (.slice (some ⟨b + 1, 0, none⟩) (n k) (n k))).setCell ⟨G + 1 + 1, k, none⟩ (.slice (some ⟨b + 1 + 1, 0, none⟩) (n k) (n k)))
      G nr (k + 1) (upf R k b) n X U Q := by
  have hG : G + 1 + 1 < b := by rw [hb]; exact h.t2.lt
  have key : ∀ (F : Nat → Value) (i : Nat), (∀ r, r ≠ k → True) → True := fun _ _ _ => trivial
  refine ⟨?_, ?_, ?_, fun r hr => ?_⟩
  · refine ((((h.t0.of_block (hbel.block _ (by omega))).set k _).setOther (by simp) _).setOther (by simp; omega) _).congr (fun i _ => ?_)
    by_cases e : i = k
    · subst e; simp [upf]
    · by_cases e2 : i < k
      · simp [upf, e, e2, show i < k + 1 by omega]
      · simp [e, e2, show ¬ i < k + 1 by omega]
  · refine ((((h.t1.of_block (hbel.block _ (by omega))).setOther (by simp) _).set k _).setOther (by simp) _).congr (fun i _ => ?_)
    by_cases e : i = k
    · subst e; simp [upf]
    · by_cases e2 : i < k
      · simp [upf, e, e2, show i < k + 1 by omega]
      · simp [e, e2, show ¬ i < k + 1 by omega]
  · refine ((((h.t2.of_block (hbel.block _ (by omega))).setOther (by simp; omega) _).setOther (by simp) _).set k _).congr (fun i _ => ?_)
    by_cases e : i = k
    · subst e; simp [upf]
    · by_cases e2 : i < k
      · simp [upf, e, e2, show i < k + 1 by omega]
      · simp [e, e2, show ¬ i < k + 1 by omega]
  · by_cases e : r = k
    · subst e
      simp only [upf, if_true]
      exact ⟨hG, ((r0.setOther (by simp; omega) _).setOther (by simp; omega) _).setOther (by simp; omega) _, ((r1.setOther (by simp; omega) _).setOther (by simp; omega) _).setOther (by simp; omega) _, ((r2.setOther (by simp; omega) _).setOther (by simp; omega) _).setOther (by simp; omega) _⟩
    · obtain ⟨h0, h1, h2, h3⟩ := h.rows r (by omega)
      have l1 := h1.lt
      have l2 := h2.lt
      have l3 := h3.lt
      simp only [upf, e, if_false]
      exact ⟨h0, (((h1.of_block (hbel.block _ (by omega))).setOther (by simp; omega) _).setOther (by simp; omega) _).setOther (by simp; omega) _, (((h2.of_block (hbel.block _ (by omega))).setOther (by simp; omega) _).setOther (by simp; omega) _).setOther (by simp; omega) _,
        (((h3.of_block (hbel.block _ (by omega))).setOther (by simp; omega) _).setOther (by simp; omega) _).setOther (by simp; omega) _⟩

end Go.Proofs.Qxb6620996a
