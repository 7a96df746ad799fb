import Derived.Test.Qxb6620996aStore
namespace Go.Proofs.Qxb6620996a
open Go.RowKit Go.Deep
set_option linter.unusedVariables false

section
variable {w : World} {S bU bv bw be : Nat} {av aw ae : Option Addr} {cv cw ce : Nat} {D : ED} {Vs Ws Es : Nat → Int} {Us Qs : Nat → Nat → Int}

theorem Sto.alloc (h : Sto w S bU bv bw be av aw ae cv cw ce D Vs Ws Es Us Qs) (o : Obj) : Sto (w.alloc o) S bU bv bw be av aw ae cv cw ce D Vs Ws Es Us Qs :=
  ⟨by rw [blk_alloc_lt _ _ _ (lt_of_block h.box)]; exact h.box, h.outer.alloc o, fun r hr => (h.rows r hr).alloc o, fun hm => ⟨(h.vals hm).1, (h.vals hm).2.alloc o⟩, fun hm => ⟨(h.wris hm).1, (h.wris hm).2.alloc o⟩, fun hm => ⟨(h.ends hm).1, (h.ends hm).2.alloc o⟩⟩

theorem Sto.drew (h : Sto w S bU bv bw be av aw ae cv cw ce D Vs Ws Es Us Qs) : Sto w.drew S bU bv bw be av aw ae cv cw ce D Vs Ws Es Us Qs :=
  ⟨h.box, h.outer, h.rows, h.vals, h.wris, h.ends⟩
theorem Sto.drewN (h : Sto w S bU bv bw be av aw ae cv cw ce D Vs Ws Es Us Qs) (m : Nat) : Sto (w.drewN m) S bU bv bw be av aw ae cv cw ce D Vs Ws Es Us Qs :=
  ⟨h.box, h.outer, h.rows, h.vals, h.wris, h.ends⟩

theorem Sto.congr {Vs' Ws' Es' : Nat → Int} {Us' Qs' : Nat → Nat → Int} (h : Sto w S bU bv bw be av aw ae cv cw ce D Vs Ws Es Us Qs) (e1 : ∀ i, Vs i = Vs' i) (e2 : ∀ i, Ws i = Ws' i) (e3 : ∀ i, Es i = Es' i) (e4 : ∀ r j, Us r j = Us' r j) (e5 : ∀ r j, Qs r j = Qs' r j) :
    Sto w S bU bv bw be av aw ae cv cw ce D Vs' Ws' Es' Us' Qs' := by
  obtain rfl : Vs = Vs' := funext e1
  obtain rfl : Ws = Ws' := funext e2
  obtain rfl : Es = Es' := funext e3
  obtain rfl : Us = Us' := funext fun r => funext (e4 r)
  obtain rfl : Qs = Qs' := funext fun r => funext (e5 r)
  exact h

theorem Sto.setV (h : Sto w S bU bv bw be av aw ae cv cw ce D Vs Ws Es Us Qs) (A : Apart S bU bv bw be D.nr D.m) (hm0 : 0 < D.m) (x : Nat) (v : Int) :
    Sto (w.setCell ⟨bv, x, none⟩ (.int .i64 v)) S bU bv bw be av aw ae cv cw ce D (fun i => if i = x then v else Vs i) Ws Es Us Qs := by
  have h1 := A.s
  obtain ⟨h2, h3, h4⟩ := A.v hm0
  refine ⟨by rw [blk_setCell_other _ _ _ _ (by simp; omega)]; exact h.box, h.outer.setOther (by simp; omega) _, fun r hr => (h.rows r hr).setOther (by simp; omega) _, fun hm => ⟨(h.vals hm).1, ?_⟩, fun hm => ⟨(h.wris hm).1, (h.wris hm).2.setOther (by simp; omega) _⟩, fun hm => ⟨(h.ends hm).1, (h.ends hm).2.setOther (by simp; omega) _⟩⟩
  exact ((h.vals hm).2.set x _).congr (fun i _ => by by_cases e : i = x <;> simp [e])

theorem Sto.setW (h : Sto w S bU bv bw be av aw ae cv cw ce D Vs Ws Es Us Qs) (A : Apart S bU bv bw be D.nr D.m) (hm0 : 0 < D.m) (x : Nat) (v : Int) :
    Sto (w.setCell ⟨bw, x, none⟩ (.int .i32 v)) S bU bv bw be av aw ae cv cw ce D Vs (fun i => if i = x then v else Ws i) Es Us Qs := by
  have h1 := A.s
  obtain ⟨h2, h4⟩ := A.w hm0
  obtain ⟨_, h3, _⟩ := A.v hm0
  refine ⟨by rw [blk_setCell_other _ _ _ _ (by simp; omega)]; exact h.box, h.outer.setOther (by simp; omega) _, fun r hr => (h.rows r hr).setOther (by simp; omega) _, fun hm => ⟨(h.vals hm).1, (h.vals hm).2.setOther (by simp; omega) _⟩, fun hm => ⟨(h.wris hm).1, ?_⟩, fun hm => ⟨(h.ends hm).1, (h.ends hm).2.setOther (by simp; omega) _⟩⟩
  exact ((h.wris hm).2.set x _).congr (fun i _ => by by_cases e : i = x <;> simp [e])

theorem Sto.setU (h : Sto w S bU bv bw be av aw ae cv cw ce D Vs Ws Es Us Qs) (A : Apart S bU bv bw be D.nr D.m) {r j : Nat} (hr : r < D.nr) (v : Int) :
    Sto (w.setCell ⟨bU + 1 + r, j * 3 + 1, none⟩ (.int .i32 v)) S bU bv bw be av aw ae cv cw ce D Vs Ws Es (fun r' j' => if r' = r ∧ j' = j then v else Us r' j') Qs := by
  have h1 := A.s; have h4 := A.e
  refine ⟨by rw [blk_setCell_other _ _ _ _ (by simp; omega)]; exact h.box, h.outer.setOther (by simp; omega) _, fun r' hr' => ?_, fun hm => ⟨(h.vals hm).1, (h.vals hm).2.setOther (by have := A.v hm; simp; omega) _⟩, fun hm => ⟨(h.wris hm).1, (h.wris hm).2.setOther (by have := A.w hm; simp; omega) _⟩, fun hm => ⟨(h.ends hm).1, (h.ends hm).2.setOther (by simp; omega) _⟩⟩
  by_cases e : r' = r
  · subst e
    exact ((h.rows r' hr').set1 _).congr (fun i _ => ⟨rfl, by by_cases e2 : i = j <;> simp [e2], rfl⟩)
  · exact ((h.rows r' hr').setOther (by simp; omega) _).congr (fun i _ => ⟨rfl, by simp [e], rfl⟩)

theorem Sto.setQ (h : Sto w S bU bv bw be av aw ae cv cw ce D Vs Ws Es Us Qs) (A : Apart S bU bv bw be D.nr D.m) {r j : Nat} (hr : r < D.nr) (v : Int) :
    Sto (w.setCell ⟨bU + 1 + r, j * 3 + 2, none⟩ (.int .i64 v)) S bU bv bw be av aw ae cv cw ce D Vs Ws Es Us (fun r' j' => if r' = r ∧ j' = j then v else Qs r' j') := by
  have h1 := A.s; have h4 := A.e
  refine ⟨by rw [blk_setCell_other _ _ _ _ (by simp; omega)]; exact h.box, h.outer.setOther (by simp; omega) _, fun r' hr' => ?_, fun hm => ⟨(h.vals hm).1, (h.vals hm).2.setOther (by have := A.v hm; simp; omega) _⟩, fun hm => ⟨(h.wris hm).1, (h.wris hm).2.setOther (by have := A.w hm; simp; omega) _⟩, fun hm => ⟨(h.ends hm).1, (h.ends hm).2.setOther (by simp; omega) _⟩⟩
  by_cases e : r' = r
  · subst e
    exact ((h.rows r' hr').set2 _).congr (fun i _ => ⟨rfl, rfl, by by_cases e2 : i = j <;> simp [e2]⟩)
  · exact ((h.rows r' hr').setOther (by simp; omega) _).congr (fun i _ => ⟨rfl, rfl, by simp [e]⟩)
end

/-- the store as the closed form says it -/
def StoN (w : World) (S bU bv bw be : Nat) (av aw ae : Option Addr) (cv cw ce : Nat) (D : ED) (N : Int → Nat) (Es : Nat → Int) : Prop :=
  Sto w S bU bv bw be av aw ae cv cw ce D (D.FV N) (D.FW N) Es (D.FU N) (D.FQ N)

/-- THE STORE BEHIND endOverwritten -/
structure Done (w : World) (S bU bv bw be : Nat) (av aw ae : Option Addr) (cv cw ce : Nat) (D : ED) (Es : Nat → Int) : Prop where
  box : w.heap[S]? = some (.cells #[.pointer none, .slice av D.m cv, .slice (some ⟨bU, 0, none⟩) D.nr D.nr, .bool true, .slice aw D.m cw, .slice none 0 0, .slice ae D.nr ce] 93 (0, 0))
  outer : w.rowIs bU 86 D.nr (fun r => .slice (some ⟨bU + 1 + r, 0, none⟩) (if r = D.p then 0 else D.L r) (D.L r))
  rows : ∀ r, r < D.nr → R3 w (bU + 1 + r) 88 (D.L r) (D.L r) (fun j => .int .i32 (D.UX r j)) (fun j => .int .i32 (D.FU (D.g D.p) r j)) (fun j => .int .i64 (D.FQ (D.g D.p) r j))
  vals : 0 < D.m → av = some ⟨bv, 0, none⟩ ∧ w.rowIs bv 2 D.m (fun i => .int .i64 (D.FV (D.g D.p) i))
  wris : 0 < D.m → aw = some ⟨bw, 0, none⟩ ∧ w.rowIs bw 21 D.m (fun i => .int .i32 (D.FW (D.g D.p) i))
  ends : 0 < D.nr → ae = some ⟨be, 0, none⟩ ∧ w.rowIs be 2 D.nr (fun i => .int .i64 (if i = D.p then wrap64 (Es D.p + 1) else Es i))

theorem StoN.done {w : World} {S bU bv bw be : Nat} {av aw ae : Option Addr} {cv cw ce : Nat} {D : ED} {Es : Nat → Int} {k : Nat} (h : StoN w S bU bv bw be av aw ae cv cw ce D (D.NR k) Es) (A : Apart S bU bv bw be D.nr D.m) (hk : k = D.L D.p) :
    Done ((w.setCell ⟨bU, D.p, none⟩ (.slice (some ⟨bU + 1 + D.p, 0, none⟩) 0 (D.L D.p))).setCell ⟨be, D.p, none⟩ (.int .i64 (wrap64 (Es D.p + 1)))) S bU bv bw be av aw ae cv cw ce D Es := by
  subst hk
  unfold StoN at h
  rw [ED.NR_end] at h
  have h1 := A.s; have h4 := A.e
  refine ⟨?_, ?_, fun r hr => ?_, fun hm => ⟨(h.vals hm).1, ?_⟩, fun hm => ⟨(h.wris hm).1, ?_⟩, fun hm => ⟨(h.ends hm).1, ?_⟩⟩
  · rw [blk_setCell_other _ _ _ _ (by simp; omega), blk_setCell_other _ _ _ _ (by simp; omega)]; exact h.box
  · refine ((h.outer.set _ _).setOther (by simp; omega) _).congr (fun i _ => ?_)
    by_cases e : i = D.p <;> simp [e]
  · exact ((h.rows r hr).setOther (by simp; omega) _).setOther (by simp; omega) _
  · have := A.v hm
    exact ((h.vals hm).2.setOther (by simp; omega) _).setOther (by simp; omega) _
  · have := A.w hm
    exact ((h.wris hm).2.setOther (by simp; omega) _).setOther (by simp; omega) _
  · refine (((h.ends hm).2.setOther (by simp; omega) _).set _ _).congr (fun i _ => ?_)
    by_cases e : i = D.p <;> simp [e]

theorem Done.same {w w' : World} {S bU bv bw be : Nat} {av aw ae : Option Addr} {cv cw ce : Nat} {D : ED} {Es : Nat → Int} (h : Done w S bU bv bw be av aw ae cv cw ce D Es) (e : w'.heap = w.heap) : Done w' S bU bv bw be av aw ae cv cw ce D Es :=
  have hb : ∀ k, w'.heap[k]? = w.heap[k]? := fun k => by rw [e]
  ⟨(hb _).trans h.box, h.outer.of_block (hb _), fun r hr => (h.rows r hr).of_block (hb _), fun hm => ⟨(h.vals hm).1, (h.vals hm).2.of_block (hb _)⟩, fun hm => ⟨(h.wris hm).1, (h.wris hm).2.of_block (hb _)⟩, fun hm => ⟨(h.ends hm).1, (h.ends hm).2.of_block (hb _)⟩⟩

/-- a cell of a block known whole -/
theorem cell_blk {w : World} {b : Nat} {cs : Array Value} {t : TypeId} {fr : Nat × Nat} (h : w.heap[b]? = some (.cells cs t fr)) (i : Nat) : w.cell? ⟨b, i, none⟩ = cs[i]? := by simp [World.cell?, h]

theorem Sto.same {w w' : World} {S bU bv bw be : Nat} {av aw ae : Option Addr} {cv cw ce : Nat} {D : ED} {Vs Ws Es : Nat → Int} {Us Qs : Nat → Nat → Int} (h : Sto w S bU bv bw be av aw ae cv cw ce D Vs Ws Es Us Qs) (e : w'.heap = w.heap) :
    Sto w' S bU bv bw be av aw ae cv cw ce D Vs Ws Es Us Qs :=
  have hb : ∀ k, w'.heap[k]? = w.heap[k]? := fun k => by rw [e]
  ⟨(hb _).trans h.box, h.outer.of_block (hb _), fun r hr => (h.rows r hr).of_block (hb _), fun hm => ⟨(h.vals hm).1, (h.vals hm).2.of_block (hb _)⟩, fun hm => ⟨(h.wris hm).1, (h.wris hm).2.of_block (hb _)⟩, fun hm => ⟨(h.ends hm).1, (h.ends hm).2.of_block (hb _)⟩⟩

theorem below_same {B : Nat} {w a b : World} (h : Below B w a) (e1 : b.heap = a.heap) (e2 : b.os = a.os) (e3 : b.tape = a.tape) (e4 : b.output = a.output) : Below B w b :=
  ⟨e2.trans h.os, e3.trans h.tape, e4.trans h.output, by rw [e1]; exact h.size, fun k hk => by rw [e1]; exact h.block k hk⟩

/-- THE STEP's OUTCOME IN MEMORY's WORDS: what overwriterOf is asked, and what the store must become -/
theorem step_mem {D : ED} {k i : Nat} (hf : D.Fit) (hi : i + 1 + k = D.L D.p) :
    0 ≤ D.UX D.p i ∧ D.UX D.p i < D.m ∧ D.FU (D.NR k) D.p i = D.UU D.p i ∧ D.FQ (D.NR k) D.p i = D.UV D.p i ∧
    ∃ (T : Nat) (s : Nat → Int), s 0 = D.FW (D.NR k) (D.UX D.p i).toNat ∧
      (∀ n, n < T → 1 ≤ s n ∧ s n ≤ D.nr ∧ s n ≠ D.self ∧ D.g ((s n).toNat - 1) (D.UX D.p i) < D.L ((s n).toNat - 1) ∧ s (n + 1) = D.FU (D.NR k) ((s n).toNat - 1) (D.g ((s n).toNat - 1) (D.UX D.p i))) ∧
      (s T = 0 ∨ s T = D.self) ∧
      ((T = 0 ∧ s 0 = D.self ∧ D.AtW (D.NR k) (D.NR (k + 1)) (D.UX D.p i) i ∧ D.SameU (D.NR k) (D.NR (k + 1))) ∨
       (s T = 0 ∧ s 0 ≠ D.self ∧ D.SameW (D.NR k) (D.NR (k + 1)) ∧ D.SameU (D.NR k) (D.NR (k + 1))) ∨
       (∃ n, T = n + 1 ∧ s T = D.self ∧ s 0 ≠ D.self ∧ (s n).toNat - 1 < D.nr ∧ D.g ((s n).toNat - 1) (D.UX D.p i) < D.L ((s n).toNat - 1) ∧ D.SameW (D.NR k) (D.NR (k + 1)) ∧ D.AtU (D.NR k) (D.NR (k + 1)) ((s n).toNat - 1) (D.g ((s n).toNat - 1) (D.UX D.p i)) i)) := by
  have hil : i < D.L D.p := by omega
  obtain ⟨h0, h1, h2, hg⟩ := hf.2 i hil
  have hown := ED.own_row hf (D.NR k) (fun x hx => ((ED.NR_spec k (by omega) x).2.1 hx).2) i
  have hii : D.L D.p - (k + 1) = i := by omega
  have hNR : D.NR (k + 1) = upd (D.NR k) (D.UX D.p i) i := by
    show upd (D.NR k) (D.UX D.p (D.L D.p - (k + 1))) (D.L D.p - (k + 1)) = _
    rw [hii]
  have hself : D.self ≠ 0 := by show ((D.p : Int) + 1) ≠ 0; omega
  obtain ⟨T, s, hT, ⟨hw0, hw⟩, hcase⟩ := ED.step (D := D) (N := D.NR k) (x := D.UX D.p i) (e := i) h0 hg hil (fun hN _ => by
    have := ED.NR_self hf (k := k) (by omega)
    rw [hii] at this
    exact this hN) hself
  have hidx : ∀ n, n < T → (s n - 1).toNat = (s n).toNat - 1 := fun n hn => by have := (hw n hn).1; omega
  rw [← hNR] at hcase
  refine ⟨h0, h1, hown.1, hown.2, T, s, hw0, fun n hn => ?_, ?_, ?_⟩
  · have := hw n hn
    rw [hidx n hn] at this
    exact this
  · rcases hcase with ⟨a, b, _⟩ | ⟨a, _⟩ | ⟨n, a, b, _⟩
    · rw [a]; exact Or.inr b
    · exact Or.inl a
    · exact Or.inr b
  · rcases hcase with c | c | ⟨n, a, b, c, d, e⟩
    · exact Or.inl c
    · exact Or.inr (Or.inl c)
    · have hn : n < T := by omega
      have h' := hw n hn
      rw [hidx n hn] at h' e
      exact Or.inr (Or.inr ⟨n, a, b, c, by have := h'.1; have := h'.2.1; omega, h'.2.2.2.1, d, e⟩)

set_option maxRecDepth 100000 in
set_option maxHeartbeats 4000000 in
theorem endRun_commit (S bU bv bw be : Nat) (av aw ae : Option Addr) (cv cw ce : Nat) (D : ED) (Es : Nat → Int) (w : World) (B : Nat)
    (h : StoN w S bU bv bw be av aw ae cv cw ce D (D.NR 0) Es) (A : Apart S bU bv bw be D.nr D.m) (hf : D.Fit) (hB : (0 < D.m → B ≤ bv ∧ B ≤ bw) ∧ B ≤ be ∧ B ≤ bU)
    (hm : D.m ≤ 4096) (hnr : D.nr ≤ 256) (hL : ∀ r, r < D.nr → D.L r ≤ 256) (hcom : Hid (D.com = true)) :
    Calls Try.prog 36 #[.pointer (some ⟨S, 0, none⟩), .int .i64 D.p, .bool true] w fun e w' => e = .returned (.tuple #[]) ∧ Done w' S bU bv bw be av aw ae cv cw ce D Es ∧ Below B w w' := by
  obtain ⟨f1, f2, f4, f6⟩ := h.field
  have hp := hf.1
  have hco := h.outer.cell hp
  have hLp := hL _ hp
  have hBs : B ≤ w.heap.size := by have := lt_of_block h.box; have := A.s; omega
  have hf' : Hid (D.Fit) := hf
  have hL' : Hid (∀ r, r < D.nr → D.L r ≤ 256) := hL
  clear hf hL
  go_enter Try.func36, Try.ntmps36
  go_wp2
  clear f1 f2 f4 f6 hco
  go_loopw [8] (fun s8 wr => ∃ i k : Nat, i + k = D.L D.p ∧ s8 = .int .i64 ((i : Int) - 1) ∧ StoN wr S bU bv bw be av aw ae cv cw ce D (D.NR k) Es ∧ Below B w wr) (fun s8 _ => (intOf s8 + 1).toNat)
  case atStart => exact ⟨D.L D.p, 0, rfl, rfl, h, Below.refl _ _⟩
  case round =>
    obtain ⟨i0, k, hik, rfl, hS, hbel⟩ := hrel
    rcases Nat.eq_zero_or_pos i0 with hi0 | hi0
    · subst hi0
      have hkl : k = D.L D.p := by omega
      rw [show (((0 : Nat) : Int) - 1) = -1 from rfl]
      obtain ⟨f1, f2, f4, f6⟩ := hS.field
      obtain ⟨hae, her⟩ := hS.ends (by omega)
      have ce1 := her.cell hp
      have fe1 := her.frozen D.p
      have co1 := hS.outer.cell hp
      have fo1 := hS.outer.frozen D.p
      have hfin : Hid _ := StoN.done hS A hkl
      have hb3 := (hbel.setCell (p := ⟨bU, D.p, none⟩) hB.2.2 (.slice (some ⟨bU + 1 + D.p, 0, none⟩) 0 (D.L D.p))).setCell (p := ⟨be, D.p, none⟩) hB.2.1 (.int .i64 (wrap64 (Es D.p + 1)))
      have hub : be < bU := A.e
      have hSU : bU < S := by have := A.s; omega
      have hSe : be < S := by omega
      clear hik h hkl her hbel
      subst hae
      go_wp2
      go_region
      go_wp2
      go_end0
      exact ⟨rfl, Done.same hfin.out rfl, below_same hb3 rfl rfl rfl rfl⟩
    · obtain ⟨i, rfl⟩ : ∃ i, i0 = i + 1 := ⟨i0 - 1, by omega⟩
      rw [show (((i + 1 : Nat) : Int) - 1) = (i : Int) from by omega]
      obtain ⟨hx0, hx1, hu, hv, T, s, hs0, hs, hT, hcase⟩ := step_mem hf'.out hik
      obtain ⟨t0, t1, t2⟩ := (hS.rows _ hp).cells (j := i) (by omega)
      obtain ⟨f1, f2, f4, f6⟩ := hS.field
      rw [hu] at t1
      rw [hv] at t2
      generalize hxx : D.UX D.p i = x at *
      generalize huu : D.UU D.p i = u at *
      generalize hvv : D.UV D.p i = v at *
      have hil : i < D.L D.p := by omega
      have HX : Hid (D.UX D.p i = x) := hxx
      have HU : Hid (D.UU D.p i = u) := huu
      have HV : Hid (D.UV D.p i = v) := hvv
      clear hxx huu hvv
      have hcase' : Hid _ := hcase
      have hs' : Hid _ := hs
      have hs0' : Hid _ := hs0
      have hT' : Hid _ := hT
      clear hcase hs hs0 hT hu hv h
      have hS2 := Sto.alloc hS (.cells #[.int .i32 x, .int .i32 u, .int .i64 v] 88)
      have hbel2 := hbel.alloc (by have := hbel.size; omega) (.cells #[.int .i32 x, .int .i32 u, .int .i64 v] 88)
      have hblk := blk_alloc_new wr (.cells #[.int .i32 x, .int .i32 u, .int .i64 v] 88)
      have c0 : (wr.alloc (.cells #[.int .i32 x, .int .i32 u, .int .i64 v] 88)).cell? ⟨wr.heap.size, 0, none⟩ = some (.int .i32 x) := cell_blk hblk 0
      have c1 : (wr.alloc (.cells #[.int .i32 x, .int .i32 u, .int .i64 v] 88)).cell? ⟨wr.heap.size, 1, none⟩ = some (.int .i32 u) := cell_blk hblk 1
      have c2 : (wr.alloc (.cells #[.int .i32 x, .int .i32 u, .int .i64 v] 88)).cell? ⟨wr.heap.size, 2, none⟩ = some (.int .i64 v) := cell_blk hblk 2
      have hSb : S < wr.heap.size := lt_of_block hS.box
      go_wp2_with fail
      generalize wr.alloc (.cells #[.int .i32 x, .int .i32 u, .int .i64 v] 88) = w2 at *
      refine (overwriter_any S bU bv bw be av aw ae cv cw ce D _ _ Es _ _ _ x _ T s hS2 hx0 hx1 hm hnr hL'.out rfl hs0'.out hs'.out hT'.out).mono ?_
      rintro e w' ⟨⟨o, rfl, ho1, ho2⟩, hw⟩
      subst hw
      clear hblk hS hbel t0 t1 t2 f1 f2 f4 f6
      obtain ⟨f1, f2, f4, f6⟩ := hS2.field
      have hm0 : 0 < D.m := by omega
      obtain ⟨hav, hvr⟩ := hS2.vals hm0
      obtain ⟨haw, hwr⟩ := hS2.wris hm0
      have hxm : x.toNat < D.m := by omega
      have cw1 := hwr.cell hxm
      have fw1 := hwr.frozen x.toNat
      have hm0 : 0 < D.m := by omega
      have hvb : bv < wr.heap.size := by have := A.v hm0; have := A.s; omega
      have hwb : bw < wr.heap.size := by have := A.w hm0; have := A.s; omega
      have hUb : bU + 1 + D.nr < wr.heap.size := by have := A.s; omega
      rcases hcase'.out with ⟨hT0, hs0, hAW, hSU⟩ | ⟨hsT, hs0, hSW, hSU⟩ | ⟨n, hTn, hsT, hs0, hr, hgl, hSW, hAU⟩
      · obtain rfl := ho1 (Or.inl hT0)
        have hwx : D.FW (D.NR k) x.toNat = (D.p : Int) + 1 := hs0'.out.symm.trans hs0
        rw [hwx] at cw1
        have hfin : Hid (StoN (w'.setCell ⟨bw, x.toNat, none⟩ (.int .i32 0)) S bU bv bw be av aw ae cv cw ce D (D.NR (k + 1)) Es) := by
          refine (Sto.setW hS2 A hm0 x.toNat 0).congr (fun i' => ?_) (fun i' => ?_) (fun _ => rfl) (fun r j => (hSU.1 r j).symm) (fun r j => (hSU.2 r j).symm)
          · rw [hAW.2, if_neg (fun h => by have := hcom.out; rw [h.2] at this; cases this)]
          · rw [hAW.1]
            have hnw : D.nw i = 0 := by simp [ED.nw, hcom.out]
            by_cases e : i' = x.toNat
            · rw [if_pos e, if_pos (by omega), hnw]
            · rw [if_neg e, if_neg (by omega)]
        have hb3 := hbel2.setCell (p := ⟨bw, x.toNat, none⟩) (hB.1 hm0).2 (.int .i32 0)
        clear hAW hSU hwx hs0 hT0 ho1 ho2 hvr hwr
        subst haw
        go_wp2
        go_quiet (fail)
        go_wp2
        go_region
        go_wp2
        go_roundw
        case rel => exact ⟨i, k + 1, by omega, by go_num, Sto.same hfin.out rfl, below_same hb3 rfl rfl rfl rfl⟩
        case measure => simp [intOf]
      · obtain rfl := ho1 (Or.inr hsT)
        have hwx : (D.FW (D.NR k) x.toNat == (D.p : Int) + 1) = false := ieqF (fun h => hs0 (hs0'.out.trans h))
        have hfin : Hid (StoN w' S bU bv bw be av aw ae cv cw ce D (D.NR (k + 1)) Es) :=
          Sto.congr hS2 (fun i' => (hSW.2 i').symm) (fun i' => (hSW.1 i').symm) (fun _ => rfl) (fun r j => (hSU.1 r j).symm) (fun r j => (hSU.2 r j).symm)
        clear hSW hSU hs0 hsT ho1 ho2 hvr hwr
        subst haw
        go_wp2
        go_quiet (fail)
        go_wp2
        go_roundw
        case rel => exact ⟨i, k + 1, by omega, by go_num, Sto.same hfin.out rfl, below_same hbel2 rfl rfl rfl rfl⟩
        case measure => simp [intOf]
      · obtain rfl := ho2 n hTn hsT
        obtain ⟨u0, u1, u2⟩ := (hS2.rows _ hr).cells hgl
        have fr := (hS2.rows _ hr).free
        have hS3 := fun v0 => Sto.setU hS2 A (j := D.g ((s n).toNat - 1) x) hr v0
        generalize (s n).toNat - 1 = r at *
        generalize D.g r x = gg at *
        have fr1 := fr (gg * 3 + 1)
        have fr2 := fr (gg * 3 + 2)
        have hrb : bU + 1 + r < wr.heap.size := by omega
        have hfin : Hid (StoN (w'.setCell ⟨bU + 1 + r, gg * 3 + 1, none⟩ (.int .i32 0)) S bU bv bw be av aw ae cv cw ce D (D.NR (k + 1)) Es) := by
          refine (hS3 0).congr (fun i' => (hSW.2 i').symm) (fun i' => (hSW.1 i').symm) (fun _ => rfl) (fun r' j' => ?_) (fun r' j' => ?_)
          · rw [hAU.1]
            have hnw : D.nw i = 0 := by simp [ED.nw, hcom.out]
            rw [hnw]
          · rw [hAU.2, if_neg (fun h => by have := hcom.out; rw [h.2] at this; cases this)]
        have hb3 := hbel2.setCell (p := ⟨bU + 1 + r, gg * 3 + 1, none⟩) (by have := hB.2.2; simp; omega) (.int .i32 0)
        clear hSW hAU hs0 hsT ho1 ho2 hvr hwr fr hS3
        go_wp2
        go_roundw
        case rel => exact ⟨i, k + 1, by omega, by go_num, Sto.same hfin.out rfl, below_same hb3 rfl rfl rfl rfl⟩
        case measure => simp [intOf]

set_option maxRecDepth 100000 in
set_option maxHeartbeats 4000000 in
theorem endRun_abort (S bU bv bw be : Nat) (av aw ae : Option Addr) (cv cw ce : Nat) (D : ED) (Es : Nat → Int) (w : World) (B : Nat)
    (h : StoN w S bU bv bw be av aw ae cv cw ce D (D.NR 0) Es) (A : Apart S bU bv bw be D.nr D.m) (hf : D.Fit) (hB : (0 < D.m → B ≤ bv ∧ B ≤ bw) ∧ B ≤ be ∧ B ≤ bU)
    (hm : D.m ≤ 4096) (hnr : D.nr ≤ 256) (hL : ∀ r, r < D.nr → D.L r ≤ 256) (hcom : Hid (D.com = false)) :
    Calls Try.prog 36 #[.pointer (some ⟨S, 0, none⟩), .int .i64 D.p, .bool false] w fun e w' => e = .returned (.tuple #[]) ∧ Done w' S bU bv bw be av aw ae cv cw ce D Es ∧ Below B w w' := by
  obtain ⟨f1, f2, f4, f6⟩ := h.field
  have hp := hf.1
  have hco := h.outer.cell hp
  have hLp := hL _ hp
  have hBs : B ≤ w.heap.size := by have := lt_of_block h.box; have := A.s; omega
  have hf' : Hid (D.Fit) := hf
  have hL' : Hid (∀ r, r < D.nr → D.L r ≤ 256) := hL
  clear hf hL
  go_enter Try.func36, Try.ntmps36
  go_wp2
  clear f1 f2 f4 f6 hco
  go_loopw [8] (fun s8 wr => ∃ i k : Nat, i + k = D.L D.p ∧ s8 = .int .i64 ((i : Int) - 1) ∧ StoN wr S bU bv bw be av aw ae cv cw ce D (D.NR k) Es ∧ Below B w wr) (fun s8 _ => (intOf s8 + 1).toNat)
  case atStart => exact ⟨D.L D.p, 0, rfl, rfl, h, Below.refl _ _⟩
  case round =>
    obtain ⟨i0, k, hik, rfl, hS, hbel⟩ := hrel
    rcases Nat.eq_zero_or_pos i0 with hi0 | hi0
    · subst hi0
      have hkl : k = D.L D.p := by omega
      rw [show (((0 : Nat) : Int) - 1) = -1 from rfl]
      obtain ⟨f1, f2, f4, f6⟩ := hS.field
      obtain ⟨hae, her⟩ := hS.ends (by omega)
      have ce1 := her.cell hp
      have fe1 := her.frozen D.p
      have co1 := hS.outer.cell hp
      have fo1 := hS.outer.frozen D.p
      have hfin : Hid _ := StoN.done hS A hkl
      have hb3 := (hbel.setCell (p := ⟨bU, D.p, none⟩) hB.2.2 (.slice (some ⟨bU + 1 + D.p, 0, none⟩) 0 (D.L D.p))).setCell (p := ⟨be, D.p, none⟩) hB.2.1 (.int .i64 (wrap64 (Es D.p + 1)))
      have hub : be < bU := A.e
      have hSU : bU < S := by have := A.s; omega
      have hSe : be < S := by omega
      clear hik h hkl her hbel
      subst hae
      go_wp2
      go_region
      go_wp2
      go_end0
      exact ⟨rfl, Done.same hfin.out rfl, below_same hb3 rfl rfl rfl rfl⟩
    · obtain ⟨i, rfl⟩ : ∃ i, i0 = i + 1 := ⟨i0 - 1, by omega⟩
      rw [show (((i + 1 : Nat) : Int) - 1) = (i : Int) from by omega]
      obtain ⟨hx0, hx1, hu, hv, T, s, hs0, hs, hT, hcase⟩ := step_mem hf'.out hik
      obtain ⟨t0, t1, t2⟩ := (hS.rows _ hp).cells (j := i) (by omega)
      obtain ⟨f1, f2, f4, f6⟩ := hS.field
      rw [hu] at t1
      rw [hv] at t2
      generalize hxx : D.UX D.p i = x at *
      generalize huu : D.UU D.p i = u at *
      generalize hvv : D.UV D.p i = v at *
      have hil : i < D.L D.p := by omega
      have HX : Hid (D.UX D.p i = x) := hxx
      have HU : Hid (D.UU D.p i = u) := huu
      have HV : Hid (D.UV D.p i = v) := hvv
      clear hxx huu hvv
      have hcase' : Hid _ := hcase
      have hs' : Hid _ := hs
      have hs0' : Hid _ := hs0
      have hT' : Hid _ := hT
      clear hcase hs hs0 hT hu hv h
      have hS2 := Sto.alloc hS (.cells #[.int .i32 x, .int .i32 u, .int .i64 v] 88)
      have hbel2 := hbel.alloc (by have := hbel.size; omega) (.cells #[.int .i32 x, .int .i32 u, .int .i64 v] 88)
      have hblk := blk_alloc_new wr (.cells #[.int .i32 x, .int .i32 u, .int .i64 v] 88)
      have c0 : (wr.alloc (.cells #[.int .i32 x, .int .i32 u, .int .i64 v] 88)).cell? ⟨wr.heap.size, 0, none⟩ = some (.int .i32 x) := cell_blk hblk 0
      have c1 : (wr.alloc (.cells #[.int .i32 x, .int .i32 u, .int .i64 v] 88)).cell? ⟨wr.heap.size, 1, none⟩ = some (.int .i32 u) := cell_blk hblk 1
      have c2 : (wr.alloc (.cells #[.int .i32 x, .int .i32 u, .int .i64 v] 88)).cell? ⟨wr.heap.size, 2, none⟩ = some (.int .i64 v) := cell_blk hblk 2
      have hSb : S < wr.heap.size := lt_of_block hS.box
      go_wp2_with fail
      generalize wr.alloc (.cells #[.int .i32 x, .int .i32 u, .int .i64 v] 88) = w2 at *
      refine (overwriter_any S bU bv bw be av aw ae cv cw ce D _ _ Es _ _ _ x _ T s hS2 hx0 hx1 hm hnr hL'.out rfl hs0'.out hs'.out hT'.out).mono ?_
      rintro e w' ⟨⟨o, rfl, ho1, ho2⟩, hw⟩
      subst hw
      clear hblk hS hbel t0 t1 t2 f1 f2 f4 f6
      obtain ⟨f1, f2, f4, f6⟩ := hS2.field
      have hm0 : 0 < D.m := by omega
      obtain ⟨hav, hvr⟩ := hS2.vals hm0
      obtain ⟨haw, hwr⟩ := hS2.wris hm0
      have hxm : x.toNat < D.m := by omega
      have cw1 := hwr.cell hxm
      have fw1 := hwr.frozen x.toNat
      have hm0 : 0 < D.m := by omega
      have hvb : bv < wr.heap.size := by have := A.v hm0; have := A.s; omega
      have hwb : bw < wr.heap.size := by have := A.w hm0; have := A.s; omega
      have hUb : bU + 1 + D.nr < wr.heap.size := by have := A.s; omega
      rcases hcase'.out with ⟨hT0, hs0, hAW, hSU⟩ | ⟨hsT, hs0, hSW, hSU⟩ | ⟨n, hTn, hsT, hs0, hr, hgl, hSW, hAU⟩
      · obtain rfl := ho1 (Or.inl hT0)
        have hwx : D.FW (D.NR k) x.toNat = (D.p : Int) + 1 := hs0'.out.symm.trans hs0
        rw [hwx] at cw1
        have cv1 := hvr.cell hxm
        have fv1 := hvr.frozen x.toNat
        have hfin : Hid (StoN ((w'.setCell ⟨bv, x.toNat, none⟩ (.int .i64 v)).setCell ⟨bw, x.toNat, none⟩ (.int .i32 u)) S bU bv bw be av aw ae cv cw ce D (D.NR (k + 1)) Es) := by
          refine (Sto.setW (Sto.setV hS2 A hm0 x.toNat v) A hm0 x.toNat u).congr (fun i' => ?_) (fun i' => ?_) (fun _ => rfl) (fun r j => (hSU.1 r j).symm) (fun r j => (hSU.2 r j).symm)
          · rw [hAW.2]
            by_cases e : i' = x.toNat
            · rw [if_pos e, if_pos ⟨by omega, hcom.out⟩, HV.out]
            · rw [if_neg e, if_neg (by omega)]
          · rw [hAW.1]
            have hnw : D.nw i = u := by simp [ED.nw, hcom.out, HU.out]
            by_cases e : i' = x.toNat
            · rw [if_pos e, if_pos (by omega), hnw]
            · rw [if_neg e, if_neg (by omega)]
        have hb3 := (hbel2.setCell (p := ⟨bv, x.toNat, none⟩) (hB.1 hm0).1 (.int .i64 v)).setCell (p := ⟨bw, x.toNat, none⟩) (hB.1 hm0).2 (.int .i32 u)
        have hvw := (A.v hm0).2.1
        clear hAW hSU hwx hs0 hT0 ho1 ho2 hvr hwr
        subst haw hav
        go_wp2
        go_quiet (fail)
        go_wp2
        go_region
        go_wp2
        go_roundw
        case rel => exact ⟨i, k + 1, by omega, by go_num, Sto.same hfin.out rfl, below_same hb3 rfl rfl rfl rfl⟩
        case measure => simp [intOf]
      · obtain rfl := ho1 (Or.inr hsT)
        have hwx : (D.FW (D.NR k) x.toNat == (D.p : Int) + 1) = false := ieqF (fun h => hs0 (hs0'.out.trans h))
        have hfin : Hid (StoN w' S bU bv bw be av aw ae cv cw ce D (D.NR (k + 1)) Es) :=
          Sto.congr hS2 (fun i' => (hSW.2 i').symm) (fun i' => (hSW.1 i').symm) (fun _ => rfl) (fun r j => (hSU.1 r j).symm) (fun r j => (hSU.2 r j).symm)
        clear hSW hSU hs0 hsT ho1 ho2 hvr hwr
        subst haw
        go_wp2
        go_quiet (fail)
        go_wp2
        go_roundw
        case rel => exact ⟨i, k + 1, by omega, by go_num, Sto.same hfin.out rfl, below_same hbel2 rfl rfl rfl rfl⟩
        case measure => simp [intOf]
      · obtain rfl := ho2 n hTn hsT
        obtain ⟨u0, u1, u2⟩ := (hS2.rows _ hr).cells hgl
        have fr := (hS2.rows _ hr).free
        have hS3 := fun v0 => Sto.setU hS2 A (j := D.g ((s n).toNat - 1) x) hr v0
        generalize (s n).toNat - 1 = r at *
        generalize D.g r x = gg at *
        have fr1 := fr (gg * 3 + 1)
        have fr2 := fr (gg * 3 + 2)
        have hrb : bU + 1 + r < wr.heap.size := by omega
        have hfin : Hid (StoN ((w'.setCell ⟨bU + 1 + r, gg * 3 + 2, none⟩ (.int .i64 v)).setCell ⟨bU + 1 + r, gg * 3 + 1, none⟩ (.int .i32 u)) S bU bv bw be av aw ae cv cw ce D (D.NR (k + 1)) Es) := by
          refine (Sto.setU (Sto.setQ hS2 A (j := gg) hr v) A (j := gg) hr u).congr (fun i' => (hSW.2 i').symm) (fun i' => (hSW.1 i').symm) (fun _ => rfl) (fun r' j' => ?_) (fun r' j' => ?_)
          · rw [hAU.1]
            have hnw : D.nw i = u := by simp [ED.nw, hcom.out, HU.out]
            rw [hnw]
          · rw [hAU.2, HV.out]
            by_cases e : r' = r ∧ j' = gg
            · rw [if_pos e, if_pos ⟨e, hcom.out⟩]
            · rw [if_neg e, if_neg (fun h => e h.1)]
        have hb3 := (hbel2.setCell (p := ⟨bU + 1 + r, gg * 3 + 2, none⟩) (by have := hB.2.2; simp; omega) (.int .i64 v)).setCell (p := ⟨bU + 1 + r, gg * 3 + 1, none⟩) (by have := hB.2.2; simp; omega) (.int .i32 u)
        clear hSW hAU hs0 hsT ho1 ho2 hvr hwr fr hS3
        go_wp2
        go_region
        go_wp2
        go_roundw
        case rel => exact ⟨i, k + 1, by omega, by go_num, Sto.same hfin.out rfl, below_same hb3 rfl rfl rfl rfl⟩
        case measure => simp [intOf]
end Go.Proofs.Qxb6620996a
