import Derived.Test.Qxb6620996aSmall
import Derived.Test.Qxb6620996aStore
namespace Go.Proofs.Qxb6620996a
open Go.RowKit Go.Deep
set_option linter.unusedVariables false

/-- A slice that the call gathers: n elements, cell i holding f i, at the head of block g. -/
def Acc (w : World) (base : Nat) (t : TypeId) (n : Nat) (f : Nat → Value) (g cap : Nat) : Prop :=
  w.ownsRow base t 1 (.slice (some ⟨g, 0, none⟩) n cap) n ((List.range n).map f)

section
variable {w w' : World} {base : Nat} {t : TypeId} {n : Nat} {f : Nat → Value} {g cap : Nat}

theorem Acc.within (h : Acc w base t n f g cap) : base ≤ g ∧ g < w.heap.size := h.lt g rfl
theorem Acc.cell (h : Acc w base t n f g cap) {i : Nat} (hi : i < n) : w.cell? ⟨g, i, none⟩ = some (f i) := by
  have := World.ownsRow.cellAt h i (by omega)
  rw [this]
  simp [hi]
theorem Acc.alloc (h : Acc w base t n f g cap) (o : Obj) : Acc (w.alloc o) base t n f g cap := World.ownsRow.alloc h o
theorem Acc.block (h : Acc w base t n f g cap) : ∃ cur, w.heap[g]? = some (.cells cur t (0, 0)) := by
  rcases h.2 with ⟨h', _⟩ | ⟨g', cap', cur, h', _, hg, _⟩
  · simp at h'
  · simp only [Value.slice.injEq, Option.some.injEq, Addr.mk.injEq, and_true, true_and] at h'
    obtain ⟨rfl, rfl⟩ := h'
    exact ⟨cur, hg⟩
theorem Acc.of_block (h : Acc w base t n f g cap) (e : w'.heap[g]? = w.heap[g]?) : Acc w' base t n f g cap := by
  refine ⟨h.1, ?_⟩
  rcases h.2 with ⟨h', _⟩ | ⟨g', cap', cur, h', hb, hg, r⟩
  · simp at h'
  · have h2 := h'
    simp only [Value.slice.injEq, Option.some.injEq, Addr.mk.injEq, and_true, true_and] at h2
    obtain ⟨rfl, rfl⟩ := h2
    exact .inr ⟨g, cap, cur, h', hb, e.trans hg, r⟩
theorem Acc.kept {row : Nat} (h : Acc w base t n f g cap) (hg : w.grownBy w' (some row)) (hne : g ≠ row) : Acc w' base t n f g cap :=
  h.of_block (hg.block g h.within.2 (by simpa using hne))
theorem Acc.congr {f' : Nat → Value} (h : Acc w base t n f g cap) (e : ∀ i, i < n → f i = f' i) : Acc w base t n f' g cap := by
  unfold Acc at *
  rwa [List.map_congr_left (fun i hi => e i (List.mem_range.1 hi))] at h
theorem Acc.setOther (h : Acc w base t n f g cap) {a : Addr} (ha : g ≠ a.block) (v : Value) : Acc (w.setCell a v) base t n f g cap := h.of_block (blk_setCell_other _ _ _ _ ha)
theorem Acc.ne {t2 : TypeId} {n2 : Nat} {f2 : Nat → Value} {b2 g2 cap2 : Nat} (h : Acc w base t n f g cap) (h2 : Acc w b2 t2 n2 f2 g2 cap2) (ht : t ≠ t2) : g ≠ g2 := by
  rintro rfl
  obtain ⟨c1, e1⟩ := h.block
  obtain ⟨c2, e2⟩ := h2.block
  rw [e1] at e2
  simp at e2
  exact ht e2.2
theorem Acc.one (w : World) (base : Nat) (t : TypeId) (u : Value) (f : Nat → Value) (hb : base ≤ w.heap.size) (hu : f 0 = u) : Acc (w.alloc (.cells #[u] t)) base t 1 f w.heap.size 1 := by
  have := World.ownsRow_lit (w := w) (base := base) (e := t) (size := 1) #[u] 1 hb (by decide) rfl
  unfold Acc
  simpa [List.range_succ, hu] using this
end

section
variable {P : Program}
/-- 'append(s, x)' where s is gathered by the call: it may grow. -/
theorem wpList_append_acc {w : World} {ops : Array Oper} {rest : List Oper} {o : Oper} {a : Act} {Q : Exit → Act → World → Prop} (hgd : o.guard = none) (s x : Operand) (t : TypeId)
    (ho : o.op = .call { callee := .builtin .append, args := #[s, x], argTypes := #[t, t] })
    (base : Nat) (e : TypeId) (z : Value) (bytes : Nat) (ht : P.underlying t = some (.slice e)) (hinfo : (P.info? e).map (fun i => (i.zero, i.size, i.bytes)) = some (some z, 1, bytes)) (hzs : z.cells.size = 1) (hby : bytes ≤ 24)
    (n : Nat) (f : Nat → Value) (g cap : Nat) (hs : a.eval s = .slice (some ⟨g, 0, none⟩) n cap) (hacc : Acc w base e n f g cap)
    (b c : Nat) (hx : a.eval x = .slice (some ⟨b, 0, none⟩) 1 c) (hu : w.cell? ⟨b, 0, none⟩ = some (f n)) (h1 : (f n).oneCell' = true) (hn : n ≤ 1048576)
    (h : ∀ g' cap' w', Acc w' base e (n + 1) f g' cap' → w.grownBy w' (some g) → wpList P ops Q rest (a.put o.dst (.slice (some ⟨g', 0, none⟩) (n + 1) cap')) w') : wpList P ops Q (o :: rest) a w := by
  obtain ⟨i, hi, hzz⟩ := Option.map_eq_some_iff.1 hinfo
  simp only [Prod.mk.injEq] at hzz
  obtain ⟨hz, hsz, hbb⟩ := hzz
  refine wpList_append_own w hgd s x t ho base e i z 1 bytes ht hi hz hsz hbb hzs (by decide) _ n _ hs hacc ⟨b, 0, none⟩ 1 c [f n] hx rfl (fun j u hj => ?_) (fun u hu' => ?_) (by simp only [maxLen]; omega) ?_ (by have := hacc.within; omega) (fun v' w' h2 h3 h4 => ?_)
  · match j, hj with
    | 0, hj => simp at hj; subst hj; simpa [Addr.add] using hu
  · simp at hu'; subst hu'; exact h1
  · have : (n + 1) * bytes ≤ 1048577 * 24 := Nat.mul_le_mul (by omega) hby
    omega
  · rcases h2.2 with ⟨h5, _⟩ | ⟨g', cap', cur, h5, r⟩
    · have := (h4.1 h5).2
      omega
    · subst h5
      refine h g' cap' w' ?_ h3
      unfold Acc
      rw [List.range_succ, List.map_append]
      exact h2
end

namespace ED
variable (D : ED)
/-- the values on item x's chain -/
def v (x : Int) : Nat → Int
  | 0 => D.V x.toNat
  | k + 1 => D.UV (D.c x k - 1).toNat (D.g (D.c x k - 1).toNat x)
end ED

/-- THE STORE OF THE MODEL: values and writers, the two columns, each in rows of their own; they lie apart. -/
structure Mod (w : World) (qV qW qE : Nat) (Es : Nat → Int) (BU BV : Nat) (aV aW : Option Addr) (cV cW : Nat) (AU : Nat → Option Addr) (CU GU : Nat → Nat) (AV : Nat → Option Addr) (CV GV : Nat → Nat) (D : ED) (Vs Ws : Nat → Int) (Us Qs : Nat → Nat → Int) : Prop where
  vals : 0 < D.m → aV = some ⟨qV, 0, none⟩ ∧ w.rowIs qV 2 D.m (fun i => .int .i64 (Vs i))
  wris : 0 < D.m → aW = some ⟨qW, 0, none⟩ ∧ w.rowIs qW 21 D.m (fun i => .int .i32 (Ws i))
  rU : Rows2 w BU D.nr D.nr 25 21 D.L (fun r j => .int .i32 (Us r j)) AU CU GU
  rV : Rows2 w BV D.nr D.nr 43 2 D.L (fun r j => .int .i64 (Qs r j)) AV CV GV
  o1 : 0 < D.m → qV < qW ∧ qW < BU
  o3 : ∀ r, r < D.nr → 0 < D.L r → GU r < BV
  o4 : BU < BV
  ext : w.rowIs qE 2 D.nr (fun i => .int .i64 (Es i))
  oE : qE < BU ∧ (0 < D.m → qW < qE)

theorem Rows2.ne {w : World} {B n k : Nat} {t1 t2 : TypeId} {L : Nat → Nat} {F : Nat → Nat → Value} {A : Nat → Option Addr} {C G : Nat → Nat} (h : Rows2 w B n k t1 t2 L F A C G) {r r' : Nat} (hr : r < k) (hr' : r' < k) (hl : 0 < L r) (hl' : 0 < L r') (hne : r ≠ r') : G r ≠ G r' := by
  rcases Nat.lt_or_ge r r' with h1 | h1
  · have := h.inc r r' h1 hr' hl hl'; omega
  · have := h.inc r' r (by omega) hr hl' hl; omega

theorem Rows2.setOther {w : World} {B n k : Nat} {t1 t2 : TypeId} {L : Nat → Nat} {F : Nat → Nat → Value} {A : Nat → Option Addr} {C G : Nat → Nat} (h : Rows2 w B n k t1 t2 L F A C G) {a : Addr} (h0 : B ≠ a.block) (h1 : ∀ r, r < k → 0 < L r → G r ≠ a.block) (v : Value) : Rows2 (w.setCell a v) B n k t1 t2 L F A C G :=
  ⟨h.top.setOther h0 v, fun r hr hl => ⟨(h.row r hr hl).1, (h.row r hr hl).2.1, (h.row r hr hl).2.2.setOther (h1 r hr hl) v⟩, h.inc⟩

theorem Rows2.set {w : World} {B n k : Nat} {t1 t2 : TypeId} {L : Nat → Nat} {F : Nat → Nat → Value} {A : Nat → Option Addr} {C G : Nat → Nat} (h : Rows2 w B n k t1 t2 L F A C G) {r j : Nat} (hr : r < k) (hj : j < L r) (v : Value) :
    Rows2 (w.setCell ⟨G r, j, none⟩ v) B n k t1 t2 L (fun r' j' => if r' = r ∧ j' = j then v else F r' j') A C G := by
  have hg := (h.row r hr (by omega)).2.1
  refine ⟨h.top.setOther (by simp; omega) v, fun r' hr' hl => ⟨(h.row r' hr' hl).1, (h.row r' hr' hl).2.1, ?_⟩, h.inc⟩
  by_cases e : r' = r
  · subst e
    exact ((h.row r' hr' hl).2.2.set j v).congr (fun i _ => by by_cases e2 : i = j <;> simp [e2])
  · exact ((h.row r' hr' hl).2.2.setOther (by simpa using h.ne hr' hr hl (by omega) e) v).congr (fun i _ => by simp [e])

theorem Rows2.of_below {w w' : World} {B n k : Nat} {t1 t2 : TypeId} {L : Nat → Nat} {F : Nat → Nat → Value} {A : Nat → Option Addr} {C G : Nat → Nat} (h : Rows2 w B n k t1 t2 L F A C G) (hb : Below w.heap.size w w') : Rows2 w' B n k t1 t2 L F A C G :=
  ⟨h.top.of_block (hb.block _ h.top.lt), fun r hr hl => ⟨(h.row r hr hl).1, (h.row r hr hl).2.1, (h.row r hr hl).2.2.of_block (hb.block _ (h.row r hr hl).2.2.lt)⟩, h.inc⟩

theorem Rows2.congr {w : World} {B n k : Nat} {t1 t2 : TypeId} {L : Nat → Nat} {F F' : Nat → Nat → Value} {A : Nat → Option Addr} {C G : Nat → Nat} (h : Rows2 w B n k t1 t2 L F A C G) (e : ∀ r j, F r j = F' r j) : Rows2 w B n k t1 t2 L F' A C G := by
  obtain rfl : F = F' := funext fun r => funext (e r)
  exact h

section
variable {w w' : World} {qV qW qE BU BV : Nat} {Es : Nat → Int} {aV aW : Option Addr} {cV cW : Nat} {AU : Nat → Option Addr} {CU GU : Nat → Nat} {AV : Nat → Option Addr} {CV GV : Nat → Nat} {D : ED} {Vs Ws : Nat → Int} {Us Qs : Nat → Nat → Int}

theorem Mod.below (h : Mod w qV qW qE Es BU BV aV aW cV cW AU CU GU AV CV GV D Vs Ws Us Qs) (hb : Below w.heap.size w w') : Mod w' qV qW qE Es BU BV aV aW cV cW AU CU GU AV CV GV D Vs Ws Us Qs :=
  ⟨fun hm => ⟨(h.vals hm).1, (h.vals hm).2.of_block (hb.block _ (h.vals hm).2.lt)⟩, fun hm => ⟨(h.wris hm).1, (h.wris hm).2.of_block (hb.block _ (h.wris hm).2.lt)⟩, h.rU.of_below hb, h.rV.of_below hb, h.o1, h.o3, h.o4, h.ext.of_block (hb.block _ h.ext.lt), h.oE⟩

theorem Mod.congr {Vs' Ws' : Nat → Int} {Us' Qs' : Nat → Nat → Int} (h : Mod w qV qW qE Es BU BV aV aW cV cW AU CU GU AV CV GV D Vs Ws Us Qs) (e1 : ∀ i, Vs i = Vs' i) (e2 : ∀ i, Ws i = Ws' i) (e4 : ∀ r j, Us r j = Us' r j) (e5 : ∀ r j, Qs r j = Qs' r j) :
    Mod w qV qW qE Es BU BV aV aW cV cW AU CU GU AV CV GV D Vs' Ws' Us' Qs' := by
  obtain rfl : Vs = Vs' := funext e1
  obtain rfl : Ws = Ws' := funext e2
  obtain rfl : Us = Us' := funext fun r => funext (e4 r)
  obtain rfl : Qs = Qs' := funext fun r => funext (e5 r)
  exact h

theorem Mod.setV (h : Mod w qV qW qE Es BU BV aV aW cV cW AU CU GU AV CV GV D Vs Ws Us Qs) (hm0 : 0 < D.m) (x : Nat) (v : Int) :
    Mod (w.setCell ⟨qV, x, none⟩ (.int .i64 v)) qV qW qE Es BU BV aV aW cV cW AU CU GU AV CV GV D (fun i => if i = x then v else Vs i) Ws Us Qs := by
  obtain ⟨h1, h2⟩ := h.o1 hm0
  have h4 := h.o4
  have h6 := h.oE.2 hm0
  refine ⟨fun hm => ⟨(h.vals hm).1, ((h.vals hm).2.set x _).congr (fun i _ => by by_cases e : i = x <;> simp [e])⟩, fun hm => ⟨(h.wris hm).1, (h.wris hm).2.setOther (by simp; omega) _⟩, h.rU.setOther (by simp; omega) (fun r hr hl => ?_) _, h.rV.setOther (by simp; omega) (fun r hr hl => ?_) _, h.o1, h.o3, h.o4, h.ext.setOther (by simp; omega) _, h.oE⟩
  · have := (h.rU.row r hr hl).2.1; simp; omega
  · have := (h.rV.row r hr hl).2.1; simp; omega

theorem Mod.setW (h : Mod w qV qW qE Es BU BV aV aW cV cW AU CU GU AV CV GV D Vs Ws Us Qs) (hm0 : 0 < D.m) (x : Nat) (v : Int) :
    Mod (w.setCell ⟨qW, x, none⟩ (.int .i32 v)) qV qW qE Es BU BV aV aW cV cW AU CU GU AV CV GV D Vs (fun i => if i = x then v else Ws i) Us Qs := by
  obtain ⟨h1, h2⟩ := h.o1 hm0
  have h4 := h.o4
  have h6 := h.oE.2 hm0
  refine ⟨fun hm => ⟨(h.vals hm).1, (h.vals hm).2.setOther (by simp; omega) _⟩, fun hm => ⟨(h.wris hm).1, ((h.wris hm).2.set x _).congr (fun i _ => by by_cases e : i = x <;> simp [e])⟩, h.rU.setOther (by simp; omega) (fun r hr hl => ?_) _, h.rV.setOther (by simp; omega) (fun r hr hl => ?_) _, h.o1, h.o3, h.o4, h.ext.setOther (by simp; omega) _, h.oE⟩
  · have := (h.rU.row r hr hl).2.1; simp; omega
  · have := (h.rV.row r hr hl).2.1; simp; omega

theorem Mod.setU (h : Mod w qV qW qE Es BU BV aV aW cV cW AU CU GU AV CV GV D Vs Ws Us Qs) {r j : Nat} (hr : r < D.nr) (hj : j < D.L r) (v : Int) :
    Mod (w.setCell ⟨GU r, j, none⟩ (.int .i32 v)) qV qW qE Es BU BV aV aW cV cW AU CU GU AV CV GV D Vs Ws (fun r' j' => if r' = r ∧ j' = j then v else Us r' j') Qs := by
  have h4 := h.o4; have h6 := h.oE.1; have h3 := h.o3 r hr (by omega)
  have hg := (h.rU.row r hr (by omega)).2.1
  refine ⟨fun hm => ⟨(h.vals hm).1, (h.vals hm).2.setOther (by have := h.o1 hm; simp; omega) _⟩, fun hm => ⟨(h.wris hm).1, (h.wris hm).2.setOther (by have := h.o1 hm; simp; omega) _⟩, (h.rU.set hr hj _).congr (fun r' j' => ?_), h.rV.setOther (by simp; omega) (fun r' hr' hl => ?_) _, h.o1, h.o3, h.o4, h.ext.setOther (by simp; omega) _, h.oE⟩
  · by_cases e : r' = r ∧ j' = j <;> simp [e]
  · have := (h.rV.row r' hr' hl).2.1; simp; omega

theorem Mod.setQ (h : Mod w qV qW qE Es BU BV aV aW cV cW AU CU GU AV CV GV D Vs Ws Us Qs) {r j : Nat} (hr : r < D.nr) (hj : j < D.L r) (v : Int) :
    Mod (w.setCell ⟨GV r, j, none⟩ (.int .i64 v)) qV qW qE Es BU BV aV aW cV cW AU CU GU AV CV GV D Vs Ws Us (fun r' j' => if r' = r ∧ j' = j then v else Qs r' j') := by
  have h4 := h.o4
  have h6 := h.oE.1
  have hg := (h.rV.row r hr (by omega)).2.1
  refine ⟨fun hm => ⟨(h.vals hm).1, (h.vals hm).2.setOther (by have := h.o1 hm; simp; omega) _⟩, fun hm => ⟨(h.wris hm).1, (h.wris hm).2.setOther (by have := h.o1 hm; simp; omega) _⟩, h.rU.setOther (by simp; omega) (fun r' hr' hl => ?_) _, (h.rV.set hr hj _).congr (fun r' j' => ?_), h.o1, h.o3, h.o4, h.ext.setOther (by simp; omega) _, h.oE⟩
  · have := h.o3 r' hr' hl; simp; omega
  · by_cases e : r' = r ∧ j' = j <;> simp [e]
end

end Go.Proofs.Qxb6620996a
