import Derived.Test.Qxb6620996aDue
namespace Go.Proofs.Qxb6620996a
open Go.RowKit Go.Deep
set_option linter.unusedVariables false

theorem info59 : (Try.prog.info? 59).map (fun i => (i.zero, i.size, i.bytes)) = some (some (.slice none 0 0), 1, 24) := by kernel_rfl
theorem info61 : (Try.prog.info? 61).map (fun i => (i.zero, i.size, i.bytes)) = some (some (.agg #[.int .i32 0, .int .i32 0, .bool false]), 3, 12) := by kernel_rfl
theorem info21 : (Try.prog.info? 21).map (fun i => (i.zero, i.size, i.bytes)) = some (some (.int .i32 0), 1, 4) := by kernel_rfl
theorem info4 : (Try.prog.info? 4).map (fun i => (i.zero, i.size, i.bytes)) = some (some (.bool false), 1, 1) := by kernel_rfl

/-- make of elements of three cells. -/
theorem run_make_row3 {P : Program} (t e : TypeId) (z0 z1 z2 : Value) (bytes : Nat) (ht : P.underlying t = some (.slice e)) (hinfo : (P.info? e).map (fun i => (i.zero, i.size, i.bytes)) = some (some (.agg #[z0, z1, z2]), 3, bytes))
    (kl kc : IntKind) (n : Nat) (hbytes : bytes * n ≤ 281474976710656) (h63 : n ≤ 9223372036854775807) (w : World) :
    (Instr.makeSlice t (.int kl (n : Int)) (.int kc (n : Int))).run P w = .ok (.slice (some ⟨w.heap.size, 0, none⟩) n n) (w.alloc (.cells (madeCells #[z0, z1, z2] (n * 3)) e)) := by
  obtain ⟨i, hi, hzz⟩ := Option.map_eq_some_iff.1 hinfo
  simp only [Prod.mk.injEq] at hzz
  obtain ⟨hz, hs, hb⟩ := hzz
  have hb' : (i.bytes : Int) * (n : Int) ≤ 281474976710656 := by
    have h : ((i.bytes * n : Nat) : Int) ≤ 281474976710656 := by rw [hb]; omega
    rwa [Int.natCast_mul] at h
  have hr := run_make (P := P) w t e i _ ht hi hz kl kc n n (by omega) (Int.le_refl _) hb' (by omega)
  simp only [Int.toNat_natCast, hs] at hr
  exact hr

/-- A row of n planned releases, of which the first k are laid. -/
def PR (w : World) (b n k : Nat) (Z X : Nat → Int) (E : Nat → Bool) : Prop :=
  ∃ cs : Array Value, w.heap[b]? = some (.cells cs 61 (0, 0)) ∧ cs.size = n * 3 ∧
    ∀ j, j < k → cs[j * 3]? = some (.int .i32 (Z j)) ∧ cs[j * 3 + 1]? = some (.int .i32 (X j)) ∧ cs[j * 3 + 2]? = some (.bool (E j))

theorem PR.made (w : World) (n : Nat) (Z X : Nat → Int) (E : Nat → Bool) : PR (w.alloc (.cells (madeCells #[.int .i32 0, .int .i32 0, .bool false] (n * 3)) 61)) w.heap.size n 0 Z X E :=
  ⟨_, heap_alloc_new _ _, size_madeCells _ _, fun j hj => absurd hj (by omega)⟩

theorem PR.lt {w : World} {b n k : Nat} {Z X : Nat → Int} {E : Nat → Bool} (h : PR w b n k Z X E) : b < w.heap.size := by
  obtain ⟨cs, hb, _⟩ := h
  exact lt_of_block hb

theorem PR.of_block {w w' : World} {b n k : Nat} {Z X : Nat → Int} {E : Nat → Bool} (h : PR w b n k Z X E) (e : w'.heap[b]? = w.heap[b]?) : PR w' b n k Z X E := by
  obtain ⟨cs, hb, r⟩ := h
  exact ⟨cs, e.trans hb, r⟩

theorem PR.drew {w : World} {b n k : Nat} {Z X : Nat → Int} {E : Nat → Bool} (h : PR w b n k Z X E) : PR w.drew b n k Z X E := h

theorem PR.alloc {w : World} {b n k : Nat} {Z X : Nat → Int} {E : Nat → Bool} (h : PR w b n k Z X E) (o : Obj) : PR (w.alloc o) b n k Z X E :=
  h.of_block (Go.Deep.blk_alloc_lt _ _ _ h.lt)

theorem PR.setOther {w : World} {b n k : Nat} {Z X : Nat → Int} {E : Nat → Bool} (h : PR w b n k Z X E) {a : Addr} (ha : b ≠ a.block) (v : Value) : PR (w.setCell a v) b n k Z X E :=
  h.of_block (Go.Deep.blk_setCell_other _ _ _ _ ha)

theorem PR.old {w : World} {b n k : Nat} {Z X : Nat → Int} {E : Nat → Bool} (h : PR w b n k Z X E) {j : Nat} (hj : j < n) :
    ∃ u0 u1 u2, w.cell? ⟨b, j * 3, none⟩ = some u0 ∧ w.cell? ⟨b, j * 3 + 1, none⟩ = some u1 ∧ w.cell? ⟨b, j * 3 + 2, none⟩ = some u2 := by
  obtain ⟨cs, hb, hs, _⟩ := h
  have g : ∀ i, i < cs.size → w.cell? ⟨b, i, none⟩ = some (cs[i]?.getD undef) := fun i hi => by simp [World.cell?, hb, hi]
  exact ⟨_, _, _, g _ (by omega), g _ (by omega), g _ (by omega)⟩

theorem PR.free {w : World} {b n k : Nat} {Z X : Nat → Int} {E : Nat → Bool} (h : PR w b n k Z X E) (i : Nat) : w.frozen? ⟨b, i, none⟩ = false := by
  obtain ⟨cs, hb, _⟩ := h
  simp [World.frozen?, hb]

theorem PR.set {w : World} {b n k : Nat} {Z X : Nat → Int} {E : Nat → Bool} (h : PR w b n k Z X E) (hk : k < n) :
    PR (((w.setCell ⟨b, k * 3, none⟩ (.int .i32 (Z k))).setCell ⟨b, k * 3 + 1, none⟩ (.int .i32 (X k))).setCell ⟨b, k * 3 + 2, none⟩ (.bool (E k))) b n (k + 1) Z X E := by
  obtain ⟨cs, hb, hs, hc⟩ := h
  have h1 := heap_setCell_same w b (k * 3) _ _ (.int .i32 (Z k)) hb
  have h2 := heap_setCell_same _ b (k * 3 + 1) _ _ (.int .i32 (X k)) h1
  have h3 := heap_setCell_same _ b (k * 3 + 2) _ _ (.bool (E k)) h2
  refine ⟨_, h3, by simpa using hs, fun j hj => ?_⟩
  simp only [Array.getElem?_setIfInBounds, Array.size_setIfInBounds]
  by_cases e : j = k
  · subst e
    refine ⟨?_, ?_, ?_⟩
    · rw [if_neg (by omega), if_neg (by omega), if_pos rfl, if_pos (by omega)]
    · rw [if_neg (by omega), if_pos rfl, if_pos (by omega)]
    · rw [if_pos rfl, if_pos (by omega)]
  · obtain ⟨c0, c1, c2⟩ := hc j (by omega)
    refine ⟨?_, ?_, ?_⟩
    · rw [if_neg (by omega), if_neg (by omega), if_neg (by omega)]; exact c0
    · rw [if_neg (by omega), if_neg (by omega), if_neg (by omega)]; exact c1
    · rw [if_neg (by omega), if_neg (by omega), if_neg (by omega)]; exact c2

theorem PR.rw {w : World} {b n : Nat} {Z X : Nat → Int} {E : Nat → Bool} (h : PR w b n n Z X E) : Rw w b n Z X E := by
  intro j hj
  obtain ⟨cs, hb, hs, hc⟩ := h
  obtain ⟨c0, c1, c2⟩ := hc j hj
  simp [World.cell?, hb, c0, c1, c2]
end Go.Proofs.Qxb6620996a
