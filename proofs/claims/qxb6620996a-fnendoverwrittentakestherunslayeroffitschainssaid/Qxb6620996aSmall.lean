import Derived.Test.Qxb6620996aDueKit
import Derived.Test.Qxb6620996aPure
import Derived.Lib.SliceRun
namespace Go.Proofs.Qxb6620996a
open Go.RowKit Go.Deep
set_option linter.unusedVariables false

theorem info2 : (Try.prog.info? 2).map (fun i => (i.zero, i.size, i.bytes)) = some (some (.int .i64 0), 1, 8) := by kernel_rfl
theorem info25 : (Try.prog.info? 25).map (fun i => (i.zero, i.size, i.bytes)) = some (some (.slice none 0 0), 1, 24) := by kernel_rfl
theorem info43 : (Try.prog.info? 43).map (fun i => (i.zero, i.size, i.bytes)) = some (some (.slice none 0 0), 1, 24) := by kernel_rfl

/-- endFirstOf's number -/
def FirstIs (n : Nat) (f : Nat → Int) (x : Int) (e : Ending) : Prop :=
  ∃ v : Int, e = .returned (.int .i64 v) ∧ (fi n f x < n → v = fi n f x) ∧ (¬ fi n f x < n → v = -1)

theorem firstOf_any (a : Option Addr) (n c : Nat) (x : Int) (f : Nat → Int) (w : World) (h : Sl w a n (fun j => .int .i32 (f j))) (hn : n ≤ 9223372036854775807) :
    Calls Try.prog 28 #[.slice a n c, .int .i32 x] w fun e w' => FirstIs n f x e ∧ w' = w := by
  go_enter Try.func28, Try.ntmps28
  go_wp2
  go_loop [5] (fun i => ∃ j : Nat, j ≤ n ∧ i = .int .i64 j ∧ ∀ k, k < j → f k ≠ x) (fun i => n - (intOf i).toNat)
  case atStart => exact ⟨0, Nat.zero_le _, rfl, fun k hk => absurd hk (by omega)⟩
  case round =>
    obtain ⟨j, hj, rfl, hall⟩ := hrel
    have hall' : Hid (∀ k, k < j → f k ≠ x) := hall
    clear hall
    by_cases hlt : j < n
    · obtain ⟨b, off, rfl, hc⟩ := h j hlt
      clear h
      go_wp2
      · have hjx : (f j == x) = true := by assumption
        have e : fi n f x = j := fi_eq (by omega) hall'.out (fun _ => by simpa using hjx)
        go_ret
        exact ⟨⟨(j : Int), rfl, fun _ => by rw [e], fun h => absurd hlt (by rw [e] at h; exact h)⟩, rfl⟩
      · have hjx : (f j == x) = false := by assumption
        go_round
        case rel => exact ⟨j + 1, by omega, by go_num, all_succ hall'.out (by simpa using hjx)⟩
        case measure => simp [intOf]; omega
    · obtain rfl : j = n := by omega
      clear h
      go_wp2
      go_ret
      have : fi j f x = j := fi_eq (Nat.le_refl _) hall'.out (fun h => absurd h (Nat.lt_irrefl _))
      exact ⟨⟨-1, rfl, fun h => absurd h (by omega), fun _ => rfl⟩, rfl⟩

/-- what a clone hands back -/
def Cl (w w' : World) (t : TypeId) (n : Nat) (f : Nat → Value) (e : Ending) : Prop :=
  ∃ a c, e = .returned (.slice a n c) ∧ (0 < n → a = some ⟨w.heap.size, 0, none⟩ ∧ w'.rowIs w.heap.size t n f)

theorem row_step {w : World} {b : Nat} {t : TypeId} {n j : Nat} {f : Nat → Value} {z : Value} (h : w.rowIs b t n (fun i => if i < j then f i else z)) :
    (w.setCell ⟨b, j, none⟩ (f j)).rowIs b t n (fun i => if i < j + 1 then f i else z) := by
  refine (h.set j _).congr (fun i _ => ?_)
  by_cases e : i = j
  · subst e; simp
  · by_cases e2 : i < j
    · simp [e, e2, show i < j + 1 by omega]
    · simp [e, e2, show ¬ i < j + 1 by omega]

def upf {α : Type} (f : Nat → α) (k : Nat) (v : α) : Nat → α := fun r => if r = k then v else f r

/-- rows that the call has cloned -/
structure Rows2 (w : World) (B n k : Nat) (t1 t2 : TypeId) (L : Nat → Nat) (F : Nat → Nat → Value) (A : Nat → Option Addr) (C G : Nat → Nat) : Prop where
  top : w.rowIs B t1 n (fun r => if r < k then .slice (A r) (L r) (C r) else .slice none 0 0)
  row : ∀ r, r < k → 0 < L r → A r = some ⟨G r, 0, none⟩ ∧ B < G r ∧ w.rowIs (G r) t2 (L r) (F r)
  inc : ∀ r r', r < r' → r' < k → 0 < L r → 0 < L r' → G r < G r'

theorem Rows2.next {w w1 : World} {B n k c' : Nat} {t1 t2 : TypeId} {L : Nat → Nat} {F : Nat → Nat → Value} {A : Nat → Option Addr} {C G : Nat → Nat} {a' : Option Addr}
    (h : Rows2 w B n k t1 t2 L F A C G) (hk : k < n) (hb : Below w.heap.size w w1) (hc : 0 < L k → a' = some ⟨w.heap.size, 0, none⟩ ∧ w1.rowIs w.heap.size t2 (L k) (F k)) :
    Rows2 (w1.setCell ⟨B, k, none⟩ (.slice a' (L k) c')) B n (k + 1) t1 t2 L F (upf A k a') (upf C k c') (upf G k w.heap.size) := by
  have hB : B < w.heap.size := h.top.lt
  refine ⟨?_, fun r hr hl => ?_, fun r r' h1 h2 h3 h4 => ?_⟩
  · refine ((h.top.of_block (hb.block B hB)).set k _).congr (fun i hi => ?_)
    by_cases e : i = k
    · subst e; simp [upf]
    · by_cases e2 : i < k
      · simp [upf, e, e2, show i < k + 1 by omega]
      · simp [e, e2, show ¬ i < k + 1 by omega]
  · by_cases e : r = k
    · subst e
      obtain ⟨h1, h2⟩ := hc hl
      simp only [upf, if_true]
      exact ⟨h1, hB, h2.setOther (by simp; omega) _⟩
    · obtain ⟨h1, h2, h3⟩ := h.row r (by omega) hl
      simp only [upf, e, if_false]
      exact ⟨h1, h2, (h3.of_block (hb.block _ h3.lt)).setOther (by simp; omega) _⟩
  · by_cases e : r' = k
    · subst e
      have : (h.row r (by omega) h3).2.2.lt = (h.row r (by omega) h3).2.2.lt := rfl
      have hl := (h.row r (by omega) h3).2.2.lt
      simp only [upf, if_true, show r ≠ r' by omega, if_false]
      exact hl
    · simp only [upf, e, show r ≠ k by omega, if_false]
      exact h.inc r r' h1 (by omega) h3 h4

/-- what a clone of rows hands back -/
def Cl2 (w w' : World) (t1 t2 : TypeId) (n : Nat) (L : Nat → Nat) (F : Nat → Nat → Value) (e : Ending) : Prop :=
  ∃ a c, e = .returned (.slice a n c) ∧ (0 < n → a = some ⟨w.heap.size, 0, none⟩ ∧ ∃ A C G, Rows2 w' w.heap.size n n t1 t2 L F A C G)

theorem eqI32_any (a b : Option Addr) (n c d : Nat) (f g : Nat → Int) (w : World) (h : Sl w a n (fun j => .int .i32 (f j))) (h' : Sl w b n (fun j => .int .i32 (g j))) (he : ∀ j, j < n → f j = g j) (hn : n ≤ 9223372036854775807) :
    Calls Try.prog 15 #[.slice a n c, .slice b n d] w fun e w' => e = .returned (.bool true) ∧ ∃ m, w' = w.drewN m := by
  have he' : Hid (∀ j, j < n → f j = g j) := he
  clear he
  go_enter Try.func15, Try.ntmps15
  go_wp2
  go_loopw [5] (fun i wr => ∃ j : Nat, j ≤ n ∧ i = .int .i64 j ∧ ∃ m, wr = w.drewN m) (fun i _ => n - (intOf i).toNat)
  case atStart => exact ⟨0, Nat.zero_le _, rfl, 0, rfl⟩
  case round =>
    obtain ⟨j, hj, rfl, m, rfl⟩ := hrel
    by_cases hlt : j < n
    · obtain ⟨b1, off, rfl, hc⟩ := h j hlt
      obtain ⟨b2, off2, rfl, hc2⟩ := h' j hlt
      simp only at hc hc2
      rw [← he'.out j hlt] at hc2
      clear h h'
      go_wp2
      go_quiet (fail)
      go_wp2
      go_roundw
      case rel => exact ⟨j + 1, by omega, by go_num, drew1 _ _⟩
      case measure => simp [intOf]; omega
    · clear h h'
      go_wp2
      go_ret
      exact ⟨rfl, drew1 _ _⟩

theorem cloneI32_any (a : Option Addr) (n c : Nat) (f : Nat → Int) (w : World) (h : Sl w a n (fun j => .int .i32 (f j))) (hn : n ≤ 1048576) :
    Calls Try.prog 24 #[.slice a n c] w fun e w' => Cl w w' 21 n (fun j => .int .i32 (f j)) e ∧ Below w.heap.size w w' := by
  have hnil := fun w => Lib.run_eql_slice_nil (P := Try.prog) w 25 21 a n c 0 0 Try.underlying25
  cases a with
  | none =>
    have hn0 : n = 0 := by
      rcases Nat.eq_zero_or_pos n with h' | h'
      · exact h'
      · obtain ⟨b, off, hb⟩ := h.addr h'
        cases hb
    subst hn0
    clear h
    go_enter Try.func24, Try.ntmps24
    go_wp2
    go_ret
    exact ⟨⟨none, 0, rfl, fun h => absurd h (by omega)⟩, Below.refl _ _⟩
  | some x =>
    have mk0 := run_make_row' (P := Try.prog) 25 21 (.int .i32 0) 4 Try.underlying25 info21 rfl .i64 .i64 n (by omega) (by omega)
    have r0 := World.rowIs_made w (.int .i32 0) n 21
    have b0 : Below w.heap.size w (w.alloc (.cells (madeCells #[.int .i32 0] n) 21)) := (Below.refl _ _).alloc (Nat.le_refl _) _
    go_enter Try.func24, Try.ntmps24
    go_wp2
    generalize w.alloc (.cells (madeCells #[.int .i32 0] n) 21) = w0 at *
    clear mk0 hnil
    go_loopw [4] (fun i wr => ∃ j : Nat, j ≤ n ∧ i = .int .i64 j ∧ wr.rowIs w.heap.size 21 n (fun i => if i < j then .int .i32 (f i) else .int .i32 0) ∧ Below w.heap.size w wr) (fun i _ => n - (intOf i).toNat)
    case atStart => exact ⟨0, Nat.zero_le _, rfl, r0.congr (fun i _ => by simp), b0⟩
    case round =>
      clear r0 b0
      obtain ⟨j, hj, rfl, hr, hb⟩ := hrel
      by_cases hlt : j < n
      · obtain ⟨b, off, hx, hc⟩ := h j hlt
        simp only [Option.some.injEq] at hx
        subst hx
        have hbl : b < w.heap.size := block_lt_of_cell hc
        have hc' := (hb.cell (p := ⟨b, off + j, none⟩) hbl).trans hc
        have ho := hr.cell hlt
        have hf := hr.frozen j
        have hr2 := row_step hr
        have hb2 := hb.setCell (p := ⟨w.heap.size, j, none⟩) (Nat.le_refl _) (.int .i32 (f j))
        simp only [Nat.lt_irrefl, if_false] at ho
        clear h hc
        go_wp2
        go_roundw
        case rel => exact ⟨j + 1, by omega, by go_num, hr2, hb2⟩
        case measure => simp [intOf]; omega
      · obtain rfl : j = n := by omega
        clear h
        go_wp2
        go_ret
        exact ⟨⟨_, _, rfl, fun _ => ⟨rfl, hr.congr (fun i hi => by simp [hi])⟩⟩, hb⟩

theorem clone2I32_any (a : Option Addr) (n c : Nat) (A : Nat → Option Addr) (L C : Nat → Nat) (f : Nat → Nat → Int) (w : World) (h : Sl w a n (fun r => .slice (A r) (L r) (C r)))
    (hr : ∀ r, r < n → Sl w (A r) (L r) (fun j => .int .i32 (f r j))) (hn : n ≤ 1048576) (hL : ∀ r, r < n → L r ≤ 1048576) :
    Calls Try.prog 26 #[.slice a n c] w fun e w' => Cl2 w w' 25 21 n L (fun r j => .int .i32 (f r j)) e ∧ Below w.heap.size w w' := by
  have hnil := fun w => Lib.run_eql_slice_nil (P := Try.prog) w 22 25 a n c 0 0 Try.underlying22
  cases a with
  | none =>
    have hn0 : n = 0 := by
      rcases Nat.eq_zero_or_pos n with h' | h'
      · exact h'
      · obtain ⟨b, off, hb⟩ := h.addr h'
        cases hb
    subst hn0
    clear h
    go_enter Try.func26, Try.ntmps26
    go_wp2
    go_ret
    exact ⟨⟨none, 0, rfl, fun h => absurd h (by omega)⟩, Below.refl _ _⟩
  | some x =>
    have mk0 := run_make_row' (P := Try.prog) 22 25 (.slice none 0 0) 24 Try.underlying22 info25 rfl .i64 .i64 n (by omega) (by omega)
    have r0 := World.rowIs_made w (.slice none 0 0) n 25
    have b0 : Below w.heap.size w (w.alloc (.cells (madeCells #[.slice none 0 0] n) 25)) := (Below.refl _ _).alloc (Nat.le_refl _) _
    go_enter Try.func26, Try.ntmps26
    go_wp2
    generalize w.alloc (.cells (madeCells #[.slice none 0 0] n) 25) = w0 at *
    clear mk0 hnil
    go_loopw [4] (fun i wr => ∃ k : Nat, k ≤ n ∧ i = .int .i64 k ∧ (∃ A' C' G', Rows2 wr w.heap.size n k 25 21 L (fun r j => .int .i32 (f r j)) A' C' G') ∧ Below w.heap.size w wr) (fun i _ => n - (intOf i).toNat)
    case atStart => exact ⟨0, Nat.zero_le _, rfl, ⟨fun _ => none, fun _ => 0, fun _ => 0, r0.congr (fun i _ => by simp), fun r hr => absurd hr (by omega), fun r r' h1 h2 => absurd h2 (by omega)⟩, b0⟩
    case round =>
      clear r0 b0
      obtain ⟨k, hk, rfl, ⟨A', C', G', hR⟩, hb⟩ := hrel
      by_cases hlt : k < n
      · obtain ⟨b, off, hx, hc⟩ := h k hlt
        simp only [Option.some.injEq] at hx
        subst hx
        have hbl : b < w.heap.size := block_lt_of_cell hc
        have hc' := (hb.cell (p := ⟨b, off + k, none⟩) hbl).trans hc
        have hrow := (hr k hlt).below hb (Nat.le_refl _)
        have hLk := hL k hlt
        have hsz := hR.top.lt
        clear h hc hr hL
        go_wp2_with fail
        refine (cloneI32_any _ _ _ _ _ hrow hLk).mono ?_
        rintro e w1 ⟨⟨a', c', rfl, hcl⟩, hb1⟩
        have hN := hR.next (c' := c') hlt hb1 hcl
        have hB2 := (hb.trans (hb1.mono (Nat.le_of_lt hsz))).setCell (p := ⟨w.heap.size, k, none⟩) (Nat.le_refl _) (.slice a' (L k) c')
        have htop := hR.top.of_block (hb1.block _ hsz)
        have ho := htop.cell hlt
        have hf := htop.frozen k
        simp only [Nat.lt_irrefl, if_false] at ho
        clear hcl hb1 hb hc' hrow hR htop
        go_wp2
        go_roundw
        case rel => exact ⟨k + 1, by omega, by go_num, ⟨_, _, _, hN⟩, hB2⟩
        case measure => simp [intOf]; omega
      · obtain rfl : k = n := by omega
        clear h hr hL
        go_wp2
        go_ret
        exact ⟨⟨_, _, rfl, fun _ => ⟨rfl, A', C', G', hR⟩⟩, hb⟩

theorem eqI64_any (a b : Option Addr) (n c d : Nat) (f g : Nat → Int) (w : World) (h : Sl w a n (fun j => .int .i64 (f j))) (h' : Sl w b n (fun j => .int .i64 (g j))) (he : ∀ j, j < n → f j = g j) (hn : n ≤ 9223372036854775807) :
    Calls Try.prog 30 #[.slice a n c, .slice b n d] w fun e w' => e = .returned (.bool true) ∧ ∃ m, w' = w.drewN m := by
  have he' : Hid (∀ j, j < n → f j = g j) := he
  clear he
  go_enter Try.func30, Try.ntmps30
  go_wp2
  go_loopw [5] (fun i wr => ∃ j : Nat, j ≤ n ∧ i = .int .i64 j ∧ ∃ m, wr = w.drewN m) (fun i _ => n - (intOf i).toNat)
  case atStart => exact ⟨0, Nat.zero_le _, rfl, 0, rfl⟩
  case round =>
    obtain ⟨j, hj, rfl, m, rfl⟩ := hrel
    by_cases hlt : j < n
    · obtain ⟨b1, off, rfl, hc⟩ := h j hlt
      obtain ⟨b2, off2, rfl, hc2⟩ := h' j hlt
      simp only at hc hc2
      rw [← he'.out j hlt] at hc2
      clear h h'
      go_wp2
      go_quiet (fail)
      go_wp2
      go_roundw
      case rel => exact ⟨j + 1, by omega, by go_num, drew1 _ _⟩
      case measure => simp [intOf]; omega
    · clear h h'
      go_wp2
      go_ret
      exact ⟨rfl, drew1 _ _⟩

theorem cloneI64_any (a : Option Addr) (n c : Nat) (f : Nat → Int) (w : World) (h : Sl w a n (fun j => .int .i64 (f j))) (hn : n ≤ 1048576) :
    Calls Try.prog 23 #[.slice a n c] w fun e w' => Cl w w' 2 n (fun j => .int .i64 (f j)) e ∧ Below w.heap.size w w' := by
  have hnil := fun w => Lib.run_eql_slice_nil (P := Try.prog) w 43 2 a n c 0 0 Try.underlying43
  cases a with
  | none =>
    have hn0 : n = 0 := by
      rcases Nat.eq_zero_or_pos n with h' | h'
      · exact h'
      · obtain ⟨b, off, hb⟩ := h.addr h'
        cases hb
    subst hn0
    clear h
    go_enter Try.func23, Try.ntmps23
    go_wp2
    go_ret
    exact ⟨⟨none, 0, rfl, fun h => absurd h (by omega)⟩, Below.refl _ _⟩
  | some x =>
    have mk0 := run_make_row' (P := Try.prog) 43 2 (.int .i64 0) 8 Try.underlying43 info2 rfl .i64 .i64 n (by omega) (by omega)
    have r0 := World.rowIs_made w (.int .i64 0) n 2
    have b0 : Below w.heap.size w (w.alloc (.cells (madeCells #[.int .i64 0] n) 2)) := (Below.refl _ _).alloc (Nat.le_refl _) _
    go_enter Try.func23, Try.ntmps23
    go_wp2
    generalize w.alloc (.cells (madeCells #[.int .i64 0] n) 2) = w0 at *
    clear mk0 hnil
    go_loopw [4] (fun i wr => ∃ j : Nat, j ≤ n ∧ i = .int .i64 j ∧ wr.rowIs w.heap.size 2 n (fun i => if i < j then .int .i64 (f i) else .int .i64 0) ∧ Below w.heap.size w wr) (fun i _ => n - (intOf i).toNat)
    case atStart => exact ⟨0, Nat.zero_le _, rfl, r0.congr (fun i _ => by simp), b0⟩
    case round =>
      clear r0 b0
      obtain ⟨j, hj, rfl, hr, hb⟩ := hrel
      by_cases hlt : j < n
      · obtain ⟨b, off, hx, hc⟩ := h j hlt
        simp only [Option.some.injEq] at hx
        subst hx
        have hbl : b < w.heap.size := block_lt_of_cell hc
        have hc' := (hb.cell (p := ⟨b, off + j, none⟩) hbl).trans hc
        have ho := hr.cell hlt
        have hf := hr.frozen j
        have hr2 := row_step hr
        have hb2 := hb.setCell (p := ⟨w.heap.size, j, none⟩) (Nat.le_refl _) (.int .i64 (f j))
        simp only [Nat.lt_irrefl, if_false] at ho
        clear h hc
        go_wp2
        go_roundw
        case rel => exact ⟨j + 1, by omega, by go_num, hr2, hb2⟩
        case measure => simp [intOf]; omega
      · obtain rfl : j = n := by omega
        clear h
        go_wp2
        go_ret
        exact ⟨⟨_, _, rfl, fun _ => ⟨rfl, hr.congr (fun i hi => by simp [hi])⟩⟩, hb⟩

theorem clone2I64_any (a : Option Addr) (n c : Nat) (A : Nat → Option Addr) (L C : Nat → Nat) (f : Nat → Nat → Int) (w : World) (h : Sl w a n (fun r => .slice (A r) (L r) (C r)))
    (hr : ∀ r, r < n → Sl w (A r) (L r) (fun j => .int .i64 (f r j))) (hn : n ≤ 1048576) (hL : ∀ r, r < n → L r ≤ 1048576) :
    Calls Try.prog 27 #[.slice a n c] w fun e w' => Cl2 w w' 43 2 n L (fun r j => .int .i64 (f r j)) e ∧ Below w.heap.size w w' := by
  have hnil := fun w => Lib.run_eql_slice_nil (P := Try.prog) w 44 43 a n c 0 0 Try.underlying44
  cases a with
  | none =>
    have hn0 : n = 0 := by
      rcases Nat.eq_zero_or_pos n with h' | h'
      · exact h'
      · obtain ⟨b, off, hb⟩ := h.addr h'
        cases hb
    subst hn0
    clear h
    go_enter Try.func27, Try.ntmps27
    go_wp2
    go_ret
    exact ⟨⟨none, 0, rfl, fun h => absurd h (by omega)⟩, Below.refl _ _⟩
  | some x =>
    have mk0 := run_make_row' (P := Try.prog) 44 43 (.slice none 0 0) 24 Try.underlying44 info43 rfl .i64 .i64 n (by omega) (by omega)
    have r0 := World.rowIs_made w (.slice none 0 0) n 43
    have b0 : Below w.heap.size w (w.alloc (.cells (madeCells #[.slice none 0 0] n) 43)) := (Below.refl _ _).alloc (Nat.le_refl _) _
    go_enter Try.func27, Try.ntmps27
    go_wp2
    generalize w.alloc (.cells (madeCells #[.slice none 0 0] n) 43) = w0 at *
    clear mk0 hnil
    go_loopw [4] (fun i wr => ∃ k : Nat, k ≤ n ∧ i = .int .i64 k ∧ (∃ A' C' G', Rows2 wr w.heap.size n k 43 2 L (fun r j => .int .i64 (f r j)) A' C' G') ∧ Below w.heap.size w wr) (fun i _ => n - (intOf i).toNat)
    case atStart => exact ⟨0, Nat.zero_le _, rfl, ⟨fun _ => none, fun _ => 0, fun _ => 0, r0.congr (fun i _ => by simp), fun r hr => absurd hr (by omega), fun r r' h1 h2 => absurd h2 (by omega)⟩, b0⟩
    case round =>
      clear r0 b0
      obtain ⟨k, hk, rfl, ⟨A', C', G', hR⟩, hb⟩ := hrel
      by_cases hlt : k < n
      · obtain ⟨b, off, hx, hc⟩ := h k hlt
        simp only [Option.some.injEq] at hx
        subst hx
        have hbl : b < w.heap.size := block_lt_of_cell hc
        have hc' := (hb.cell (p := ⟨b, off + k, none⟩) hbl).trans hc
        have hrow := (hr k hlt).below hb (Nat.le_refl _)
        have hLk := hL k hlt
        have hsz := hR.top.lt
        clear h hc hr hL
        go_wp2_with fail
        refine (cloneI64_any _ _ _ _ _ hrow hLk).mono ?_
        rintro e w1 ⟨⟨a', c', rfl, hcl⟩, hb1⟩
        have hN := hR.next (c' := c') hlt hb1 hcl
        have hB2 := (hb.trans (hb1.mono (Nat.le_of_lt hsz))).setCell (p := ⟨w.heap.size, k, none⟩) (Nat.le_refl _) (.slice a' (L k) c')
        have htop := hR.top.of_block (hb1.block _ hsz)
        have ho := htop.cell hlt
        have hf := htop.frozen k
        simp only [Nat.lt_irrefl, if_false] at ho
        clear hcl hb1 hb hc' hrow hR htop
        go_wp2
        go_roundw
        case rel => exact ⟨k + 1, by omega, by go_num, ⟨_, _, _, hN⟩, hB2⟩
        case measure => simp [intOf]; omega
      · obtain rfl : k = n := by omega
        clear h hr hL
        go_wp2
        go_ret
        exact ⟨⟨_, _, rfl, fun _ => ⟨rfl, A', C', G', hR⟩⟩, hb⟩
end Go.Proofs.Qxb6620996a
