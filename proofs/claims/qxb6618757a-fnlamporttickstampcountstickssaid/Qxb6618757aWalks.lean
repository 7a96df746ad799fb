import Derived.Test.Qxb6618757aRows
import Derived.WalkKit
import Derived.OneCell
import Derived.WalkSpells
import Derived.Laws.Rows
import Derived.ProofKit
namespace Go.Proofs.Qxb6618757a.fnLamportTickStampCountsTicks
open Go.ChangeShapes Go.WideShapes Go.ChangeAt Go.RowKit
set_option linter.unusedVariables false

/-- the clock's block: its count, its kept stamp -/
def Clk (w : World) (b : Nat) (n : Int) : Prop := w.heap[b]? = some (.cells #[.int .u64 n, .int .u64 n] 33 (0, 0))

theorem Clk.cell0 {w : World} {b : Nat} {n : Int} (h : Clk w b n) : w.cell? ⟨b, 0, none⟩ = some (.int .u64 n) := by unfold Clk at h; simp [World.cell?, h]
theorem Clk.cell1 {w : World} {b : Nat} {n : Int} (h : Clk w b n) : w.cell? ⟨b, 1, none⟩ = some (.int .u64 n) := by unfold Clk at h; simp [World.cell?, h]
theorem Clk.free0 {w : World} {b : Nat} {n : Int} (h : Clk w b n) : w.frozen? ⟨b, 0, none⟩ = false := by unfold Clk at h; simp [World.frozen?, h]
theorem Clk.free1 {w : World} {b : Nat} {n : Int} (h : Clk w b n) : w.frozen? ⟨b, 1, none⟩ = false := by unfold Clk at h; simp [World.frozen?, h]

theorem Clk.set {w : World} {b : Nat} {n m : Int} (h : Clk w b n) : Clk ((w.setCell ⟨b, 0, none⟩ (.int .u64 m)).setCell ⟨b, 1, none⟩ (.int .u64 m)) b m := by
  unfold Clk at *
  have h1 := heap_setCell_same w b 0 _ _ (.int .u64 m) h
  have h2 := heap_setCell_same _ b 1 _ _ (.int .u64 m) h1
  exact h2

theorem stamp_any (b : Nat) (n : Int) (w : World) (h : Clk w b n) :
    Calls Try.prog 6 #[.pointer (some ⟨b, 0, none⟩)] w fun e w' => e = .returned (.int .u64 n) ∧ w' = w := by
  have c1 := h.cell1
  clear h
  go_enter Try.func6, Try.ntmps6
  go_wp2
  go_ret
  exact ⟨rfl, rfl⟩

theorem tick_any (b : Nat) (n : Int) (h0 : 0 ≤ n) (hn : n < 18446744073709551615) (w : World) (h : Clk w b n) :
    Calls Try.prog 7 #[.pointer (some ⟨b, 0, none⟩)] w fun e w' => e = .returned (.tuple #[]) ∧ w' = (w.setCell ⟨b, 0, none⟩ (.int .u64 (n + 1))).setCell ⟨b, 1, none⟩ (.int .u64 (n + 1)) := by
  have c0 := h.cell0
  have c1 := h.cell1
  have f0 := h.free0
  have f1 := h.free1
  clear h
  go_enter Try.func7, Try.ntmps7
  go_wp2
  go_end0
  go_wp2
  go_end0
  exact ⟨rfl, rfl⟩

theorem new_any (w : World) :
    Calls Try.prog 5 #[] w fun e w' => e = .returned (.pointer (some ⟨w.heap.size, 0, none⟩)) ∧ w' = w.alloc (.cells #[.int .u64 0, .int .u64 0] 33) := by
  go_enter Try.func5, Try.ntmps5
  go_wp2
  go_ret
  exact ⟨rfl, rfl⟩

theorem walk_out (a0 : Int) (h : a0 < 0 ∨ 65536 < a0) (w : World) :
    Calls Try.prog 3 #[.int .i64 a0] w fun e w' => e = .returned (.bool true) ∧ Grown w w' := by
  rcases h with h | h
  · go_enter Try.func3, Try.ntmps3
    go_wp2
    go_ret
    exact ⟨rfl, Grown.refl _⟩
  · have h' : ¬ a0 < 0 := by omega
    go_enter Try.func3, Try.ntmps3
    go_wp2
    go_ret
    exact ⟨rfl, Grown.refl _⟩

set_option maxHeartbeats 400000 in
theorem walk_in (a0 : Int) (h0 : 0 ≤ a0) (h1 : a0 ≤ 65536) (w : World) :
    Calls Try.prog 3 #[.int .i64 a0] w fun e w' => e = .returned (.bool true) ∧ Grown w w' := by
  have hc0 : Clk (w.alloc (.cells #[.int .u64 0, .int .u64 0] 33)) w.heap.size ((0 : Nat) : Int) := heap_alloc_new w _
  have hg0 : Grown w (w.alloc (.cells #[.int .u64 0, .int .u64 0] 33)) := (Grown.refl _).alloc _ _
  have hc0' : Clk (w.alloc (.cells #[.int .u64 0, .int .u64 0] 33)) w.heap.size (0 : Int) := hc0
  go_enter Try.func3, Try.ntmps3
  go_wp2_with (first
    | (go_at_call 5; refine (new_any _).mono ?_; rintro e w' ⟨rfl, rfl⟩)
    | (go_at_call 6; refine (stamp_any _ _ _ hc0').mono ?_; rintro e w' ⟨rfl, rfl⟩))
  generalize (w.alloc (.cells #[.int .u64 0, .int .u64 0] 33)) = w1 at *
  go_loopw [4] (fun k wr => ∃ j : Nat, j ≤ a0.toNat ∧ k = .int .i64 (j + 1) ∧ Clk wr w.heap.size (j : Int) ∧ Grown w wr) (fun k _ => (a0 + 1 - intOf k).toNat)
  case atStart => exact ⟨0, Nat.zero_le _, rfl, hc0, hg0⟩
  case round =>
    obtain ⟨j, hj, rfl, hclk, hg⟩ := hrel
    by_cases hlt : (j : Int) + 1 ≤ a0
    · have hclk2 := hclk.set (m := (j : Int) + 1)
      have hg2 := (hg.setCell (a := ⟨w.heap.size, 0, none⟩) (Nat.le_refl _) (.int .u64 ((j : Int) + 1))).setCell (a := ⟨w.heap.size, 1, none⟩) (Nat.le_refl _) (.int .u64 ((j : Int) + 1))
      clear hc0 hg0 hc0'
      go_wp2_with fail
      refine (stamp_any _ _ _ hclk).mono ?_
      rintro e w' ⟨rfl, rfl⟩
      go_wp2_with fail
      refine (tick_any _ _ (by omega) (by omega) _ hclk).mono ?_
      rintro e w' ⟨rfl, rfl⟩
      go_wp2_with fail
      refine (stamp_any _ _ _ hclk2).mono ?_
      rintro e w' ⟨rfl, rfl⟩
      go_wp2
      go_roundw
      case rel => exact ⟨j + 1, by omega, by go_num, hclk2, hg2⟩
      case measure => simp [intOf]; omega
    · clear hc0 hg0 hc0'
      go_wp2
      go_ret
      exact ⟨rfl, hg⟩

theorem walk (a0 : Int) (w0 : (Lit.int .i64 a0).wf = true) (w : World) :
    Calls Try.prog 3 #[.int .i64 a0] w fun e w' => e = .returned (.bool true) ∧ Grown w w' := by
  by_cases h : a0 < 0 ∨ 65536 < a0
  · exact walk_out a0 h w
  · exact walk_in a0 (by omega) (by omega) w
end Go.Proofs.Qxb6618757a.fnLamportTickStampCountsTicks
