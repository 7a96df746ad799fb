import Derived.Test.Qxb6619684aRows
import Derived.WalkKit
import Derived.OneCell
import Derived.WalkSpells
import Derived.Laws.Rows
import Derived.Deep.OwnRows
import Derived.Deep.Draws
import Derived.Deep.QuietTactic
import Derived.BigQuiet
namespace Go.Proofs.Qxb6619684a
open Go.RowKit
set_option linter.unusedVariables false

/-- A slice that can be read: where it has an element it leads to a plain address, and cell i behind it holds f i. -/
def Sl (w : World) (a : Option Addr) (n : Nat) (f : Nat → Value) : Prop :=
  ∀ i, i < n → ∃ b off, a = some ⟨b, off, none⟩ ∧ w.cell? ⟨b, off + i, none⟩ = some (f i)

theorem Sl.cell {w : World} {b off n : Nat} {f : Nat → Value} (h : Sl w (some ⟨b, off, none⟩) n f) {i : Nat} (hi : i < n) :
    w.cell? ⟨b, off + i, none⟩ = some (f i) := by
  obtain ⟨b', off', ha, hc⟩ := h i hi
  simp only [Option.some.injEq, Addr.mk.injEq] at ha
  obtain ⟨rfl, rfl, _⟩ := ha
  exact hc

theorem Sl.addr {w : World} {a : Option Addr} {n : Nat} {f : Nat → Value} (h : Sl w a n f) (hn : 0 < n) : ∃ b off, a = some ⟨b, off, none⟩ := by
  obtain ⟨b, off, ha, _⟩ := h 0 hn
  exact ⟨b, off, ha⟩

theorem Sl.congr {w : World} {a : Option Addr} {n : Nat} {f g : Nat → Value} (h : Sl w a n f) (e : ∀ i, i < n → f i = g i) : Sl w a n g := by
  intro i hi
  obtain ⟨b, off, ha, hc⟩ := h i hi
  exact ⟨b, off, ha, by rw [hc, e i hi]⟩

theorem Sl.below {w w' : World} {B : Nat} {a : Option Addr} {n : Nat} {f : Nat → Value} (h : Sl w a n f) (hb : Below B w w') (hB : w.heap.size ≤ B) : Sl w' a n f := by
  intro i hi
  obtain ⟨b, off, ha, hc⟩ := h i hi
  have hlt := block_lt_of_cell hc
  exact ⟨b, off, ha, by rw [hb.cell (p := ⟨b, off + i, none⟩) (by simp at hlt ⊢; omega)]; exact hc⟩

theorem Sl.drewN {w : World} {a : Option Addr} {n : Nat} {f : Nat → Value} (h : Sl w a n f) (m : Nat) : Sl (w.drewN m) a n f := by
  intro i hi
  obtain ⟨b, off, ha, hc⟩ := h i hi
  exact ⟨b, off, ha, by rw [← hc]; rfl⟩

theorem sl_of_row {w : World} {b : Nat} {t : TypeId} {n : Nat} {f : Nat → Value} (h : w.rowIs b t n f) : Sl w (some ⟨b, 0, none⟩) n f := by
  intro i hi
  exact ⟨b, 0, rfl, by rw [Nat.zero_add]; exact h.cell hi⟩


theorem drew2 (w : World) (m n : Nat) : ∃ k, (w.drewN m).drewN n = w.drewN k := ⟨m + n, World.drewN_drewN _ _ _⟩
theorem drew1 (w : World) (m : Nat) : ∃ k, w.drewN m = w.drewN k := ⟨m, rfl⟩
theorem drew0 (w : World) : ∃ k, w = w.drewN k := ⟨0, rfl⟩
theorem ieqT {a b : Int} (h : a = b) : (a == b) = true := by simpa using h
theorem ieqF {a b : Int} (h : a ≠ b) : (a == b) = false := by simpa using h
theorem ineT {a b : Int} (h : a ≠ b) : (a != b) = true := by simpa using h
theorem ineF {a b : Int} (h : a = b) : (a != b) = false := by simpa using h
theorem eq_of_ineF {a b : Int} (h : (a != b) = false) : a = b := by simpa using h
theorem ne_of_ineT {a b : Int} (h : (a != b) = true) : a ≠ b := by simpa using h
theorem natEq {a b : Nat} (h : ((a : Int) != (b : Int)) = false) : a = b := by have := eq_of_ineF h; omega

/-- For all below n, and at n. -/
theorem all_succ {q : Nat → Prop} {k : Nat} (h : ∀ r, r < k → q r) (hk : q k) : ∀ r, r < k + 1 → q r := by
  intro r hr
  by_cases e : r = k
  · subst e; exact hk
  · exact h r (by omega)

end Go.Proofs.Qxb6619684a
