import Derived.Test.Qxb6619684aKit
import Derived.Maps.OwnSet
import Derived.Maps.RangeWalk
import Derived.Maps.Ext
import Derived.Lib.SliceRun
namespace Go.Proofs.Qxb6619684a
open Go.RowKit Go.Deep Go.Maps
set_option linter.unusedVariables false

theorem law29 : Keyed Try.prog 29 := int_keyed Try.underlying29
theorem info36 : (Try.prog.info? 36).map (fun i => (i.zero, i.size, i.bytes)) = some (some (.pointer none), 1, 8) := by kernel_rfl
theorem info4 : (Try.prog.info? 4).map (fun i => (i.zero, i.size, i.bytes)) = some (some (.bool false), 1, 1) := by kernel_rfl
theorem zero36 (w : World) : (zeroValue 36).run Try.prog w = .ok (.pointer none) w := by kernel_rfl

/-- a node's pointer: none, or the head of a block -/
def PV : Option Nat → Value
  | .none => .pointer none
  | .some b => .pointer (some ⟨b, 0, none⟩)
/-- .. what it reads as -/
def PL : Option Nat → Lit
  | .none => .int .i64 (-1)
  | .some b => .int .i64 b
def R36 : Value → Option (DataW Unit × List MemPlace)
  | .pointer none => some (.lit (PL none), [])
  | .pointer (some ⟨b, 0, none⟩) => some (.lit (PL (some b)), [])
  | _ => none
theorem R36_mk (o : Option Nat) : R36 (PV o) = some (.lit (PL o), []) := by cases o <;> rfl
theorem R36_inv {v : Value} {z : DataW Unit × List MemPlace} (h : R36 v = some z) : ∃ o, v = PV o ∧ z = (.lit (PL o), []) := by
  unfold R36 at h
  split at h
  · cases h; exact ⟨none, rfl, rfl⟩
  · rename_i b
    cases h; exact ⟨some b, rfl, rfl⟩
  · cases h
theorem PL_inj {a b : Option Nat} (h : PL a = PL b) : a = b := by
  cases a <;> cases b <;> simp [PL] at h ⊢ <;> omega

def K29 (p : Nat) : Lit := .int .u32 p
theorem K29_ne {p q : Nat} (h : p ≠ q) : K29 p ≠ K29 q := by
  intro e
  simp [K29] at e
  omega
theorem key29 {p : Nat} (h : p ≤ 65536) : keyOf Try.prog 29 (.int .u32 p) = some (K29 p) := keyOf_int_mk Try.underlying29 (WalkArith.wf_u32 (by omega))
theorem isKey29 (p : Nat) : WideAt.IsKeyLit (K29 p) := trivial

def upd (M : Nat → Option Nat) (p b : Nat) : Nat → Option Nat := fun r => if r = p then some b else M r

/-- The map's datum D holds just the nodes of M, cnt of them. -/
structure Rd (D : DataW Unit) (M : Nat → Option Nat) (cnt : Nat) : Prop where
  at' : ∀ p b, M p = some b → ∀ z, D.atKey (K29 p) z = .lit (PL (some b))
  has' : ∀ p, Maps.has D (K29 p) = (M p).isSome
  size' : Maps.size D = cnt

theorem rd_made : Rd (.map []) (fun _ => none) 0 := ⟨fun p b h => (by cases h), fun p => rfl, rfl⟩

theorem Rd.look {D : DataW Unit} {M : Nat → Option Nat} {cnt : Nat} (h : Rd D M cnt) (p : Nat) : D.atKey (K29 p) (.lit (PL none)) = .lit (PL (M p)) := by
  cases hm : M p with
  | none => exact atKey_of_not_has (by rw [h.has', hm]; rfl) _
  | some b => exact h.at' p b hm _

theorem Rd.put {D : DataW Unit} {M : Nat → Option Nat} {cnt : Nat} (h : Rd D M cnt) (ht : Tidy D) (p b : Nat) : Rd (D.put (K29 p) (.lit (PL (some b)))) (upd M p b) (if M p = none then cnt + 1 else cnt) := by
  refine ⟨fun q c hq z => ?_, fun q => ?_, ?_⟩
  · by_cases e : q = p
    · subst e
      simp only [upd, if_true, Option.some.injEq] at hq
      subst hq
      exact atKey_put_same ht.isMap (isKey29 q) _ _
    · simp only [upd, e, if_false] at hq
      rw [atKey_put_other (K29_ne e)]
      exact h.at' q c hq z
  · by_cases e : q = p
    · subst e
      rw [has_put_same ht.isMap (isKey29 q)]
      simp [upd]
    · rw [has_put_other (K29_ne e), h.has']
      simp [upd, e]
  · rw [size_put ht, h.has', h.size']
    cases hm : M p <;> simp

/-- the three cells of a walkNodes -/
def three (a b c : Value) : Nat → Value := fun i => if i = 0 then a else if i = 1 then b else c

theorem newNode_any (v : Nat) (w : World) (hv : v ≤ 65536) :
    Calls Try.prog 16 #[.int .u64 v] w fun e w' => e = .returned (.pointer (some ⟨w.heap.size, 0, none⟩)) ∧ ∃ o, w' = w.alloc o := by
  go_enter Try.func16, Try.ntmps16
  go_wp2
  go_ret
  exact ⟨rfl, _, rfl⟩

theorem newNodes_any (n : Nat) (w : World) (hn : n ≤ 65536) :
    Calls Try.prog 15 #[.int .u32 n] w fun e w' => e = .returned (.pointer (some ⟨w.heap.size + 1, 0, none⟩)) ∧
      w' = (w.alloc (.map #[] 0)).alloc (.cells #[.int .u32 n, .map (some w.heap.size), .slice none 0 0] 61) := by
  have hmm := @run_makeMap Try.prog
  go_enter Try.func15, Try.ntmps15
  go_wp2
  go_ret
  exact ⟨rfl, rfl⟩

theorem dense_any (n : Nat) (w : World) (hn : n ≤ 65536) :
    Calls Try.prog 33 #[.int .u32 n] w fun e w' => e = .returned (.int .i64 ((n / 8 : Nat) : Int)) ∧ w' = w := by
  go_enter Try.func33, Try.ntmps33
  go_wp2
  go_ret
  exact ⟨by simp, rfl⟩

theorem zzBytes_yes (n : Int) (a : Option Addr) (l c : Nat) (w : World) (hl : l ≤ 1048576) :
    Calls Try.prog 14 #[.int .u32 n, .slice a l c] w fun e w' => e = .returned (.bool true) ∧ w' = w := by
  go_enter Try.func14, Try.ntmps14
  go_wp2
  go_ret
  exact ⟨rfl, rfl⟩

theorem zzBytes_no (n : Int) (a : Option Addr) (l c : Nat) (w : World) (hl : ¬ l ≤ 1048576) :
    Calls Try.prog 14 #[.int .u32 n, .slice a l c] w fun e w' => e = .returned (.bool false) ∧ w' = w := by
  go_enter Try.func14, Try.ntmps14
  go_wp2
  go_ret
  exact ⟨rfl, rfl⟩

theorem fields_any (tb : Nat) (x y z : Value) (w : World) (h : w.rowIs tb 61 3 (three x y z)) (hx : x.oneCell' = true) (hy : y.oneCell' = true) (hz : z.oneCell' = true) :
    Calls Try.prog 18 #[.pointer (some ⟨tb, 0, none⟩)] w fun e w' => e = .returned (.tuple #[x, y, z]) ∧ ∃ m, w' = w.drewN m := by
  have h0 : w.cell? ⟨tb, 0, none⟩ = some x := h.cell (i := 0) (by omega)
  have h1 : w.cell? ⟨tb, 1, none⟩ = some y := h.cell (i := 1) (by omega)
  have h2 : w.cell? ⟨tb, 2, none⟩ = some z := h.cell (i := 2) (by omega)
  clear h
  go_enter Try.func18, Try.ntmps18
  go_wp2
  go_quiet (fail)
  go_wp2
  go_ret3
  exact ⟨rfl, drew1 _ _⟩
end Go.Proofs.Qxb6619684a
