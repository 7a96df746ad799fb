import Derived.Test.Qxb6620996aKit
import Derived.ProofKit
import Derived.OpenShut
import Derived.Deep.Slices
namespace Go.Proofs.Qxb6620996a
open Go.RowKit Go.Deep Go.ChangeShapes Go.WideShapes
set_option linter.unusedVariables false

section
variable {H : Type} {enc : TypeId × Value → H} {P : Program} {w : World} {base : Nat} {held : Bool}

/-- A slice of plain elements that came in. -/
theorem open_plain {t e : TypeId} {α : Type} [Inhabited α] (inj : α → Value) (good : α → Prop) (hd : good default) (ht : P.underlying t = some (.slice e)) (hc : P.cellsOf e = 1)
    (hel : ∀ n v d, DataW.trod enc P w base (fun _ => true) held n e [v] = some d → ∃ y, v = inj y ∧ good y)
    {fuel : Nat} {a : Option Addr} {len cap : Nat} {x : DataW H × List MemPlace} (h : DataW.trod enc P w base (fun _ => true) held fuel t [.slice a len cap] = some x) :
    ∃ Y : Nat → α, Sl w a len (fun i => inj (Y i)) ∧ len ≤ maxLen ∧ ∀ i, good (Y i) := by
  rcases open_slice1 ht hc h with ⟨hcs, _⟩ | ⟨a', len', cap', m, n, V, D, Pl, hcs, hb, hl, hm, hmm, hx, hV⟩
  · simp at hcs
    obtain ⟨rfl, rfl, rfl⟩ := hcs
    exact ⟨fun _ => default, fun i hi => absurd hi (by omega), Nat.zero_le _, fun _ => hd⟩
  · simp at hcs
    obtain ⟨rfl, rfl, rfl⟩ := hcs
    simp only [if_true] at hmm
    subst hmm
    obtain ⟨Y, hY⟩ := choose_lt (fun i (hi : i < m) => hel n (V i) _ (hV i hi).2)
    refine ⟨fun i => if i < m then Y i else default, fun i hi => ?_, by omega, fun i => ?_⟩
    · have hcell := (hV i (by omega)).1
      have him : i < m := by omega
      obtain ⟨b, off, spot⟩ := a'
      have hspot : spot = none := by simpa [Addr.add] using World.cell?_spot (hV 0 (by omega)).1
      subst hspot
      refine ⟨b, off, rfl, ?_⟩
      simp only [him, if_true]
      rw [← (hY i him).1, ← hcell, add_plain]
    · by_cases him : i < m
      · simp only [him, if_true]; exact (hY i him).2
      · simp only [him, if_false]; exact hd

/-- Rows of plain elements that came in. -/
theorem open_rows {t e q : TypeId} {α : Type} [Inhabited α] (inj : α → Value) (good : α → Prop) (hd : good default) (ht : P.underlying t = some (.slice e)) (he : P.underlying e = some (.slice q)) (ce : P.cellsOf e = 1) (cq : P.cellsOf q = 1)
    (hel : ∀ n v d, DataW.trod enc P w base (fun _ => true) held n q [v] = some d → ∃ y, v = inj y ∧ good y)
    {fuel : Nat} {a : Option Addr} {len cap : Nat} {x : DataW H × List MemPlace} (h : DataW.trod enc P w base (fun _ => true) held fuel t [.slice a len cap] = some x) :
    ∃ (A : Nat → Option Addr) (L C : Nat → Nat) (Y : Nat → Nat → α), Sl w a len (fun r => .slice (A r) (L r) (C r)) ∧ (∀ r, r < len → Sl w (A r) (L r) (fun j => inj (Y r j))) ∧ len ≤ maxLen ∧ (∀ r, r < len → L r ≤ maxLen) ∧ ∀ r j, good (Y r j) := by
  obtain ⟨R, h1, h2, h3⟩ := open_plain (α := Option Addr × Nat × Nat × (Nat → α)) (fun y => .slice y.1 y.2.1 y.2.2.1) (fun y => Sl w y.1 y.2.1 (fun j => inj (y.2.2.2 j)) ∧ y.2.1 ≤ maxLen ∧ ∀ j, good (y.2.2.2 j))
    ⟨fun i hi => absurd hi (Nat.not_lt_zero _), Nat.zero_le _, fun _ => hd⟩ ht ce (fun n v d hv => by
      rcases DataW.trod_slice he hv with ⟨hcs, _⟩ | ⟨a', len', cap', elems, rest, n', _, hcs, _⟩
      · simp at hcs
        subst hcs
        exact ⟨(none, 0, 0, fun _ => default), rfl, fun i hi => absurd hi (Nat.not_lt_zero _), Nat.zero_le _, fun _ => hd⟩
      · simp at hcs
        subst hcs
        obtain ⟨Y, k1, k2, k3⟩ := open_plain inj good hd he cq hel hv
        exact ⟨(some a', len', cap', Y), rfl, k1, k2, k3⟩) h
  exact ⟨fun r => (R r).1, fun r => (R r).2.1, fun r => (R r).2.2.1, fun r => (R r).2.2.2, h1, fun r _ => (h3 r).1, h2, fun r _ => (h3 r).2.1, fun r j => (h3 r).2.2 j⟩

theorem read_i32 {q : TypeId} (hq : P.underlying q = some (.int .i32)) : ∀ n v d, DataW.trod enc P w base (fun _ => true) held n q [v] = some d → ∃ y : Int, v = .int .i32 y ∧ (-2147483648 ≤ y ∧ y ≤ 2147483647) := by
  intro n v d h
  obtain ⟨y, h1, _, h3⟩ := DataW.trod_int hq h
  exact ⟨y, by simpa using h1, bounds_i32 h3⟩

theorem read_i64 {q : TypeId} (hq : P.underlying q = some (.int .i64)) : ∀ n v d, DataW.trod enc P w base (fun _ => true) held n q [v] = some d → ∃ y : Int, v = .int .i64 y ∧ (-9223372036854775808 ≤ y ∧ y ≤ 9223372036854775807) := by
  intro n v d h
  obtain ⟨y, h1, _, h3⟩ := DataW.trod_int hq h
  exact ⟨y, by simpa using h1, bounds_i64 h3⟩

theorem read_bool {q : TypeId} (hq : P.underlying q = some .bool) : ∀ n v d, DataW.trod enc P w base (fun _ => true) held n q [v] = some d → ∃ y : Bool, v = .bool y ∧ True := by
  intro n v d h
  obtain ⟨y, h1, _⟩ := DataW.trod_bool hq h
  exact ⟨y, by simpa using h1, trivial⟩

end
end Go.Proofs.Qxb6620996a
