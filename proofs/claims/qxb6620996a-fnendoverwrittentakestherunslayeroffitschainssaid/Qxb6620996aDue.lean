import Derived.Test.Qxb6620996aKit
namespace Go.Proofs.Qxb6620996a
open Go.RowKit
set_option linter.unusedVariables false

/-- A row of planned releases: element j's three cells. -/
def Rw (w : World) (g n : Nat) (Z X : Nat → Int) (E : Nat → Bool) : Prop :=
  ∀ j, j < n → w.cell? ⟨g, j * 3, none⟩ = some (.int .i32 (Z j)) ∧ w.cell? ⟨g, j * 3 + 1, none⟩ = some (.int .i32 (X j)) ∧ w.cell? ⟨g, j * 3 + 2, none⟩ = some (.bool (E j))

/-- The run of 'next' in a sorted row. -/
def IsRun (n : Nat) (Z : Nat → Int) (next : Int) (f t : Nat) : Prop := f ≤ t ∧ t ≤ n ∧ ∀ j, j < n → ((f ≤ j ∧ j < t) ↔ Z j = next)

/-- What due hands back. -/
def DueAns (g n : Nat) (Z : Nat → Int) (next : Int) (e : Ending) : Prop :=
  ∃ a f t m c', e = .returned (.slice a m c') ∧ m = t - f ∧ IsRun n Z next f t ∧ (f < t → a = some ⟨g, f * 3, none⟩)

theorem mono_of {Z : Nat → Int} {n : Nat} (h : ∀ j, j + 1 < n → Z j ≤ Z (j + 1)) : ∀ r s, r ≤ s → s < n → Z r ≤ Z s := by
  intro r s hrs hs
  induction s with
  | zero => obtain rfl : r = 0 := by omega
            exact Int.le_refl _
  | succ s ih =>
    by_cases e : r = s + 1
    · subst e; exact Int.le_refl _
    · exact Int.le_trans (ih (by omega) (by omega)) (h s hs)

theorem run_mk {n : Nat} {Z : Nat → Int} {next : Int} {f t : Nat} (hft : f ≤ t) (ht : t ≤ n) (hm : ∀ r s, r ≤ s → s < n → Z r ≤ Z s)
    (hlo : ∀ r, r < f → Z r < next) (hhi : ∀ r, f ≤ r → r < n → next ≤ Z r) (hin : ∀ r, f ≤ r → r < t → Z r = next) (hout : t < n → Z t ≠ next) : IsRun n Z next f t := by
  refine ⟨hft, ht, fun j hj => ⟨fun h => hin j h.1 h.2, fun h => ?_⟩⟩
  have h1 : f ≤ j := by
    rcases Nat.lt_or_ge j f with h' | h'
    · have := hlo j h'; omega
    · exact h'
  refine ⟨h1, ?_⟩
  rcases Nat.lt_or_ge j t with h' | h'
  · exact h'
  · have ht' : t < n := by omega
    have := hm t j h' hj
    have := hhi t hft ht'
    have := hout ht'
    omega

set_option maxHeartbeats 1000000 in
theorem due_any (ao : Option Addr) (n c q : Nat) (next : Int) (G L : Nat → Nat) (Z X : Nat → Int) (E : Nat → Bool) (w : World)
    (h0 : Sl w ao n (fun r => .slice (some ⟨G r, 0, none⟩) (L r) (L r))) (hq : q < n) (hn : n ≤ 1048576) (hL : L q ≤ 1048576)
    (hr : Rw w (G q) (L q) Z X E) (hs : ∀ j, j + 1 < L q → Z j ≤ Z (j + 1)) (hG : G q < w.heap.size) (hZ : ∀ j, -2147483648 ≤ Z j ∧ Z j ≤ 2147483647) :
    Calls Try.prog 31 #[.agg #[.slice ao n c], .int .i64 q, .int .i64 next] w fun e w' =>
      DueAns (G q) (L q) Z next e ∧ Below w.heap.size w w' := by
  obtain ⟨b, off, rfl, hc⟩ := h0 q hq
  have hlt := block_lt_of_cell hc
  clear h0
  have hmono : Hid (∀ r s, r ≤ s → s < L q → Z r ≤ Z s) := mono_of hs
  clear hs
  go_enter Try.func31, Try.ntmps31
  go_wp2
  go_loop [8, 9, 10] (fun f t m => ∃ i j : Nat, i ≤ j ∧ j ≤ L q ∧ f = .int .i64 i ∧ t = .int .i64 j ∧ (∀ r, r < i → Z r < next) ∧ (∀ r, j ≤ r → r < L q → next ≤ Z r)) (fun f t _ => (intOf t - intOf f).toNat)
  case atStart => exact ⟨0, L q, Nat.zero_le _, Nat.le_refl _, rfl, rfl, fun r hr => absurd hr (by omega), fun r h1 h2 => absurd h2 (by omega)⟩
  case round =>
    obtain ⟨i, j, hij, hj, rfl, rfl, hlo, hhi⟩ := hrel
    by_cases hlt2 : i < j
    · have hm := (hr ((i + j) / 2) (by omega)).1
      have hzb := hZ ((i + j) / 2)
      have hlo' : Hid (∀ r, r < i → Z r < next) := hlo
      have hhi' : Hid (∀ r, j ≤ r → r < L q → next ≤ Z r) := hhi
      clear hr hlo hhi hZ
      go_wp2
      · have ht : Z ((i + j) / 2) < next := by assumption
        go_round
        case rel => exact ⟨(i + j) / 2 + 1, j, by omega, hj, by go_num, rfl, fun r hr => by have := hmono.out r ((i + j) / 2) (by omega) (by omega); omega, hhi'.out⟩
        case measure => simp [intOf]; omega
      · have ht : next ≤ Z ((i + j) / 2) := by assumption
        go_round
        case rel => exact ⟨i, (i + j) / 2, by omega, by omega, rfl, by go_num, hlo'.out, fun r h1 h2 => by have := hmono.out ((i + j) / 2) r h1 h2; omega⟩
        case measure => simp [intOf]; omega
    · obtain rfl : i = j := by omega
      have hlo' : Hid (∀ r, r < i → Z r < next) := hlo
      have hhi' : Hid (∀ r, i ≤ r → r < L q → next ≤ Z r) := hhi
      clear hlo hhi hij
      go_wp2
      go_loop [9] (fun t => ∃ j : Nat, i ≤ j ∧ j ≤ L q ∧ t = .int .i64 j ∧ ∀ r, i ≤ r → r < j → Z r = next) (fun t => (L q - (intOf t).toNat))
      case atStart => exact ⟨i, Nat.le_refl _, hj, rfl, fun r h1 h2 => absurd h2 (by omega)⟩
      case round =>
        obtain ⟨j, hij, hj2, rfl, hin⟩ := hrel
        have hin' : Hid (∀ r, i ≤ r → r < j → Z r = next) := hin
        clear hin
        by_cases hl : j < L q
        · have hm := (hr j hl).1
          have hzb := hZ j
          clear hr hZ
          go_wp2
          · have hzj : (Z j == next) = true := by assumption
            go_round
            case rel => exact ⟨j + 1, by omega, by omega, by go_num, fun r h1 h2 => by
              by_cases e : r = j
              · subst e; simpa using hzj
              · exact hin'.out r h1 (by omega)⟩
            case measure => simp [intOf]; omega
          · have hzj : (Z j == next) = false := by assumption
            have hrun : IsRun (L q) Z next i j := run_mk hij hj2 hmono.out hlo'.out hhi'.out hin'.out (fun _ => by simpa using hzj)
            go_ret
            exact ⟨⟨_, _, _, _, _, rfl, rfl, hrun, fun _ => rfl⟩, (Below.refl _ _).alloc (Nat.le_refl _) _⟩
        · clear hr hZ
          obtain rfl : j = L q := by omega
          have hrun : IsRun (L q) Z next i (L q) := run_mk hij hj2 hmono.out hlo'.out hhi'.out hin'.out (fun h => absurd h (by omega))
          rcases Nat.lt_or_ge i (L q) with hil | hil
          · go_wp2
            go_ret
            exact ⟨⟨_, _, _, _, _, rfl, rfl, hrun, fun _ => rfl⟩, (Below.refl _ _).alloc (Nat.le_refl _) _⟩
          · have hil2 : i = L q := by omega
            clear hij hj2 hj hil hl
            subst hil2
            go_wp2
            go_ret
            exact ⟨⟨_, _, _, _, _, rfl, by omega, hrun, fun h => absurd h (by omega)⟩, (Below.refl _ _).alloc (Nat.le_refl _) _⟩
end Go.Proofs.Qxb6620996a
