import Derived.Test.Qxb6617909aKit
import Derived.Laws.CopyOwn
import Derived.Lib.SliceRun
namespace Go.Proofs.Qxb6617909a
open Go.RowKit Go.Deep
set_option linter.unusedVariables false

theorem info5 : (Try.prog.info? 5).map (fun i => (i.zero, i.size, i.bytes)) = some (some (.int .u8 0), 1, 1) := by kernel_rfl

/-- white space -/
def ws (c : Int) : Bool := c == 32 || c == 9 || c == 10 || c == 13

theorem isWS_any (c : Int) (w : World) (h0 : 0 ≤ c) (h1 : c ≤ 255) :
    Calls Try.prog 13 #[.int .u8 c] w fun e w' => e = .returned (.bool (ws c)) ∧ w' = w := by
  go_enter Try.func13, Try.ntmps13
  go_wp2
  all_goals (go_ret; exact ⟨by simp_all [ws], rfl⟩)

theorem isSpace_any (c : Int) (w : World) (h0 : 0 ≤ c) (h1 : c ≤ 255) :
    Calls Try.prog 25 #[.int .u8 c] w fun e w' => e = .returned (.bool (ws c)) ∧ w' = w := by
  have hws : ws c = (c == 32 || c == 9 || c == 13 || c == 10) := by
    unfold ws
    cases (c == 32) <;> cases (c == 9) <;> cases (c == 13) <;> cases (c == 10) <;> rfl
  by_cases hc : c ≤ 32
  · go_enter Try.func25, Try.ntmps25
    go_wp2
    all_goals (go_ret; exact ⟨by simp_all, rfl⟩)
  · go_enter Try.func25, Try.ntmps25
    go_wp2
    all_goals (go_ret; exact ⟨by have h9 : ws c = false := by simp [ws]; omega
                                 simp_all, rfl⟩)

/-- j is the first place from p on that is no white space, or the end -/
def IsSkip (f : Nat → Int) (n p j : Nat) : Prop := p ≤ j ∧ j ≤ n ∧ (∀ i, p ≤ i → i < j → ws (f i) = true) ∧ (j < n → ws (f j) = false)

theorem IsSkip.uniq {f : Nat → Int} {n p j j' : Nat} (h : IsSkip f n p j) (h' : IsSkip f n p j') : j = j' := by
  obtain ⟨a1, a2, a3, a4⟩ := h
  obtain ⟨b1, b2, b3, b4⟩ := h'
  rcases Nat.lt_trichotomy j j' with hl | hl | hl
  · have h1 := b3 j a1 hl
    have h2 := a4 (by omega)
    rw [h1] at h2; cases h2
  · exact hl
  · have h1 := a3 j' b1 hl
    have h2 := b4 (by omega)
    rw [h1] at h2; cases h2

theorem IsSkip.cut {f : Nat → Int} {n p j m : Nat} (h : IsSkip f n p j) (hm : m ≤ n) (hp : p ≤ m) : IsSkip f m p (min j m) := by
  obtain ⟨a1, a2, a3, a4⟩ := h
  refine ⟨by omega, by omega, fun i h1 h2 => a3 i h1 (by omega), fun h2 => ?_⟩
  have e : min j m = j := by omega
  rw [e] at h2 ⊢
  exact a4 (by omega)

theorem skip_any (a : Option Addr) (n c p : Nat) (f : Nat → Int) (w : World) (h : Sl w a n (fun j => .int .u8 (f j))) (hf : ∀ j, 0 ≤ f j ∧ f j ≤ 255) (hp : p ≤ n) (hn : n ≤ 1048576) :
    Calls Try.prog 24 #[.slice a n c, .int .i64 p] w fun e w' => (∃ j : Nat, e = .returned (.int .i64 j) ∧ IsSkip f n p j) ∧ w' = w := by
  go_enter Try.func24, Try.ntmps24
  go_wp2
  go_loop [1] (fun i => ∃ j : Nat, p ≤ j ∧ j ≤ n ∧ i = .int .i64 j ∧ ∀ k, p ≤ k → k < j → ws (f k) = true) (fun i => n - (intOf i).toNat)
  case atStart => exact ⟨p, Nat.le_refl _, hp, rfl, fun k h1 h2 => absurd h2 (by omega)⟩
  case round =>
    obtain ⟨j, hpj, hj, rfl, hall⟩ := hrel
    have hall' : Hid (∀ k, p ≤ k → k < j → ws (f k) = true) := hall
    clear hall
    by_cases hlt : j < n
    · obtain ⟨b, off, rfl, hc⟩ := h j hlt
      have hb := hf j
      clear h hf
      go_wp2_with fail
      refine (isSpace_any _ _ hb.1 hb.2).mono ?_
      rintro e w' ⟨rfl, rfl⟩
      cases hw : ws (f j)
      · go_wp2
        go_ret
        exact ⟨⟨j, rfl, hpj, hj, hall'.out, fun _ => hw⟩, rfl⟩
      · go_wp2
        go_round
        case rel => exact ⟨j + 1, by omega, by omega, by go_num, fun k h1 h2 => by
          by_cases e : k = j
          · subst e; exact hw
          · exact hall'.out k h1 (by omega)⟩
        case measure => simp [intOf]; omega
    · obtain rfl : j = n := by omega
      clear h hf
      go_wp2
      go_ret
      exact ⟨⟨j, rfl, hpj, hj, hall'.out, fun h => absurd h (by omega)⟩, rfl⟩

/-- what nextItem hands back -/
def Nx (f : Nat → Int) (n p : Nat) (cl : Int) (e : Ending) : Prop :=
  ∃ (v : Nat) (d o : Bool) (j : Nat), e = .returned (.tuple #[.int .i64 v, .bool d, .bool o]) ∧ IsSkip f n p j ∧
    ((j < n ∧ f j = cl ∧ v = j + 1 ∧ d = true ∧ o = true) ∨
     ((j < n → f j ≠ cl ∧ f j ≠ 44) ∧ v = 0 ∧ d = false ∧ o = false) ∨
     (j < n ∧ f j ≠ cl ∧ f j = 44 ∧ d = false ∧ o = true ∧ IsSkip f n (j + 1) v))

theorem nextItem_any (a : Option Addr) (n c p : Nat) (op : Int) (f : Nat → Int) (w : World) (h : Sl w a n (fun j => .int .u8 (f j))) (hf : ∀ j, 0 ≤ f j ∧ f j ≤ 255) (hp : p ≤ n) (hn : n ≤ 1048576)
    (ho : op = 91 ∨ op = 123) :
    Calls Try.prog 22 #[.slice a n c, .int .i64 p, .int .u8 op] w fun e w' => Nx f n p (op + 2) e ∧ w' = w := by
  go_enter Try.func22, Try.ntmps22
  go_wp2_with fail
  refine (skip_any _ _ _ _ _ _ h hf hp hn).mono ?_
  rintro e w' ⟨⟨j, rfl, hs⟩, rfl⟩
  have hj := hs.2.1
  have hs' : Hid (IsSkip f n p j) := hs
  clear hs
  by_cases hlt : j < n
  · obtain ⟨b, off, rfl, hc⟩ := h j hlt
    have h' : Hid (Sl w' (some ⟨b, off, none⟩) n (fun j => .int .u8 (f j))) := h
    have hb := hf j
    have hf' : Hid (∀ j, 0 ≤ f j ∧ f j ≤ 255) := hf
    clear h hf
    by_cases e1 : f j = op + 2
    · have e1' : (f j == op + 2) = true := ieqT e1
      have hop : 0 ≤ op ∧ op ≤ 200 := by omega
      go_wp2
      go_ret3
      exact ⟨⟨j + 1, true, true, j, by simp, hs'.out, .inl ⟨hlt, e1, rfl, rfl, rfl⟩⟩, rfl⟩
    · have e1' : (f j == op + 2) = false := ieqF e1
      have hop : 0 ≤ op ∧ op ≤ 200 := by omega
      have hne : ((j : Int) == (n : Int)) = false := ieqF (by omega)
      by_cases e2 : f j = 44
      · have e2' : (f j != 44) = false := ineF e2
        go_wp2_with fail
        refine (skip_any _ _ _ (j + 1) _ _ h'.out hf'.out (by omega) hn).mono ?_
        rintro e w1 ⟨⟨q, rfl, hq⟩, rfl⟩
        have hq' : Hid (IsSkip f n (j + 1) q) := hq
        clear hq
        go_wp2
        go_ret3
        exact ⟨⟨q, false, true, j, rfl, hs'.out, .inr (.inr ⟨hlt, e1, e2, rfl, rfl, hq'.out⟩)⟩, rfl⟩
      · have e2' : (f j != 44) = true := ineT e2
        go_wp2
        go_ret3
        exact ⟨⟨0, false, false, j, by simp, hs'.out, .inr (.inl ⟨fun _ => ⟨e1, e2⟩, rfl, rfl, rfl⟩)⟩, rfl⟩
  · obtain rfl : j = n := by omega
    clear h hf
    go_wp2
    go_ret3
    exact ⟨⟨0, false, false, j, by simp, hs'.out, .inr (.inl ⟨fun h => absurd h (by omega), rfl, rfl, rfl⟩)⟩, rfl⟩

theorem zzNext_any (a : Option Addr) (n c p : Nat) (op : Int) (f : Nat → Int) (w : World) (h : Sl w a n (fun j => .int .u8 (f j))) (hf : ∀ j, 0 ≤ f j ∧ f j ≤ 255) (hp : p ≤ n) (hn : n ≤ 1048576)
    (ho : op = 91 ∨ op = 123) :
    Calls Try.prog 15 #[.slice a n c, .int .i64 p, .int .u8 op] w fun e w' => Nx f n p (op + 2) e ∧ w' = w := by
  go_enter Try.func15, Try.ntmps15
  go_wp2_with fail
  refine (nextItem_any _ _ _ _ _ _ _ h hf hp hn ho).mono ?_
  rintro e w' ⟨⟨v, d, o, j, rfl, hj, hc⟩, rfl⟩
  have hc' : Hid ((j < n ∧ f j = op + 2 ∧ v = j + 1 ∧ d = true ∧ o = true) ∨
     ((j < n → f j ≠ op + 2 ∧ f j ≠ 44) ∧ v = 0 ∧ d = false ∧ o = false) ∨
     (j < n ∧ f j ≠ op + 2 ∧ f j = 44 ∧ d = false ∧ o = true ∧ IsSkip f n (j + 1) v)) := hc
  have hj' : Hid (IsSkip f n p j) := hj
  clear hc hj h hf
  go_wp2
  go_ret3
  exact ⟨⟨v, d, o, j, rfl, hj'.out, hc'.out⟩, rfl⟩

theorem zzBytes_yes (a : Option Addr) (n c : Nat) (p op m : Int) (w : World) (hn : n ≤ 1048576) :
    Calls Try.prog 18 #[.slice a n c, .int .i64 p, .int .u8 op, .int .i64 m] w fun e w' => e = .returned (.bool true) ∧ w' = w := by
  go_enter Try.func18, Try.ntmps18
  go_wp2
  go_ret
  exact ⟨rfl, rfl⟩

theorem zzBytes_no (a : Option Addr) (n c : Nat) (p op m : Int) (w : World) (hn : ¬ n ≤ 1048576) :
    Calls Try.prog 18 #[.slice a n c, .int .i64 p, .int .u8 op, .int .i64 m] w fun e w' => e = .returned (.bool false) ∧ w' = w := by
  go_enter Try.func18, Try.ntmps18
  go_wp2
  go_ret
  exact ⟨rfl, rfl⟩

theorem copy_row (w0 : World) (g n c : Nat) (x : Addr) (f : Nat → Int) (h0 : w0.rowIs g 5 n (fun _ => .int .u8 0)) (hx : ∀ j, j < n → w0.cell? (x.add j) = some (.int .u8 (f j))) :
    ∃ W2, (∀ ty, (Builtin.copy_ #[25, 25] ty #[.slice (some ⟨g, 0, none⟩) n n, .slice (some x) n c]).run Try.prog w0 = .ok (goInt n) W2) ∧ W2.rowIs g 5 n (fun j => .int .u8 (f j)) ∧ (∀ B, B ≤ g → Below B w0 W2) := by
  obtain ⟨cur, hg, hsz, hcur⟩ := h0
  obtain ⟨cs, hcs⟩ : ∃ cs : List Value, cs = (List.range n).map (fun i => Value.int .u8 (f i)) := ⟨_, rfl⟩
  have hlen : cs.length = n := by simp [hcs]
  have hget : ∀ j, j < n → cs[j]? = some (.int .u8 (f j)) := by
    intro j hj
    simp [hcs, hj]
  have hr := fun ty => run_copy_row (P := Try.prog) w0 25 25 ty 5 g 0 n n x n c cur 5 cs Try.underlying25 (by kernel_rfl) hg (by rw [hlen]; exact (Nat.min_self n).symm)
    (fun j v hj => by
      have hjn : j < n := by
        rcases Nat.lt_or_ge j n with h' | h'
        · exact h'
        · rw [List.getElem?_eq_none (by omega)] at hj; cases hj
      rw [hget j hjn] at hj
      cases hj
      exact hx j hjn) (by omega) (fun v hv => by
      simp only [hcs, List.mem_map] at hv
      obtain ⟨i, _, rfl⟩ := hv
      rfl)
  refine ⟨_, fun ty => by rw [hr ty, hlen], ⟨_, setRow_heap w0 g cur _ 5 (0, 0) hg, ?_, ?_⟩, fun B hB => below_setRow (Below.refl _ _) hB _⟩
  · simp [hlen, hsz]
  · intro i hi
    have := hget i hi
    have hd : cur.toList.drop n = [] := List.drop_eq_nil_of_le (by simp [hsz])
    simp only [List.take_zero, List.nil_append, Nat.zero_add, hd, List.append_nil, List.getElem?_toArray]
    exact this
end Go.Proofs.Qxb6617909a
