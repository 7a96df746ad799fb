import Derived.Test.Qxb6617909aSmall
import Derived.Deep.LoopGhost
namespace Go.Proofs.Qxb6617909a
open Go.RowKit Go.Deep
set_option linter.unusedVariables false

def tri (v : Nat) (d o : Bool) : Ending := .returned (.tuple #[.int .i64 v, .bool d, .bool o])

theorem Nx.close {f : Nat → Int} {n p j : Nat} {cl : Int} {e : Ending} (h : Nx f n p cl e) (hs : IsSkip f n p j) (hj : j < n) (e1 : f j = cl) : e = .returned (.tuple #[.int .i64 ((j : Int) + 1), .bool true, .bool true]) := by
  obtain ⟨v, d, o, j', rfl, hs', hc⟩ := h
  obtain rfl := hs.uniq hs'
  rcases hc with ⟨_, _, rfl, rfl, rfl⟩ | ⟨h1, _⟩ | ⟨_, h1, _⟩
  · simp
  · exact absurd e1 (h1 hj).1
  · exact absurd e1 h1

theorem Nx.comma {f : Nat → Int} {n p j : Nat} {cl : Int} {e : Ending} (h : Nx f n p cl e) (hs : IsSkip f n p j) (hj : j < n) (e1 : f j ≠ cl) (e2 : f j = 44) :
    ∃ q : Nat, e = .returned (.tuple #[.int .i64 (q : Int), .bool false, .bool true]) ∧ IsSkip f n (j + 1) q := by
  obtain ⟨v, d, o, j', rfl, hs', hc⟩ := h
  obtain rfl := hs.uniq hs'
  rcases hc with ⟨_, h1, _⟩ | ⟨h1, _⟩ | ⟨_, _, _, rfl, rfl, hq⟩
  · exact absurd h1 e1
  · exact absurd e2 (h1 hj).2
  · exact ⟨v, rfl, hq⟩

theorem Nx.none {f : Nat → Int} {n p j : Nat} {cl : Int} {e : Ending} (h : Nx f n p cl e) (hs : IsSkip f n p j) (e1 : j < n → f j ≠ cl ∧ f j ≠ 44) :
    e = .returned (.tuple #[.int .i64 0, .bool false, .bool false]) := by
  obtain ⟨v, d, o, j', rfl, hs', hc⟩ := h
  obtain rfl := hs.uniq hs'
  rcases hc with ⟨hj, h1, _⟩ | ⟨_, rfl, rfl, rfl⟩ | ⟨hj, _, h1, _⟩
  · exact absurd h1 (e1 hj).1
  · rfl
  · exact absurd h1 (e1 hj).2

set_option maxRecDepth 100000 in
theorem law_nil (op : Int) (w : World) (ho : op = 91 ∨ op = 123) :
    Calls Try.prog 7 #[.slice none 0 0, .int .i64 0, .int .u8 op, .int .i64 0] w fun e w' => e = .returned (.bool true) ∧ Below w.heap.size w w' := by
  have hnil := fun w => run_neq_slice_nil_any (P := Try.prog) w 25 5 none 0 0 0 0 Try.underlying25
  have hsl : ∀ w : World, Sl w none 0 (fun j => .int .u8 ((fun _ => (0 : Int)) j)) := fun w i hi => absurd hi (by omega)
  have hsk : IsSkip (fun _ => 0) 0 0 0 := ⟨Nat.le_refl _, Nat.le_refl _, fun i h1 h2 => absurd h2 (by omega), fun h => absurd h (by omega)⟩
  have hfb : ∀ j : Nat, 0 ≤ (fun _ => (0 : Int)) j ∧ (fun _ => (0 : Int)) j ≤ 255 := fun j => by simp
  go_enter Try.func7, Try.ntmps7
  go_wp2_with fail
  refine (zzBytes_yes _ _ _ _ _ _ _ (by omega)).mono ?_
  rintro e w' ⟨rfl, rfl⟩
  rcases ho with rfl | rfl
  · go_wp2
    go_loop [12] (fun i => i = .int .i64 0) (fun i => 0)
    case atStart => rfl
    case round =>
      subst hrel
      go_wp2_with fail
      refine (zzNext_any none 0 0 0 _ (fun _ => 0) _ (hsl _) hfb (by omega) (by omega) (by omega)).mono ?_
      rintro e w' ⟨he, rfl⟩
      obtain rfl := he.none hsk (fun h => absurd h (by omega))
      go_wp2_with fail
      refine (zzNext_any none 0 0 0 _ (fun _ => 0) _ (hsl _) hfb (by omega) (by omega) (by omega)).mono ?_
      rintro e w' ⟨he, rfl⟩
      obtain rfl := he.none hsk (fun h => absurd h (by omega))
      go_wp2
      go_ret
      exact ⟨rfl, Below.refl _ _⟩
  · go_wp2
    go_loop [12] (fun i => i = .int .i64 0) (fun i => 0)
    case atStart => rfl
    case round =>
      subst hrel
      go_wp2_with fail
      refine (zzNext_any none 0 0 0 _ (fun _ => 0) _ (hsl _) hfb (by omega) (by omega) (by omega)).mono ?_
      rintro e w' ⟨he, rfl⟩
      obtain rfl := he.none hsk (fun h => absurd h (by omega))
      go_wp2_with fail
      refine (zzNext_any none 0 0 0 _ (fun _ => 0) _ (hsl _) hfb (by omega) (by omega) (by omega)).mono ?_
      rintro e w' ⟨he, rfl⟩
      obtain rfl := he.none hsk (fun h => absurd h (by omega))
      go_wp2
      go_ret
      exact ⟨rfl, Below.refl _ _⟩

set_option maxRecDepth 100000 in
set_option maxHeartbeats 4000000 in
theorem law_some_a (x : Addr) (n c p m : Nat) (f : Nat → Int) (w : World) (hx : ∀ j, j < n → w.cell? (x.add j) = some (.int .u8 (f j))) (hf : ∀ j, 0 ≤ f j ∧ f j ≤ 255)
    (hn : n ≤ 1048576) (hpm : p ≤ m) (hmn : m ≤ n) :
    Calls Try.prog 7 #[.slice (some x) n c, .int .i64 p, .int .u8 91, .int .i64 m] w fun e w' => e = .returned (.bool true) ∧ Below w.heap.size w w' := by
  have hnil := fun w => run_neq_slice_nil_any (P := Try.prog) w 25 5 (some x) n c 0 0 Try.underlying25
  have mk0 := run_make_row' (P := Try.prog) 25 5 (.int .u8 0) 1 Try.underlying25 info5 rfl .i64 .i64 n (by omega) (by omega)
  have r0 : Hid ((w.alloc (.cells (madeCells #[.int .u8 0] n) 5)).rowIs w.heap.size 5 n (fun _ => .int .u8 0)) := World.rowIs_made w (.int .u8 0) n 5
  have b0 : Below w.heap.size w (w.alloc (.cells (madeCells #[.int .u8 0] n) 5)) := (Below.refl _ _).alloc (Nat.le_refl _) _
  have hx0 : Hid (∀ j, j < n → (w.alloc (.cells (madeCells #[.int .u8 0] n) 5)).cell? (x.add j) = some (.int .u8 (f j))) := by
    intro j hj
    have h1 := hx j hj
    rw [b0.cell (block_lt_of_cell h1)]; exact h1
  obtain ⟨W2, hcp, r2, b2⟩ := copy_row _ _ n c x f r0.out hx0.out
  have hb : Below w.heap.size w W2 := b0.trans (b2 _ (Nat.le_refl _))
  have hsl : Hid (Sl W2 (some ⟨w.heap.size, 0, none⟩) n (fun j => .int .u8 (f j))) := sl_of_row r2
  have hf' : Hid (∀ j, 0 ≤ f j ∧ f j ≤ 255) := hf
  have hcell : Hid (∀ j, j < n → W2.cell? ⟨w.heap.size, j, none⟩ = some (.int .u8 (f j))) := fun j hj => r2.cell hj
  clear r2 b2 r0 hx0 hx hf b0
  go_enter Try.func7, Try.ntmps7
  go_wp2_with fail
  refine (zzBytes_yes _ _ _ _ _ _ _ (by omega)).mono ?_
  rintro e w' ⟨rfl, rfl⟩
  go_wp2
  generalize decide ((1048576 : Int) < (n : Int)) = d1
  generalize decide ((p : Int) < 0) = d2
  generalize decide (m < p) = d3
  generalize decide (n < m) = d4
  go_loop [12] (fun i => ∃ j : Nat, p ≤ j ∧ j ≤ n ∧ i = .int .i64 j ∧ ∀ k, p ≤ k → k < j → ws (f k) = true) (fun i => n - (intOf i).toNat)
  case atStart => exact ⟨p, Nat.le_refl _, by omega, rfl, fun k h1 h2 => absurd h2 (by omega)⟩
  case round =>
    obtain ⟨j, hpj, hj, rfl, hall⟩ := hrel
    have hall' : Hid (∀ k, p ≤ k → k < j → ws (f k) = true) := hall
    clear hall hnil mk0 hcp
    by_cases hlt : j < n
    · have hc := hcell.out j hlt
      have hb1 := hf'.out j
      go_wp2_with fail
      refine (isWS_any _ _ hb1.1 hb1.2).mono ?_
      rintro e w1 ⟨rfl, rfl⟩
      by_cases hw : ws (f j) = true
      · rw [hw]
        go_wp2
        go_round
        case rel => exact ⟨j + 1, by omega, by omega, by go_num, fun k h1 h2 => by
          by_cases e : k = j
          · subst e; exact hw
          · exact hall'.out k h1 (by omega)⟩
        case measure => simp [intOf]; omega
      · have hw' : ws (f j) = false := by simpa using hw
        rw [hw']
        have hsk : Hid (IsSkip f n p j) := ⟨hpj, hj, hall'.out, fun _ => hw'⟩
        clear hw hw'
        by_cases e1 : f j = 93
        · have t1 : (f j == 93) = true := ieqT e1
          have t2 : (f j == 44) = false := ieqF (by omega)
          go_wp2_with fail
          refine (zzNext_any _ n _ p _ f _ hsl.out hf'.out (by omega) hn (by omega)).mono ?_
          rintro e w2 ⟨he, rfl⟩
          obtain rfl := he.close hsk.out hlt e1
          clear he
          by_cases hmj : m ≤ j
          · go_wp2_with fail
            refine (zzNext_any _ m _ p _ f _ (fun i hi => hsl.out i (by omega)) hf'.out hpm (by omega) (by omega)).mono ?_
            rintro e w2 ⟨he, rfl⟩
            obtain rfl := he.none (hsk.out.cut hmn hpm) (fun h => absurd h (by omega))
            go_wp2
            go_ret
            exact ⟨rfl, hb⟩
          · go_wp2_with fail
            refine (zzNext_any _ m _ p _ f _ (fun i hi => hsl.out i (by omega)) hf'.out hpm (by omega) (by omega)).mono ?_
            rintro e w2 ⟨he, rfl⟩
            have hsk2 : IsSkip f m p j := by
              have := hsk.out.cut hmn hpm
              rwa [show min j m = j by omega] at this
            obtain rfl := he.close hsk2 (by omega) e1
            clear he hsk2
            go_wp2
            go_ret
            exact ⟨by simp, hb⟩
        · have t1 : (f j == 93) = false := ieqF e1
          by_cases e2 : f j = 44
          · have t2 : (f j == 44) = true := ieqT e2
            go_wp2_with fail
            refine (zzNext_any _ n _ p _ f _ hsl.out hf'.out (by omega) hn (by omega)).mono ?_
            rintro e w2 ⟨he, rfl⟩
            obtain ⟨q, rfl, hq⟩ := he.comma hsk.out hlt e1 e2
            have hq' : Hid (IsSkip f n (j + 1) q) := hq
            clear he hq
            by_cases hmj : m ≤ j
            · go_wp2_with fail
              refine (zzNext_any _ m _ p _ f _ (fun i hi => hsl.out i (by omega)) hf'.out hpm (by omega) (by omega)).mono ?_
              rintro e w2 ⟨he, rfl⟩
              obtain rfl := he.none (hsk.out.cut hmn hpm) (fun h => absurd h (by omega))
              go_wp2
              go_ret
              exact ⟨rfl, hb⟩
            · go_wp2_with fail
              refine (zzNext_any _ m _ p _ f _ (fun i hi => hsl.out i (by omega)) hf'.out hpm (by omega) (by omega)).mono ?_
              rintro e w2 ⟨he, rfl⟩
              have hsk2 : IsSkip f m p j := by
                have := hsk.out.cut hmn hpm
                rwa [show min j m = j by omega] at this
              obtain ⟨q2, rfl, hq2⟩ := he.comma hsk2 (by omega) e1 e2
              obtain rfl := hq2.uniq (hq'.out.cut hmn (by omega))
              clear he hsk2 hq2
              by_cases hmq : m < q
              · rw [show min q m = m by omega]
                go_wp2
                go_ret
                exact ⟨by simp, hb⟩
              · rw [show min q m = q by omega]
                go_wp2
                go_ret
                exact ⟨by simp, hb⟩
          · have t2 : (f j == 44) = false := ieqF e2
            go_wp2_with fail
            refine (zzNext_any _ n _ p _ f _ hsl.out hf'.out (by omega) hn (by omega)).mono ?_
            rintro e w2 ⟨he, rfl⟩
            obtain rfl := he.none hsk.out (fun _ => ⟨e1, e2⟩)
            clear he
            by_cases hmj : m ≤ j
            · go_wp2_with fail
              refine (zzNext_any _ m _ p _ f _ (fun i hi => hsl.out i (by omega)) hf'.out hpm (by omega) (by omega)).mono ?_
              rintro e w2 ⟨he, rfl⟩
              obtain rfl := he.none (hsk.out.cut hmn hpm) (fun h => absurd h (by omega))
              go_wp2
              go_ret
              exact ⟨rfl, hb⟩
            · go_wp2_with fail
              refine (zzNext_any _ m _ p _ f _ (fun i hi => hsl.out i (by omega)) hf'.out hpm (by omega) (by omega)).mono ?_
              rintro e w2 ⟨he, rfl⟩
              have hsk2 : IsSkip f m p j := by
                have := hsk.out.cut hmn hpm
                rwa [show min j m = j by omega] at this
              obtain rfl := he.none hsk2 (fun _ => ⟨e1, e2⟩)
              clear he hsk2
              go_wp2
              go_ret
              exact ⟨rfl, hb⟩
    · obtain rfl : j = n := by omega
      have hsk : Hid (IsSkip f j p j) := ⟨hpj, hj, hall'.out, fun h => absurd h (by omega)⟩
      go_wp2_with fail
      refine (zzNext_any _ j _ p _ f _ hsl.out hf'.out (by omega) hn (by omega)).mono ?_
      rintro e w2 ⟨he, rfl⟩
      obtain rfl := he.none hsk.out (fun h => absurd h (by omega))
      clear he
      go_wp2_with fail
      refine (zzNext_any _ m _ p _ f _ (fun i hi => hsl.out i (by omega)) hf'.out hpm (by omega) (by omega)).mono ?_
      rintro e w2 ⟨he, rfl⟩
      obtain rfl := he.none (hsk.out.cut hmn hpm) (fun h => absurd h (by omega))
      go_wp2
      go_ret
      exact ⟨rfl, hb⟩

set_option maxRecDepth 100000 in
set_option maxHeartbeats 4000000 in
theorem law_some_b (x : Addr) (n c p m : Nat) (f : Nat → Int) (w : World) (hx : ∀ j, j < n → w.cell? (x.add j) = some (.int .u8 (f j))) (hf : ∀ j, 0 ≤ f j ∧ f j ≤ 255)
    (hn : n ≤ 1048576) (hpm : p ≤ m) (hmn : m ≤ n) :
    Calls Try.prog 7 #[.slice (some x) n c, .int .i64 p, .int .u8 123, .int .i64 m] w fun e w' => e = .returned (.bool true) ∧ Below w.heap.size w w' := by
  have hnil := fun w => run_neq_slice_nil_any (P := Try.prog) w 25 5 (some x) n c 0 0 Try.underlying25
  have mk0 := run_make_row' (P := Try.prog) 25 5 (.int .u8 0) 1 Try.underlying25 info5 rfl .i64 .i64 n (by omega) (by omega)
  have r0 : Hid ((w.alloc (.cells (madeCells #[.int .u8 0] n) 5)).rowIs w.heap.size 5 n (fun _ => .int .u8 0)) := World.rowIs_made w (.int .u8 0) n 5
  have b0 : Below w.heap.size w (w.alloc (.cells (madeCells #[.int .u8 0] n) 5)) := (Below.refl _ _).alloc (Nat.le_refl _) _
  have hx0 : Hid (∀ j, j < n → (w.alloc (.cells (madeCells #[.int .u8 0] n) 5)).cell? (x.add j) = some (.int .u8 (f j))) := by
    intro j hj
    have h1 := hx j hj
    rw [b0.cell (block_lt_of_cell h1)]; exact h1
  obtain ⟨W2, hcp, r2, b2⟩ := copy_row _ _ n c x f r0.out hx0.out
  have hb : Below w.heap.size w W2 := b0.trans (b2 _ (Nat.le_refl _))
  have hsl : Hid (Sl W2 (some ⟨w.heap.size, 0, none⟩) n (fun j => .int .u8 (f j))) := sl_of_row r2
  have hf' : Hid (∀ j, 0 ≤ f j ∧ f j ≤ 255) := hf
  have hcell : Hid (∀ j, j < n → W2.cell? ⟨w.heap.size, j, none⟩ = some (.int .u8 (f j))) := fun j hj => r2.cell hj
  clear r2 b2 r0 hx0 hx hf b0
  go_enter Try.func7, Try.ntmps7
  go_wp2_with fail
  refine (zzBytes_yes _ _ _ _ _ _ _ (by omega)).mono ?_
  rintro e w' ⟨rfl, rfl⟩
  go_wp2
  generalize decide ((1048576 : Int) < (n : Int)) = d1
  generalize decide ((p : Int) < 0) = d2
  generalize decide (m < p) = d3
  generalize decide (n < m) = d4
  go_loop [12] (fun i => ∃ j : Nat, p ≤ j ∧ j ≤ n ∧ i = .int .i64 j ∧ ∀ k, p ≤ k → k < j → ws (f k) = true) (fun i => n - (intOf i).toNat)
  case atStart => exact ⟨p, Nat.le_refl _, by omega, rfl, fun k h1 h2 => absurd h2 (by omega)⟩
  case round =>
    obtain ⟨j, hpj, hj, rfl, hall⟩ := hrel
    have hall' : Hid (∀ k, p ≤ k → k < j → ws (f k) = true) := hall
    clear hall hnil mk0 hcp
    by_cases hlt : j < n
    · have hc := hcell.out j hlt
      have hb1 := hf'.out j
      go_wp2_with fail
      refine (isWS_any _ _ hb1.1 hb1.2).mono ?_
      rintro e w1 ⟨rfl, rfl⟩
      by_cases hw : ws (f j) = true
      · rw [hw]
        go_wp2
        go_round
        case rel => exact ⟨j + 1, by omega, by omega, by go_num, fun k h1 h2 => by
          by_cases e : k = j
          · subst e; exact hw
          · exact hall'.out k h1 (by omega)⟩
        case measure => simp [intOf]; omega
      · have hw' : ws (f j) = false := by simpa using hw
        rw [hw']
        have hsk : Hid (IsSkip f n p j) := ⟨hpj, hj, hall'.out, fun _ => hw'⟩
        clear hw hw'
        by_cases e1 : f j = 125
        · have t1 : (f j == 125) = true := ieqT e1
          have t2 : (f j == 44) = false := ieqF (by omega)
          go_wp2_with fail
          refine (zzNext_any _ n _ p _ f _ hsl.out hf'.out (by omega) hn (by omega)).mono ?_
          rintro e w2 ⟨he, rfl⟩
          obtain rfl := he.close hsk.out hlt e1
          clear he
          by_cases hmj : m ≤ j
          · go_wp2_with fail
            refine (zzNext_any _ m _ p _ f _ (fun i hi => hsl.out i (by omega)) hf'.out hpm (by omega) (by omega)).mono ?_
            rintro e w2 ⟨he, rfl⟩
            obtain rfl := he.none (hsk.out.cut hmn hpm) (fun h => absurd h (by omega))
            go_wp2
            go_ret
            exact ⟨rfl, hb⟩
          · go_wp2_with fail
            refine (zzNext_any _ m _ p _ f _ (fun i hi => hsl.out i (by omega)) hf'.out hpm (by omega) (by omega)).mono ?_
            rintro e w2 ⟨he, rfl⟩
            have hsk2 : IsSkip f m p j := by
              have := hsk.out.cut hmn hpm
              rwa [show min j m = j by omega] at this
            obtain rfl := he.close hsk2 (by omega) e1
            clear he hsk2
            go_wp2
            go_ret
            exact ⟨by simp, hb⟩
        · have t1 : (f j == 125) = false := ieqF e1
          by_cases e2 : f j = 44
          · have t2 : (f j == 44) = true := ieqT e2
            go_wp2_with fail
            refine (zzNext_any _ n _ p _ f _ hsl.out hf'.out (by omega) hn (by omega)).mono ?_
            rintro e w2 ⟨he, rfl⟩
            obtain ⟨q, rfl, hq⟩ := he.comma hsk.out hlt e1 e2
            have hq' : Hid (IsSkip f n (j + 1) q) := hq
            clear he hq
            by_cases hmj : m ≤ j
            · go_wp2_with fail
              refine (zzNext_any _ m _ p _ f _ (fun i hi => hsl.out i (by omega)) hf'.out hpm (by omega) (by omega)).mono ?_
              rintro e w2 ⟨he, rfl⟩
              obtain rfl := he.none (hsk.out.cut hmn hpm) (fun h => absurd h (by omega))
              go_wp2
              go_ret
              exact ⟨rfl, hb⟩
            · go_wp2_with fail
              refine (zzNext_any _ m _ p _ f _ (fun i hi => hsl.out i (by omega)) hf'.out hpm (by omega) (by omega)).mono ?_
              rintro e w2 ⟨he, rfl⟩
              have hsk2 : IsSkip f m p j := by
                have := hsk.out.cut hmn hpm
                rwa [show min j m = j by omega] at this
              obtain ⟨q2, rfl, hq2⟩ := he.comma hsk2 (by omega) e1 e2
              obtain rfl := hq2.uniq (hq'.out.cut hmn (by omega))
              clear he hsk2 hq2
              by_cases hmq : m < q
              · rw [show min q m = m by omega]
                go_wp2
                go_ret
                exact ⟨by simp, hb⟩
              · rw [show min q m = q by omega]
                go_wp2
                go_ret
                exact ⟨by simp, hb⟩
          · have t2 : (f j == 44) = false := ieqF e2
            go_wp2_with fail
            refine (zzNext_any _ n _ p _ f _ hsl.out hf'.out (by omega) hn (by omega)).mono ?_
            rintro e w2 ⟨he, rfl⟩
            obtain rfl := he.none hsk.out (fun _ => ⟨e1, e2⟩)
            clear he
            by_cases hmj : m ≤ j
            · go_wp2_with fail
              refine (zzNext_any _ m _ p _ f _ (fun i hi => hsl.out i (by omega)) hf'.out hpm (by omega) (by omega)).mono ?_
              rintro e w2 ⟨he, rfl⟩
              obtain rfl := he.none (hsk.out.cut hmn hpm) (fun h => absurd h (by omega))
              go_wp2
              go_ret
              exact ⟨rfl, hb⟩
            · go_wp2_with fail
              refine (zzNext_any _ m _ p _ f _ (fun i hi => hsl.out i (by omega)) hf'.out hpm (by omega) (by omega)).mono ?_
              rintro e w2 ⟨he, rfl⟩
              have hsk2 : IsSkip f m p j := by
                have := hsk.out.cut hmn hpm
                rwa [show min j m = j by omega] at this
              obtain rfl := he.none hsk2 (fun _ => ⟨e1, e2⟩)
              clear he hsk2
              go_wp2
              go_ret
              exact ⟨rfl, hb⟩
    · obtain rfl : j = n := by omega
      have hsk : Hid (IsSkip f j p j) := ⟨hpj, hj, hall'.out, fun h => absurd h (by omega)⟩
      go_wp2_with fail
      refine (zzNext_any _ j _ p _ f _ hsl.out hf'.out (by omega) hn (by omega)).mono ?_
      rintro e w2 ⟨he, rfl⟩
      obtain rfl := he.none hsk.out (fun h => absurd h (by omega))
      clear he
      go_wp2_with fail
      refine (zzNext_any _ m _ p _ f _ (fun i hi => hsl.out i (by omega)) hf'.out hpm (by omega) (by omega)).mono ?_
      rintro e w2 ⟨he, rfl⟩
      obtain rfl := he.none (hsk.out.cut hmn hpm) (fun h => absurd h (by omega))
      go_wp2
      go_ret
      exact ⟨rfl, hb⟩

set_option maxRecDepth 100000 in
theorem law_far (a : Option Addr) (n c : Nat) (p op m : Int) (w : World) (hn : ¬ n ≤ 1048576) :
    Calls Try.prog 7 #[.slice a n c, .int .i64 p, .int .u8 op, .int .i64 m] w fun e w' => e = .returned (.bool true) ∧ Below w.heap.size w w' := by
  go_enter Try.func7, Try.ntmps7
  go_wp2_with fail
  refine (zzBytes_no _ _ _ _ _ _ _ hn).mono ?_
  rintro e w' ⟨rfl, rfl⟩
  go_wp2
  go_ret
  exact ⟨rfl, Below.refl _ _⟩

set_option maxRecDepth 100000 in
theorem law_bad_nil (p op m : Int) (w : World) (hbad : ¬ (0 ≤ p ∧ p ≤ m ∧ m ≤ 0 ∧ (op = 91 ∨ op = 123))) :
    Calls Try.prog 7 #[.slice none 0 0, .int .i64 p, .int .u8 op, .int .i64 m] w fun e w' => e = .returned (.bool true) ∧ Below w.heap.size w w' := by
  have hnil := fun w => run_neq_slice_nil_any (P := Try.prog) w 25 5 none 0 0 0 0 Try.underlying25
  have hb' : Hid (¬ (0 ≤ p ∧ p ≤ m ∧ m ≤ 0 ∧ (op = 91 ∨ op = 123))) := hbad
  clear hbad
  go_enter Try.func7, Try.ntmps7
  go_wp2_with fail
  refine (zzBytes_yes _ _ _ _ _ _ _ (by omega)).mono ?_
  rintro e w' ⟨rfl, rfl⟩
  go_wp2
  all_goals first
    | (go_ret; exact ⟨rfl, Below.refl _ _⟩)
    | skip
  all_goals
    have ho : op = 91 ∨ op = 123 := by
      clear hb'
      first
        | omega
        | (left; assumption)
        | (right; assumption)
        | simp_all
    exact absurd ⟨by omega, by omega, by omega, ho⟩ hb'.out

set_option maxRecDepth 100000 in
theorem law_bad_some (x : Addr) (n c : Nat) (p op m : Int) (f : Nat → Int) (w : World) (hx : ∀ j, j < n → w.cell? (x.add j) = some (.int .u8 (f j))) (hn : n ≤ 1048576) (hbad : ¬ (0 ≤ p ∧ p ≤ m ∧ m ≤ n ∧ (op = 91 ∨ op = 123))) :
    Calls Try.prog 7 #[.slice (some x) n c, .int .i64 p, .int .u8 op, .int .i64 m] w fun e w' => e = .returned (.bool true) ∧ Below w.heap.size w w' := by
  have hnil := fun w => run_neq_slice_nil_any (P := Try.prog) w 25 5 (some x) n c 0 0 Try.underlying25
  have mk0 := run_make_row' (P := Try.prog) 25 5 (.int .u8 0) 1 Try.underlying25 info5 rfl .i64 .i64 n (by omega) (by omega)
  have r0 : Hid ((w.alloc (.cells (madeCells #[.int .u8 0] n) 5)).rowIs w.heap.size 5 n (fun _ => .int .u8 0)) := World.rowIs_made w (.int .u8 0) n 5
  have b0 : Below w.heap.size w (w.alloc (.cells (madeCells #[.int .u8 0] n) 5)) := (Below.refl _ _).alloc (Nat.le_refl _) _
  have hx0 : Hid (∀ j, j < n → (w.alloc (.cells (madeCells #[.int .u8 0] n) 5)).cell? (x.add j) = some (.int .u8 (f j))) := by
    intro j hj
    have h1 := hx j hj
    rw [b0.cell (block_lt_of_cell h1)]; exact h1
  obtain ⟨W2, hcp, r2, b2⟩ := copy_row _ _ n c x f r0.out hx0.out
  have hb : Below w.heap.size w W2 := b0.trans (b2 _ (Nat.le_refl _))
  have hb' : Hid (¬ (0 ≤ p ∧ p ≤ m ∧ m ≤ n ∧ (op = 91 ∨ op = 123))) := hbad
  clear r2 b2 r0 hx0 hx b0 hbad
  go_enter Try.func7, Try.ntmps7
  go_wp2_with fail
  refine (zzBytes_yes _ _ _ _ _ _ _ (by omega)).mono ?_
  rintro e w' ⟨rfl, rfl⟩
  go_wp2
  all_goals first
    | (go_ret; exact ⟨rfl, hb⟩)
    | skip
  all_goals
    have ho : op = 91 ∨ op = 123 := by
      clear hb'
      first
        | omega
        | (left; assumption)
        | (right; assumption)
        | simp_all
    exact absurd ⟨by omega, by omega, by omega, ho⟩ hb'.out
end Go.Proofs.Qxb6617909a
