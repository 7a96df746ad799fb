import Derived.Test.Qxb6619684aMem
import Derived.Lib.Builder
namespace Go.Proofs.Qxb6619684a
open Go.RowKit Go.Deep Go.Maps
set_option linter.unusedVariables false

theorem below_drewN {B : Nat} {w w' : World} {m : Nat} (h : Below B w w') : Below B w (w'.drewN m) := ⟨h.os, h.tape, h.output, h.size, h.block⟩
theorem ptrNeq (a : Addr) (w : World) : (binOp .neq 36 (.pointer (some a)) (.pointer (some a))).run Try.prog w = .ok (.bool false) w := by
  obtain ⟨j, hj⟩ := Option.isSome_iff_exists.1 (show (Try.prog.info? 64).isSome = true by kernel_rfl)
  exact Lib.run_neq_ptr_same w a Try.underlying36 hj
theorem mapNeqNil (w : World) : (binOp .neq 39 (.map none) (.map none)).run Try.prog w = .ok (.bool false) w := by kernel_rfl
theorem mapEqlSome (b : Nat) (w : World) : (binOp .eql 39 (.map (some b)) (.map none)).run Try.prog w = .ok (.bool false) w := by kernel_rfl

theorem law_far (n : Int) (a : Option Addr) (l c : Nat) (w : World) (hl : ¬ l ≤ 1048576) :
    Calls Try.prog 6 #[.int .u32 n, .slice a l c] w fun e w' => e = .returned (.bool true) ∧ Below w.heap.size w w' := by
  go_enter Try.func6, Try.ntmps6
  go_wp2_with fail
  refine (zzBytes_no _ _ _ _ _ hl).mono ?_
  rintro e w' ⟨rfl, rfl⟩
  go_wp2
  go_ret
  exact ⟨rfl, Below.refl _ _⟩

theorem law_bad (n : Int) (a : Option Addr) (l c : Nat) (w : World) (hl : l ≤ 1048576) (h : 65536 < n ∨ 65536 < l) :
    Calls Try.prog 6 #[.int .u32 n, .slice a l c] w fun e w' => e = .returned (.bool true) ∧ Below w.heap.size w w' := by
  by_cases hn : 65536 < n
  · go_enter Try.func6, Try.ntmps6
    go_wp2_with fail
    refine (zzBytes_yes _ _ _ _ _ hl).mono ?_
    rintro e w' ⟨rfl, rfl⟩
    go_wp2
    go_ret
    exact ⟨rfl, Below.refl _ _⟩
  · have hl2 : 65536 < l := by omega
    clear h
    go_enter Try.func6, Try.ntmps6
    go_wp2_with fail
    refine (zzBytes_yes _ _ _ _ _ hl).mono ?_
    rintro e w' ⟨rfl, rfl⟩
    go_wp2
    go_ret
    exact ⟨rfl, Below.refl _ _⟩

set_option maxRecDepth 100000 in
set_option maxHeartbeats 4000000 in
theorem law_good (n l c : Nat) (a : Option Addr) (P : Nat → Nat) (w : World) (h : Sl w a l (fun j => .int .u32 (P j))) (hn : n ≤ 65536) (hl : l ≤ 65536) :
    Calls Try.prog 6 #[.int .u32 n, .slice a l c] w fun e w' => e = .returned (.bool true) ∧ Below w.heap.size w w' := by
  have hSl : Hid (Sl w a l (fun j => .int .u32 (P j))) := h
  have mk1 := run_make_row' (P := Try.prog) 34 36 (.pointer none) 8 Try.underlying34 info36 rfl .u32 .u32 n (by omega) (by omega)
  have mk2 := run_make_row' (P := Try.prog) 35 4 (.bool false) 1 Try.underlying35 info4 rfl .u32 .u32 n (by omega) (by omega)
  clear h
  go_enter Try.func6, Try.ntmps6
  go_wp2_with fail
  refine (zzBytes_yes _ _ _ _ _ (by omega)).mono ?_
  rintro e w' ⟨rfl, rfl⟩
  go_wp2
  go_loop [5] (fun i => ∃ j : Nat, j ≤ l ∧ i = .int .i64 j ∧ ∀ k, k < j → P k < n) (fun i => l - (intOf i).toNat)
  case atStart => exact ⟨0, Nat.zero_le _, rfl, fun k hk => absurd hk (by omega)⟩
  case round =>
    obtain ⟨j, hj, rfl, hall⟩ := hrel
    have hall' : Hid (∀ k, k < j → P k < n) := hall
    clear hall
    by_cases hlt : j < l
    · obtain ⟨b, off, rfl, hc⟩ := hSl.out j hlt
      clear mk1 mk2
      by_cases hpn : P j < n
      · go_wp2
        go_round
        case rel => exact ⟨j + 1, by omega, by go_num, all_succ hall'.out hpn⟩
        case measure => simp [intOf]; omega
      · go_wp2
        go_ret
        exact ⟨rfl, Below.refl _ _⟩
    · obtain rfl : j = l := by omega
      go_wp2_with fail
      refine (newNodes_st n w' hn).mono ?_
      rintro e w1 ⟨tb, mb, rfl, hS1, htb, hmb, htb1, hmb1, hb1⟩
      have hS1' : Hid (St w1 tb n (fun _ => none) 0 false mb 0 0) := hS1
      clear hS1
      have hM0 : Hid (Mem w' ((w1.alloc (.cells (madeCells #[.pointer none] n) 36)).alloc (.cells (madeCells #[.bool false] n) 4)) tb mb w1.heap.size (w1.heap.size + 1) n (fun _ => none) (fun _ => none) 0 false 0 0) := by
        have hs1 := hb1.size
        have r2 := World.rowIs_made (w1.alloc (.cells (madeCells #[.pointer none] n) 36)) (.bool false) n 4
        exact ⟨(hb1.alloc (by omega) _).alloc (by simp; omega) _, (World.rowIs_made w1 (.pointer none) n 36).alloc _, by simpa using r2, (hS1'.out.alloc _).alloc _, htb, hmb, by omega, by omega,
          by omega, by omega, by omega, by omega, by omega, fun h => by cases h⟩
      go_wp2
      generalize (w1.alloc (.cells (madeCells #[.pointer none] n) 36)).alloc (.cells (madeCells #[.bool false] n) 4) = w2 at hM0 ⊢
      clear hS1' htb hmb htb1 hmb1 hb1
      generalize w1.heap.size + 1 = sr at hM0 ⊢
      generalize w1.heap.size = mr at hM0 ⊢
      generalize decide ((65536 : Int) < (n : Int)) = d1
      generalize decide ((65536 : Int) < (j : Int)) = d2
      clear mk1 mk2 hlt hj
      go_loopw [9, 10, 12] (fun d wd i wr => ∃ (k : Nat) (M : Nat → Option Nat) (cnt : Nat) (dn : Bool) (db : Nat), k ≤ j ∧ i = .int .i64 k ∧ d = .int .i64 cnt ∧ wd = .bool dn ∧ cnt ≤ k ∧
          (∀ q, M q ≠ none → q < n) ∧ Mem w' wr tb mb mr sr n M M cnt dn db k) (fun _ _ i _ => j - (intOf i).toNat)
      case atStart => exact ⟨0, _, 0, false, 0, Nat.zero_le _, rfl, rfl, rfl, Nat.le_refl _, fun q hq => absurd rfl hq, hM0.out⟩
      case round =>
        clear hM0
        obtain ⟨k, M, cnt, dn, db, hk, rfl, rfl, rfl, hck, hM, hMem⟩ := hrel
        have hMH : Hid (Mem w' wr tb mb mr sr n M M cnt dn db k) := hMem
        have hMd : Hid (∀ q, M q ≠ none → q < n) := hM
        clear hMem hM
        have hn5 := hMH.out.n5
        have hn5' : sr ≠ mr := fun e => hn5 e.symm
        by_cases hkl : k < j
        · obtain ⟨b, off, rfl, hc⟩ := (hSl.out.below hMH.out.low (Nat.le_refl _)) k hkl
          have hpn := hall'.out k hkl
          have hMd' : Hid (∀ q, upd M (P k) wr.heap.size q ≠ none → q < n) := fun q hq => by
            by_cases e : q = P k
            · rw [e]; exact hpn
            · simp only [upd, e, if_false] at hq
              exact hMd.out q hq
          by_cases hth : n / 8 ≤ cnt
          · go_wp2_with fail
            refine (newNode_any k wr (by omega)).mono ?_
            rintro e w2 ⟨rfl, o, rfl⟩
            go_wp2_with fail
            refine (add17 tb mb db n k (P k) wr.heap.size cnt M dn _ (hMH.out.st.alloc o) (by omega) hpn hn hMd.out (fun e => (hMH.out.dd e).2.2.2.symm)).mono ?_
            rintro e w3 ⟨rfl, hA⟩
            obtain ⟨db', hM3⟩ := hMH.out.added o hA
            rw [show (dn || decide (n / 8 ≤ cnt)) = true by simp [hth]] at hM3
            have hM3' : Hid (Mem w' w3 tb mb mr sr n (upd M (P k) wr.heap.size) M (if M (P k) = none then cnt + 1 else cnt) true db' (k + 1)) := hM3
            have c1 := hM3.mod.cell hpn
            have f1 := hM3.mod.frozen (P k)
            have c2 := hM3.seen.cell hpn
            have f2 := hM3.seen.frozen (P k)
            clear hM3 hA hMH hMd
            cases hm : M (P k) with
            | none =>
              rw [hm] at c1 c2
              simp only [PV, Option.isSome] at c1 c2
              have hM4 : Hid (Mem w' ((w3.setCell ⟨mr, P k, none⟩ (.pointer (some ⟨wr.heap.size, 0, none⟩))).setCell ⟨sr, P k, none⟩ (.bool true)) tb mb mr sr n (upd M (P k) wr.heap.size) (upd M (P k) wr.heap.size) (cnt + 1) true db' (k + 1)) := by
                have h9 := hM3'.out.write2
                rw [if_pos hm] at h9
                exact h9
              clear hM3' hm
              go_wp2
              go_roundw
              case rel => exact ⟨k + 1, _, cnt + 1, true, db', by omega, by go_num, by go_num, rfl, by omega, hMd'.out, hM4.out⟩
              case measure => simp [intOf]; omega
            | some b4 =>
              rw [hm] at c1 c2
              simp only [PV, Option.isSome] at c1 c2
              have hM4 : Hid (Mem w' (w3.setCell ⟨mr, P k, none⟩ (.pointer (some ⟨wr.heap.size, 0, none⟩))) tb mb mr sr n (upd M (P k) wr.heap.size) (upd M (P k) wr.heap.size) cnt true db' (k + 1)) := by
                have h9 := hM3'.out.write (by rw [hm]; simp)
                rw [if_neg (by rw [hm]; simp)] at h9
                exact h9
              clear hM3' hm
              go_wp2
              go_roundw
              case rel => exact ⟨k + 1, _, cnt, true, db', by omega, by go_num, rfl, rfl, by omega, hMd'.out, hM4.out⟩
              case measure => simp [intOf]; omega
          · go_wp2_with fail
            refine (newNode_any k wr (by omega)).mono ?_
            rintro e w2 ⟨rfl, o, rfl⟩
            go_wp2_with fail
            refine (add17 tb mb db n k (P k) wr.heap.size cnt M dn _ (hMH.out.st.alloc o) (by omega) hpn hn hMd.out (fun e => (hMH.out.dd e).2.2.2.symm)).mono ?_
            rintro e w3 ⟨rfl, hA⟩
            obtain ⟨db', hM3⟩ := hMH.out.added o hA
            rw [show (dn || decide (n / 8 ≤ cnt)) = dn by simp [hth]] at hM3
            have hM3' : Hid (Mem w' w3 tb mb mr sr n (upd M (P k) wr.heap.size) M (if M (P k) = none then cnt + 1 else cnt) dn db' (k + 1)) := hM3
            have c1 := hM3.mod.cell hpn
            have f1 := hM3.mod.frozen (P k)
            have c2 := hM3.seen.cell hpn
            have f2 := hM3.seen.frozen (P k)
            clear hM3 hA hMH hMd
            cases hm : M (P k) with
            | none =>
              rw [hm] at c1 c2
              simp only [PV, Option.isSome] at c1 c2
              have hM4 : Hid (Mem w' ((w3.setCell ⟨mr, P k, none⟩ (.pointer (some ⟨wr.heap.size, 0, none⟩))).setCell ⟨sr, P k, none⟩ (.bool true)) tb mb mr sr n (upd M (P k) wr.heap.size) (upd M (P k) wr.heap.size) (cnt + 1) dn db' (k + 1)) := by
                have h9 := hM3'.out.write2
                rw [if_pos hm] at h9
                exact h9
              clear hM3' hm
              go_wp2
              go_roundw
              case rel => exact ⟨k + 1, _, cnt + 1, dn, db', by omega, by go_num, by go_num, rfl, by omega, hMd'.out, hM4.out⟩
              case measure => simp [intOf]; omega
            | some b4 =>
              rw [hm] at c1 c2
              simp only [PV, Option.isSome] at c1 c2
              have hM4 : Hid (Mem w' (w3.setCell ⟨mr, P k, none⟩ (.pointer (some ⟨wr.heap.size, 0, none⟩))) tb mb mr sr n (upd M (P k) wr.heap.size) (upd M (P k) wr.heap.size) cnt dn db' (k + 1)) := by
                have h9 := hM3'.out.write (by rw [hm]; simp)
                rw [if_neg (by rw [hm]; simp)] at h9
                exact h9
              clear hM3' hm
              go_wp2
              go_roundw
              case rel => exact ⟨k + 1, _, cnt, dn, db', by omega, by go_num, rfl, rfl, by omega, hMd'.out, hM4.out⟩
              case measure => simp [intOf]; omega
        · obtain rfl : k = j := by omega
          rcases hMH.out.st with ⟨rfl, ht, hd⟩ | ⟨rfl, ht, D, ho, hD⟩
          · go_wp2_with fail
            refine (fields_any tb _ _ _ wr ht rfl rfl rfl).mono ?_
            rintro e w5 ⟨rfl, m5, hw5⟩
            have hd5 : Hid (w5.rowIs db 36 n (fun r => PV (M r))) := by rw [hw5]; exact hd
            have hm5 : Hid (w5.rowIs mr 36 n (fun r => PV (M r))) := by rw [hw5]; exact hMH.out.mod
            have hl5 : Hid (Below w'.heap.size w' w5) := by rw [hw5]; exact below_drewN hMH.out.low
            have hnil1 := fun w => Lib.run_eql_slice_nil (P := Try.prog) w 34 36 (some ⟨db, 0, none⟩) n n 0 0 Try.underlying34
            have hmn := mapNeqNil
            clear hw5 ht hd hMd hn5 hn5' hck
            go_wp2
            generalize decide ((k : Int) < (k : Int)) = d3
            go_loopw [18] (fun i wz => ∃ q : Nat, q ≤ n ∧ i = .int .i64 q ∧ ∃ m, wz = w5.drewN m) (fun i _ => n - (intOf i).toNat)
            case atStart => exact ⟨0, Nat.zero_le _, rfl, drew0 _⟩
            case round =>
              obtain ⟨q, hq, rfl, m, rfl⟩ := hrel
              clear hnil1 hmn
              by_cases hqn : q < n
              · have c1 := hd5.out.cell hqn
                have c2 := hm5.out.cell hqn
                cases hmq : M q with
                | none =>
                  rw [hmq] at c1 c2
                  simp only [PV] at c1 c2
                  go_wp2
                  go_quiet (fail)
                  go_wp2
                  go_roundw
                  case rel => exact ⟨q + 1, by omega, by go_num, drew1 _ _⟩
                  case measure => simp [intOf]; omega
                | some b5 =>
                  rw [hmq] at c1 c2
                  simp only [PV] at c1 c2
                  have hpe := ptrNeq ⟨b5, 0, none⟩
                  go_wp2
                  go_quiet (fail)
                  go_wp2
                  go_roundw
                  case rel => exact ⟨q + 1, by omega, by go_num, drew1 _ _⟩
                  case measure => simp [intOf]; omega
              · obtain rfl : q = n := by omega
                go_wp2
                go_ret
                exact ⟨rfl, below_drewN hl5.out⟩
          · go_wp2_with fail
            refine (fields_any tb _ _ _ wr ht rfl rfl rfl).mono ?_
            rintro e w5 ⟨rfl, m5, hw5⟩
            have ho5 : w5.ownsMap Try.prog 29 R36 mb k D := by rw [hw5]; exact ho
            have hm5 : Hid (w5.rowIs mr 36 n (fun r => PV (M r))) := by rw [hw5]; exact hMH.out.mod
            have hl5 : Hid (Below w'.heap.size w' w5) := by rw [hw5]; exact below_drewN hMH.out.low
            have hnil1 := fun w => run_neq_slice_nil_any (P := Try.prog) w 34 36 none 0 0 0 0 Try.underlying34
            have hmn := mapEqlSome
            have hlen := fun (ty : TypeId) => World.ownsMap.len ho5 Try.underlying39 ty
            rw [hD.size'] at hlen
            have hDH : Hid (Rd D M cnt) := hD
            have hoH : Hid (w5.ownsMap Try.prog 29 R36 mb k D) := ho5
            clear hw5 ht ho ho5 hD hMd hn5 hn5' hck
            go_wp2
            generalize decide ((k : Int) < (k : Int)) = d3
            go_loopw [19] (fun i wz => ∃ q : Nat, q ≤ n ∧ i = .int .u32 q ∧ ∃ m, wz = w5.drewN m) (fun i _ => n - (intOf i).toNat)
            case atStart => exact ⟨0, Nat.zero_le _, rfl, drew0 _⟩
            case round =>
              obtain ⟨q, hq, rfl, m, rfl⟩ := hrel
              clear hnil1 hmn hlen
              by_cases hqn : q < n
              · have c2 := hm5.out.cell hqn
                have c1 : ∀ m1, (Instr.lookup 39 (.map (some mb)) (.int .u32 q) false).run Try.prog (w5.drewN m1) = .ok (PV (M q)) (w5.drewN m1) := fun m1 => by
                  obtain ⟨v, ps, hrun, hv⟩ := World.ownsMap.lookup (w := w5.drewN m1) (own_drew hoH.out) law29 Try.underlying39 (zero36 _) (R36_mk none) (key29 (p := q) (by omega))
                  rw [hDH.out.look] at hv
                  obtain ⟨o9, rfl, e9⟩ := R36_inv hv
                  simp only [Prod.mk.injEq] at e9
                  have e10 := e9.1
                  injection e10 with e11
                  rw [PL_inj e11]
                  exact hrun
                cases hmq : M q with
                | none =>
                  rw [hmq] at c1 c2
                  simp only [PV] at c1 c2
                  go_wp2
                  go_quiet (fail)
                  go_wp2
                  go_roundw
                  case rel => exact ⟨q + 1, by omega, by go_num, drew1 _ _⟩
                  case measure => simp [intOf]; omega
                | some b5 =>
                  rw [hmq] at c1 c2
                  simp only [PV] at c1 c2
                  have hpe := ptrNeq ⟨b5, 0, none⟩
                  go_wp2
                  go_quiet (fail)
                  go_wp2
                  go_roundw
                  case rel => exact ⟨q + 1, by omega, by go_num, drew1 _ _⟩
                  case measure => simp [intOf]; omega
              · obtain rfl : q = n := by omega
                go_wp2
                go_ret
                exact ⟨rfl, below_drewN hl5.out⟩
end Go.Proofs.Qxb6619684a
