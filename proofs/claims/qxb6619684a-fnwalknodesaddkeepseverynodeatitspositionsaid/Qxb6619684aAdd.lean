import Derived.Test.Qxb6619684aSmall
import Derived.Deep.LoopGhost
import Derived.BigRegion
import Derived.Deep.RegionWith
namespace Go.Proofs.Qxb6619684a
open Go.RowKit Go.Deep Go.Maps
set_option linter.unusedVariables false

theorem three0 (a b c : Value) : three a b c 0 = a := rfl
theorem three1 (a b c : Value) : three a b c 1 = b := rfl
theorem three2 (a b c : Value) : three a b c 2 = c := rfl

theorem grown_drew {w w' : World} {m : Nat} {row : Option Nat} (h : (w.drewN m).grownBy w' row) : w.grownBy w' row := ⟨h.os, h.tape, h.output, h.size, h.block⟩
theorem grown_set (w : World) (a : Addr) (v : Value) : w.grownBy (w.setCell a v) (some a.block) :=
  ⟨rfl, rfl, rfl, by simp, fun k _ hk => blk_setCell_other _ _ _ _ (fun e => hk (by rw [e]))⟩

theorem own_drew {w : World} {mb k : Nat} {D : DataW Unit} {m : Nat} (h : w.ownsMap Try.prog 29 R36 mb k D) : (w.drewN m).ownsMap Try.prog 29 R36 mb k D := h

/-- the dense mode -/
theorem add_dense (tb db n p b : Nat) (M : Nat → Option Nat) (w : World) (h : w.rowIs tb 61 3 (three (.int .u32 n) (.map none) (.slice (some ⟨db, 0, none⟩) n n)))
    (hd : w.rowIs db 36 n (fun r => PV (M r))) (hp : p < n) (hn : n ≤ 65536) :
    Calls Try.prog 30 #[.pointer (some ⟨tb, 0, none⟩), .int .u32 p, .pointer (some ⟨b, 0, none⟩)] w fun e w' =>
      e = .returned (.tuple #[]) ∧ w.grownBy w' (some db) ∧ w'.rowIs db 36 n (fun r => PV (upd M p b r)) := by
  have h2 : w.cell? ⟨tb, 2, none⟩ = some (.slice (some ⟨db, 0, none⟩) n n) := h.cell (i := 2) (by omega)
  have ho := hd.cell hp
  have hf := hd.frozen p
  have hnil := fun w => Lib.run_eql_slice_nil (P := Try.prog) w 34 36 (some ⟨db, 0, none⟩) n n 0 0 Try.underlying34
  have hnil2 := fun w => run_neq_slice_nil_any (P := Try.prog) w 34 36 (some ⟨db, 0, none⟩) n n 0 0 Try.underlying34
  have hr : Hid (∀ m, ((w.drewN m).setCell ⟨db, p, none⟩ (PV (some b))).rowIs db 36 n (fun r => PV (upd M p b r))) := fun m => by
    refine (World.rowIs.set (w := w.drewN m) hd p (PV (some b))).congr (fun i _ => ?_)
    by_cases e : i = p
    · subst e; simp [upd]
    · simp [upd, e]
  have hg : Hid (∀ m, w.grownBy ((w.drewN m).setCell ⟨db, p, none⟩ (PV (some b))) (some db)) := fun m => grown_drew (m := m) (grown_set _ _ _)
  clear h hd
  go_enter Try.func30, Try.ntmps30
  go_wp2
  go_quiet (fail)
  go_wp2
  refine bodyPost_ret (v := .tuple #[]) (by simp [results, Try.results30, go_sem]) rfl ?_
  exact ⟨rfl, hg.out _, hr.out _⟩

/-- the sparse mode, as long as it lasts -/
theorem add_sparse (tb mb n k p b cnt : Nat) (M : Nat → Option Nat) (D : DataW Unit) (w : World) (h : w.rowIs tb 61 3 (three (.int .u32 n) (.map (some mb)) (.slice none 0 0)))
    (hown : w.ownsMap Try.prog 29 R36 mb k D) (hD : Rd D M cnt) (hc : cnt < n / 8) (hk : k ≤ 65536) (hp : p < n) (hn : n ≤ 65536) :
    Calls Try.prog 30 #[.pointer (some ⟨tb, 0, none⟩), .int .u32 p, .pointer (some ⟨b, 0, none⟩)] w fun e w' =>
      e = .returned (.tuple #[]) ∧ w.grownBy w' (some mb) ∧ w'.ownsMap Try.prog 29 R36 mb (k + 1) (D.put (K29 p) (.lit (PL (some b)))) := by
  have h0 : w.cell? ⟨tb, 0, none⟩ = some (.int .u32 n) := h.cell (i := 0) (by omega)
  have h1 : w.cell? ⟨tb, 1, none⟩ = some (.map (some mb)) := h.cell (i := 1) (by omega)
  have h2 : w.cell? ⟨tb, 2, none⟩ = some (.slice none 0 0) := h.cell (i := 2) (by omega)
  have hnil := fun w => Lib.run_eql_slice_nil (P := Try.prog) w 34 36 none 0 0 0 0 Try.underlying34
  have hnil2 := fun w => run_neq_slice_nil_any (P := Try.prog) w 34 36 none 0 0 0 0 Try.underlying34
  have hlen := fun (m : Nat) (ty : TypeId) => World.ownsMap.len (w := w.drewN m) hown Try.underlying39 ty
  rw [hD.size'] at hlen
  have hcn : ¬ n / 8 ≤ cnt := by omega
  have E : Hid (∀ m, Calls Try.prog 33 #[.int .u32 n] (w.drewN m) fun e w' => e = .returned (.int .i64 ((n / 8 : Nat) : Int)) ∧ w' = w.drewN m) := fun m => dense_any n _ hn
  have hown' : Hid (w.ownsMap Try.prog 29 R36 mb k D) := hown
  have hkey : Hid (keyOf Try.prog 29 (.int .u32 p) = some (K29 p)) := key29 (by omega)
  clear h hown hD
  go_enter Try.func30, Try.ntmps30
  go_wp2
  go_quiet ((go_at_call 33; exact Calls.quiet_of_same (E.out _)))
  go_wp2_with (first
    | (at_mapUpdate; refine wpList_mapUpdate_own _ rfl _ _ _ 39 rfl 29 36 law29 Try.underlying39 R36 mb k D rfl (own_drew hown'.out) (by unfold maxLen; omega) _ _ _ rfl rfl hkey.out _ [] (R36_mk (some b)) ?_; intro w1 hown1 hg1)
    | go_in)
  go_wp2
  go_end0
  exact ⟨rfl, grown_drew hg1, hown1⟩
end Go.Proofs.Qxb6619684a
