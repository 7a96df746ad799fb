import Derived.Test.Qxb6619684aMove
namespace Go.Proofs.Qxb6619684a
open Go.RowKit Go.Deep Go.Maps
set_option linter.unusedVariables false

/-- a walkNodes in memory: dense or sparse -/
def St (w : World) (tb n : Nat) (M : Nat → Option Nat) (cnt : Nat) (dn : Bool) (mb db k : Nat) : Prop :=
  (dn = true ∧ w.rowIs tb 61 3 (three (.int .u32 n) (.map none) (.slice (some ⟨db, 0, none⟩) n n)) ∧ w.rowIs db 36 n (fun r => PV (M r))) ∨
  (dn = false ∧ w.rowIs tb 61 3 (three (.int .u32 n) (.map (some mb)) (.slice none 0 0)) ∧ ∃ D, w.ownsMap Try.prog 29 R36 mb k D ∧ Rd D M cnt)

def Added (w : World) (tb n p b : Nat) (M : Nat → Option Nat) (cnt : Nat) (dn : Bool) (mb db k : Nat) (w' : World) : Prop :=
  ∃ (dn' : Bool) (db' : Nat), dn' = (dn || decide (n / 8 ≤ cnt)) ∧ St w' tb n (upd M p b) (if M p = none then cnt + 1 else cnt) dn' mb db' (k + 1) ∧
    (∃ X, w.grownBy w' (some X) ∧ (X = tb ∨ X = mb ∨ dn = true ∧ X = db)) ∧ (dn' = true → dn = true ∧ db' = db ∨ w.heap.size ≤ db' ∧ db' < w'.heap.size)

theorem add30 (tb mb db n k p b cnt : Nat) (M : Nat → Option Nat) (dn : Bool) (w : World) (h : St w tb n M cnt dn mb db k) (hk : k ≤ 65536) (hp : p < n) (hn : n ≤ 65536) (hM : ∀ q, M q ≠ none → q < n)
    (hne : dn = true → tb ≠ db) :
    Calls Try.prog 30 #[.pointer (some ⟨tb, 0, none⟩), .int .u32 p, .pointer (some ⟨b, 0, none⟩)] w fun e w' => e = .returned (.tuple #[]) ∧ Added w tb n p b M cnt dn mb db k w' := by
  rcases h with ⟨rfl, ht, hd⟩ | ⟨rfl, ht, D, ho, hD⟩
  · refine (add_dense tb db n p b M w ht hd hp hn).mono ?_
    rintro e w' ⟨he, hg, hr⟩
    exact ⟨he, true, db, rfl, .inl ⟨rfl, ht.of_block (hg.block tb ht.lt (fun e => hne rfl (Option.some.inj e))), hr⟩, ⟨db, hg, .inr (.inr ⟨rfl, rfl⟩)⟩, fun _ => .inl ⟨rfl, rfl⟩⟩
  · have hmt : tb ≠ mb := by
      intro e
      subst e
      obtain ⟨es, cl, hb, _⟩ := ho
      obtain ⟨c, hc, _⟩ := ht
      rw [hb] at hc; cases hc
    by_cases hc : n / 8 ≤ cnt
    · refine (add_move tb mb n k p b cnt M D w ht ho hD hc hk hp hn hM).mono ?_
      rintro e w' ⟨he, hg, h1, h2⟩
      exact ⟨he, true, w.heap.size, by simp [hc], .inl ⟨rfl, h1, h2⟩, ⟨tb, hg, .inl rfl⟩, fun _ => .inr ⟨Nat.le_refl _, h2.lt⟩⟩
    · refine (add_sparse tb mb n k p b cnt M D w ht ho hD (by omega) hk hp hn).mono ?_
      rintro e w' ⟨he, hg, h1⟩
      exact ⟨he, false, db, by simp; omega, .inr ⟨rfl, ht.of_block (hg.block tb ht.lt (fun e => hmt (Option.some.inj e))), _, h1, hD.put (ho.tidy law29) p b⟩, ⟨mb, hg, .inr (.inl rfl)⟩, fun h => by cases h⟩

theorem add17 (tb mb db n k p b cnt : Nat) (M : Nat → Option Nat) (dn : Bool) (w : World) (h : St w tb n M cnt dn mb db k) (hk : k ≤ 65536) (hp : p < n) (hn : n ≤ 65536) (hM : ∀ q, M q ≠ none → q < n)
    (hne : dn = true → tb ≠ db) :
    Calls Try.prog 17 #[.pointer (some ⟨tb, 0, none⟩), .int .u32 p, .pointer (some ⟨b, 0, none⟩)] w fun e w' => e = .returned (.tuple #[]) ∧ Added w tb n p b M cnt dn mb db k w' := by
  go_enter Try.func17, Try.ntmps17
  go_wp2_with fail
  refine (add30 tb mb db n k p b cnt M dn w h hk hp hn hM hne).mono ?_
  rintro e w' ⟨rfl, hA⟩
  have hA' : Hid (Added w tb n p b M cnt dn mb db k w') := hA
  clear hA h hM hne
  go_wp2
  go_end0
  exact ⟨rfl, hA'.out⟩

theorem St.alloc {w : World} {tb n cnt mb db k : Nat} {M : Nat → Option Nat} {dn : Bool} (h : St w tb n M cnt dn mb db k) (o : Obj) : St (w.alloc o) tb n M cnt dn mb db k := by
  rcases h with ⟨h1, h2, h3⟩ | ⟨h1, h2, D, h3, h4⟩
  · exact .inl ⟨h1, h2.alloc o, h3.alloc o⟩
  · exact .inr ⟨h1, h2.alloc o, D, h3.alloc o, h4⟩

theorem St.set {w : World} {tb n cnt mb db k : Nat} {M : Nat → Option Nat} {dn : Bool} (h : St w tb n M cnt dn mb db k) {a : Addr} (v : Value) (h1 : tb ≠ a.block) (h2 : mb ≠ a.block) (h3 : dn = true → db ≠ a.block) : St (w.setCell a v) tb n M cnt dn mb db k := by
  rcases h with ⟨g1, g2, g3⟩ | ⟨g1, g2, D, g3, g4⟩
  · exact .inl ⟨g1, g2.setOther h1 v, g3.setOther (h3 g1) v⟩
  · exact .inr ⟨g1, g2.setOther h1 v, D, g3.setCell h2 v, g4⟩

/-- where all lies in the law's loop -/
structure Mem (w0 w : World) (tb mb mr sr n : Nat) (M N : Nat → Option Nat) (cnt : Nat) (dn : Bool) (db k : Nat) : Prop where
  low : Below w0.heap.size w0 w
  mod : w.rowIs mr 36 n (fun r => PV (N r))
  seen : w.rowIs sr 4 n (fun r => .bool (N r).isSome)
  st : St w tb n M cnt dn mb db k
  b1 : w0.heap.size ≤ tb
  b2 : w0.heap.size ≤ mb
  b3 : w0.heap.size ≤ mr
  b4 : w0.heap.size ≤ sr
  n1 : tb ≠ mr
  n2 : tb ≠ sr
  n3 : mb ≠ mr
  n4 : mb ≠ sr
  n5 : mr ≠ sr
  dd : dn = true → w0.heap.size ≤ db ∧ db ≠ mr ∧ db ≠ sr ∧ db ≠ tb

theorem Mem.added {w0 w w1 : World} {tb mb mr sr n : Nat} {M : Nat → Option Nat} {cnt : Nat} {dn : Bool} {db k p : Nat} (o : Obj) (h : Mem w0 w tb mb mr sr n M M cnt dn db k)
    (hA : Added (w.alloc o) tb n p w.heap.size M cnt dn mb db k w1) : ∃ db', Mem w0 w1 tb mb mr sr n (upd M p w.heap.size) M (if M p = none then cnt + 1 else cnt) (dn || decide (n / 8 ≤ cnt)) db' (k + 1) := by
  obtain ⟨dn', db', rfl, hS, ⟨X, hg, hX⟩, hd⟩ := hA
  have hsz := h.low.size
  have hX' : w0.heap.size ≤ X ∧ X ≠ mr ∧ X ≠ sr := by
    rcases hX with rfl | rfl | ⟨hdn, rfl⟩
    · exact ⟨h.b1, h.n1, h.n2⟩
    · exact ⟨h.b2, h.n3, h.n4⟩
    · exact ⟨(h.dd hdn).1, (h.dd hdn).2.1, (h.dd hdn).2.2.1⟩
  have htl : tb < w.heap.size := by
    rcases h.st with ⟨_, h2, _⟩ | ⟨_, h2, _⟩ <;> exact h2.lt
  refine ⟨db', (h.low.alloc hsz o).grown hg (by simp; omega) (fun j hj => by cases hj; exact hX'.1), ?_, ?_, hS, h.b1, h.b2, h.b3, h.b4, h.n1, h.n2, h.n3, h.n4, h.n5, fun hdn => ?_⟩
  · exact (h.mod.alloc o).of_block (hg.block mr (h.mod.alloc o).lt (fun e => hX'.2.1 (Option.some.inj e).symm))
  · exact (h.seen.alloc o).of_block (hg.block sr (h.seen.alloc o).lt (fun e => hX'.2.2 (Option.some.inj e).symm))
  · rcases hd hdn with ⟨g1, rfl⟩ | ⟨g1, g2⟩
    · exact h.dd g1
    · have := h.mod.lt
      have := h.seen.lt
      simp at g1
      exact ⟨by omega, by omega, by omega, by omega⟩

theorem Mem.write {w0 w : World} {tb mb mr sr n : Nat} {M : Nat → Option Nat} {cnt : Nat} {dn : Bool} {db k p b : Nat} (h : Mem w0 w tb mb mr sr n (upd M p b) M cnt dn db k) (hs : M p ≠ none) :
    Mem w0 (w.setCell ⟨mr, p, none⟩ (.pointer (some ⟨b, 0, none⟩))) tb mb mr sr n (upd M p b) (upd M p b) cnt dn db k := by
  refine ⟨h.low.setCell h.b3 _, ?_, ?_, h.st.set _ h.n1 h.n3 (fun e => (h.dd e).2.1), h.b1, h.b2, h.b3, h.b4, h.n1, h.n2, h.n3, h.n4, h.n5, h.dd⟩
  · refine (h.mod.set p _).congr (fun i _ => ?_)
    by_cases e : i = p
    · subst e; simp [upd, PV]
    · simp [upd, e]
  · refine (h.seen.setOther h.n5.symm _).congr (fun i _ => ?_)
    by_cases e : i = p
    · subst e
      cases hm : M i with
      | none => exact absurd hm hs
      | some c => simp [upd]
    · simp [upd, e]

theorem Mem.write2 {w0 w : World} {tb mb mr sr n : Nat} {M : Nat → Option Nat} {cnt : Nat} {dn : Bool} {db k p b : Nat} (h : Mem w0 w tb mb mr sr n (upd M p b) M cnt dn db k) :
    Mem w0 ((w.setCell ⟨mr, p, none⟩ (.pointer (some ⟨b, 0, none⟩))).setCell ⟨sr, p, none⟩ (.bool true)) tb mb mr sr n (upd M p b) (upd M p b) cnt dn db k := by
  refine ⟨(h.low.setCell h.b3 _).setCell h.b4 _, ?_, ?_, (h.st.set _ h.n1 h.n3 (fun e => (h.dd e).2.1)).set _ h.n2 h.n4 (fun e => (h.dd e).2.2.1), h.b1, h.b2, h.b3, h.b4, h.n1, h.n2, h.n3, h.n4, h.n5, h.dd⟩
  · refine ((h.mod.set p _).setOther h.n5 _).congr (fun i _ => ?_)
    by_cases e : i = p
    · subst e; simp [upd, PV]
    · simp [upd, e]
  · refine ((h.seen.setOther h.n5.symm _).set p _).congr (fun i _ => ?_)
    by_cases e : i = p
    · subst e; simp [upd]
    · simp [upd, e]

/-- a new walkNodes -/
theorem newNodes_st (n : Nat) (w : World) (hn : n ≤ 65536) :
    Calls Try.prog 15 #[.int .u32 n] w fun e w' => ∃ tb mb, e = .returned (.pointer (some ⟨tb, 0, none⟩)) ∧ St w' tb n (fun _ => none) 0 false mb 0 0 ∧
      w.heap.size ≤ tb ∧ w.heap.size ≤ mb ∧ tb < w'.heap.size ∧ mb < w'.heap.size ∧ Below w.heap.size w w' := by
  refine (newNodes_any n w hn).mono ?_
  rintro e w' ⟨rfl, rfl⟩
  refine ⟨w.heap.size + 1, w.heap.size, rfl, .inr ⟨rfl, ?_, .map [], (World.ownsMap_made _ _ _ _).alloc _, rd_made⟩, by omega, Nat.le_refl _, by simp, by simp; omega, ((Below.refl _ _).alloc (Nat.le_refl _) _).alloc (by simp) _⟩
  have := World.rowIs_alloc (w.alloc (.map #[] 0)) #[.int .u32 n, .map (some w.heap.size), .slice none 0 0] 61 (three (.int .u32 n) (.map (some w.heap.size)) (.slice none 0 0)) (fun i hi => by
    simp at hi
    rcases (show i = 0 ∨ i = 1 ∨ i = 2 by omega) with rfl | rfl | rfl <;> rfl)
  simpa using this
end Go.Proofs.Qxb6619684a
