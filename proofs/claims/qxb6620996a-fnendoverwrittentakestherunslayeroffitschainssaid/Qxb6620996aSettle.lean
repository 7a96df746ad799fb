import Derived.Test.Qxb6620996aPure2
import Derived.Test.Qxb6620996aEndRun
namespace Go.Proofs.Qxb6620996a
open Go.RowKit Go.Deep
set_option linter.unusedVariables false

/-- the law's arguments as settle reads them -/
structure SArgs (w : World) (a0 a1 a2 a3 a4 : Option Addr) (A1 A2 A3 : Nat → Option Addr) (C1 C2 C3 : Nat → Nat) (D : ED) : Prop where
  h0 : Sl w a0 D.m (fun i => .int .i64 (D.V i))
  h1 : Sl w a1 D.nr (fun r => .slice (A1 r) (D.L r) (C1 r))
  h2 : Sl w a2 D.nr (fun r => .slice (A2 r) (D.L r) (C2 r))
  h3 : Sl w a3 D.nr (fun r => .slice (A3 r) (D.L r) (C3 r))
  h4 : Sl w a4 D.m (fun i => .int .i32 (D.Wt i))
  hx : ∀ r, r < D.nr → Sl w (A1 r) (D.L r) (fun j => .int .i32 (D.UX r j))
  hu : ∀ r, r < D.nr → Sl w (A2 r) (D.L r) (fun j => .int .i32 (D.UU r j))
  hv : ∀ r, r < D.nr → Sl w (A3 r) (D.L r) (fun j => .int .i64 (D.UV r j))

theorem SArgs.below {w w' : World} {a0 a1 a2 a3 a4 : Option Addr} {A1 A2 A3 : Nat → Option Addr} {C1 C2 C3 : Nat → Nat} {D : ED} {B : Nat} (h : SArgs w a0 a1 a2 a3 a4 A1 A2 A3 C1 C2 C3 D) (hb : Below B w w') (hB : w.heap.size ≤ B) : SArgs w' a0 a1 a2 a3 a4 A1 A2 A3 C1 C2 C3 D :=
  ⟨h.h0.below hb hB, h.h1.below hb hB, h.h2.below hb hB, h.h3.below hb hB, h.h4.below hb hB, fun r hr => (h.hx r hr).below hb hB, fun r hr => (h.hu r hr).below hb hB, fun r hr => (h.hv r hr).below hb hB⟩

/-- an empty slice with room -/
theorem run_make_zero {P : Program} (t e : TypeId) (z : Value) (bytes : Nat) (ht : P.underlying t = some (.slice e)) (hinfo : (P.info? e).map (fun i => (i.zero, i.size, i.bytes)) = some (some z, 1, bytes)) (hz1 : z.cells = #[z])
    (n : Nat) (hb : bytes ≤ 24) (hn : n ≤ 1048576) (w : World) :
    (Instr.makeSlice t (.int .i64 0) (.int .i64 ((n : Int) + 1))).run P w = .ok (.slice (some ⟨w.heap.size, 0, none⟩) 0 (n + 1)) (w.alloc (.cells (madeCells #[z] (n + 1)) e)) := by
  obtain ⟨i, hi, hzz⟩ := Option.map_eq_some_iff.1 hinfo
  simp only [Prod.mk.injEq] at hzz
  obtain ⟨hz, hs, hbb⟩ := hzz
  have h24 : ((i.bytes : Int)) * ((n : Int) + 1) ≤ 281474976710656 := by
    have h : i.bytes * (n + 1) ≤ 24 * 1048577 := Nat.mul_le_mul (by omega) (by omega)
    have h2 : ((i.bytes * (n + 1) : Nat) : Int) ≤ 281474976710656 := by omega
    simpa [Int.natCast_mul] using h2
  have hr := run_make (P := P) w t e i z ht hi hz .i64 .i64 0 ((n : Int) + 1) (by omega) (by omega) h24 (by omega)
  rw [show ((n : Int) + 1).toNat = n + 1 by omega, hs, hz1, Nat.mul_one] at hr
  exact hr

theorem Acc.zero (w : World) (base : Nat) (t : TypeId) (z : Value) (n : Nat) (f : Nat → Value) (hb : base ≤ w.heap.size) (hn : n ≤ 1048576) : Acc (w.alloc (.cells (madeCells #[z] (n + 1)) t)) base t 0 f w.heap.size (n + 1) := by
  have := World.ownsRow_made (w := w) (base := base) (e := t) (size := 1) (madeCells #[z] (n + 1)) (n + 1) hb (by simp only [maxLen]; omega) (by rw [size_madeCells, Nat.mul_one])
  unfold Acc
  simpa using this

set_option maxRecDepth 100000 in
set_option maxHeartbeats 8000000 in
theorem settle_any (a0 a1 a2 a3 a4 : Option Addr) (c0 c1 c2 c3 c4 cU cV2 : Nat) (A1 A2 A3 : Nat → Option Addr) (C1 C2 C3 : Nat → Nat) (D : ED) (N : Int → Nat) (x : Int) (f : Nat)
    (qV qW qE BU BV : Nat) (Es : Nat → Int) (aV aW : Option Addr) (cV cW : Nat) (AU : Nat → Option Addr) (CU GU : Nat → Nat) (AV : Nat → Option Addr) (CV GV : Nat → Nat) (wA w0 : World) (Be : Nat)
    (A : SArgs wA a0 a1 a2 a3 a4 A1 A2 A3 C1 C2 C3 D) (hAw : wA.heap.size ≤ Be) (hBe : Below Be wA w0) (hBq : Be ≤ qV)
    (h : Mod w0 qV qW qE Es BU BV aV aW cV cW AU CU GU AV CV GV D (D.FV N) (D.FW N) (D.FU N) (D.FQ N)) (hf : f < D.L D.p) (hp : D.p < D.nr)
    (hx0 : 0 ≤ x) (hx1 : x < D.m) (hgood : D.Good x) (hfresh : ¬ N x < D.L D.p) (hm : D.m ≤ 4096) (hnr : D.nr ≤ 256) (hL : ∀ r, r < D.nr → D.L r ≤ 256) :
    Calls Try.prog 29 #[.slice a0 D.m c0, .slice a1 D.nr c1, .slice a2 D.nr c2, .slice a3 D.nr c3, .slice a4 D.m c4, .slice aV D.m cV, .slice aW D.m cW, .slice (some ⟨BU, 0, none⟩) D.nr cU, .slice (some ⟨BV, 0, none⟩) D.nr cV2,
        .int .i64 D.p, .int .i32 x, .int .i64 f, .bool D.com] w0 fun e w' =>
      e = .returned (.tuple #[]) ∧ Mod w' qV qW qE Es BU BV aV aW cV cW AU CU GU AV CV GV D (D.FV (upd N x f)) (D.FW (upd N x f)) (D.FU (upd N x f)) (D.FQ (upd N x f)) ∧ Below Be w0 w' := by
  have A0 := A.below hBe hAw
  obtain ⟨b0, o0, ha0, hc0⟩ := A0.h0 x.toNat (by omega)
  obtain ⟨b4, o4, ha4, hc4⟩ := A0.h4 x.toNat (by omega)
  have h0b : b0 < w0.heap.size := block_lt_of_cell hc0
  obtain ⟨b1, o1, ha1, _⟩ := A0.h1 _ hp
  obtain ⟨b2, o2, ha2, _⟩ := A0.h2 _ hp
  obtain ⟨b3, o3, ha3, _⟩ := A0.h3 _ hp
  subst ha0 ha4 ha1 ha2 ha3
  have e0 := Acc.one w0 w0.heap.size 21 (.int .i32 (D.Wt x.toNat)) (fun i => .int .i32 (D.c x i)) (Nat.le_refl _) rfl
  have e1 := Acc.one (w0.alloc (.cells #[.int .i32 (D.Wt x.toNat)] 21)) w0.heap.size 2 (.int .i64 (D.V x.toNat)) (fun i => .int .i64 (D.v x i)) (by simp) rfl
  have e0' := e0.alloc (.cells #[.int .i64 (D.V x.toNat)] 2)
  have hb0 : Below w0.heap.size w0 ((w0.alloc (.cells #[.int .i32 (D.Wt x.toNat)] 21)).alloc (.cells #[.int .i64 (D.V x.toNat)] 2)) := ((Below.refl _ _).alloc (Nat.le_refl _) _).alloc (by simp) _
  simp only [nblk_alloc] at e1
  have hq1 : qV < w0.heap.size := (h.vals (by omega)).2.lt
  clear e0
  have hgood' : Hid (D.Good x) := hgood
  have hL' : Hid (∀ r, r < D.nr → D.L r ≤ 256) := hL
  clear hgood hL
  go_enter Try.func29, Try.ntmps29
  go_wp2
  generalize ((w0.alloc (.cells #[.int .i32 (D.Wt x.toNat)] 21)).alloc (.cells #[.int .i64 (D.V x.toNat)] 2)) = w1 at *
  clear hc0 hc4
  go_loopw [27, 28, 29, 30] (fun s27 s28 s29 s30 wr => ∃ k gR cR gV cVv : Nat, k ≤ D.T x ∧ s30 = .int .i64 k ∧ s27 = .slice (some ⟨gR, 0, none⟩) (k + 1) cR ∧ s28 = .slice (some ⟨gV, 0, none⟩) (k + 1) cVv ∧ s29 = .int .i64 (-1) ∧
      Acc wr w0.heap.size 21 (k + 1) (fun i => .int .i32 (D.c x i)) gR cR ∧ Acc wr w0.heap.size 2 (k + 1) (fun i => .int .i64 (D.v x i)) gV cVv ∧ Below w0.heap.size w0 wr) (fun _ _ _ s30 _ => 300 - (intOf s30).toNat)
  case atStart => exact ⟨0, _, _, _, _, Nat.zero_le _, rfl, rfl, rfl, rfl, e0', e1, hb0⟩
  case round =>
    clear e0' e1 hb0
    obtain ⟨k, gR, cR, gV, cVv, hk, rfl, rfl, rfl, rfl, hR, hV, hb⟩ := hrel
    have hTn : D.T x ≤ D.nr := hgood'.out.1
    have hrk := hR.cell (i := k) (by omega)
    obtain ⟨cu, hcu⟩ : ∃ cu, cu = D.c x k := ⟨_, rfl⟩
    have HCU : Hid (cu = D.c x k) := hcu
    rw [← hcu] at hrk
    clear hcu
    by_cases hz : cu = D.p + 1
    · have hkT : D.T x = k := by
        have hnk : ¬ k < D.T x := fun h => (ED.c_go h).2 (HCU.out.symm.trans hz)
        omega
      have HT : Hid (D.T x = k) := hkT
      have HS : Hid (D.c x (D.T x) = D.self) := by
        show D.c x (D.T x) = D.self
        rw [hkT]; exact HCU.out.symm.trans hz
      have hzb : (cu == D.p + 1) = true := ieqT hz
      have hk256 : k ≤ 256 := by omega
      clear hkT hz
      have mk1 := run_make_zero (P := Try.prog) 25 21 (.int .i32 0) 4 Try.underlying25 info21 rfl k (by decide) (by omega)
      have mk2 := run_make_zero (P := Try.prog) 43 2 (.int .i64 0) 8 Try.underlying43 info2 rfl k (by decide) (by omega)
      obtain ⟨w3, hw3⟩ : ∃ w3, w3 = wr := ⟨_, rfl⟩
      subst hw3
      have z0 := (Acc.zero w3 w3.heap.size 21 (.int .i32 0) k (fun i => .int .i32 (D.nR x f i)) (Nat.le_refl _) (by omega)).alloc (.cells (madeCells #[.int .i64 0] (k + 1)) 2)
      have z1 := Acc.zero (w3.alloc (.cells (madeCells #[.int .i32 0] (k + 1)) 21)) w3.heap.size 2 (.int .i64 0) k (fun i => .int .i64 (D.nV x f i)) (by simp) (by omega)
      simp only [nblk_alloc] at z1
      have zb : Below w3.heap.size w3 ((w3.alloc (.cells (madeCells #[.int .i32 0] (k + 1)) 21)).alloc (.cells (madeCells #[.int .i64 0] (k + 1)) 2)) := ((Below.refl _ _).alloc (Nat.le_refl _) _).alloc (by simp) _
      go_wp2
      generalize ((w3.alloc (.cells (madeCells #[.int .i32 0] (k + 1)) 21)).alloc (.cells (madeCells #[.int .i64 0] (k + 1)) 2)) = w4 at *
      generalize decide ((k : Int) < 0) = bd1
      generalize decide (k ≤ D.nr) = bd2
      clear mk1 mk2 hrk hzb
      go_loopw [33, 34, 35] (fun s33 s34 s35 wr => ∃ i gN cN gM cM : Nat, i ≤ k ∧ s35 = .int .i64 i ∧ s33 = .slice (some ⟨gN, 0, none⟩) i cN ∧ s34 = .slice (some ⟨gM, 0, none⟩) i cM ∧
          Acc wr w3.heap.size 21 i (fun i => .int .i32 (D.nR x f i)) gN cN ∧ Acc wr w3.heap.size 2 i (fun i => .int .i64 (D.nV x f i)) gM cM ∧ Below w3.heap.size w3 wr) (fun _ _ s35 _ => k - (intOf s35).toNat)
      case atStart => exact ⟨0, _, _, _, _, Nat.zero_le _, rfl, rfl, rfl, z0, z1, zb⟩
      case round =>
        clear z0 z1 zb
        obtain ⟨i, gN, cN, gM, cM, hi, rfl, rfl, rfl, hN, hM, hb6⟩ := hrel
        by_cases hik : i < k
        · have q1 : wr.cell? ⟨gR, i, none⟩ = some (.int .i32 (D.nR x f i)) := by
            have h1 := (hb6.cell (p := ⟨gR, i, none⟩) hR.within.2).trans (hR.cell (i := i) (by omega))
            rw [h1]
            unfold ED.nR
            rw [if_pos (by rw [HT.out]; exact hik)]
          have q2 : w3.cell? ⟨gV, i, none⟩ = some (.int .i64 (D.nV x f i)) := by
            rw [hV.cell (i := i) (by omega)]
            unfold ED.nV
            rw [if_pos (by rw [HT.out]; exact hik)]
          generalize hU2 : D.nR x f i = u2 at *
          generalize hV2 : D.nV x f i = v2 at *
          have HU2 : Hid (D.nR x f i = u2) := hU2
          have HV2 : Hid (D.nV x f i = v2) := hV2
          clear hU2 hV2
          have hsz6 := hb6.size
          have hN2 := hN.alloc (.cells #[.int .i32 u2] 21)
          have hM2 := hM.alloc (.cells #[.int .i32 u2] 21)
          have hb7 := hb6.alloc (by omega) (.cells #[.int .i32 u2] 21)
          have hcell : (wr.alloc (.cells #[.int .i32 u2] 21)).cell? ⟨wr.heap.size, 0, none⟩ = some (.int .i32 (D.nR x f i)) := by rw [HU2.out]; exact cell_blk (blk_alloc_new _ _) 0
          go_wp2_with (at_builtin; refine wpList_append_acc rfl (.tmp 114) (.tmp 119) 25 rfl w3.heap.size 21 (.int .i32 0) 4 Try.underlying25 info21 rfl (by decide) i _ gN cN rfl hN2 wr.heap.size 1 rfl hcell rfl (by omega) ?_)
          intro gN' cN' w7 hN3 hg7
          have hb8 := hb7.grown hg7 (by simp only [nblk_alloc]; omega) (fun q hq => by cases hq; exact hN.within.1)
          have hM3 := hM2.kept hg7 (fun e => (hM.ne hN (by decide)) e)
          have q3 : w7.cell? ⟨gV, i, none⟩ = some (.int .i64 v2) := (hb8.cell (p := ⟨gV, i, none⟩) hV.within.2).trans q2
          have hsz7 := hb8.size
          clear q1 hN2 hM2 hb7 hcell hg7
          have hN4 := hN3.alloc (.cells #[.int .i64 v2] 2)
          have hM4 := hM3.alloc (.cells #[.int .i64 v2] 2)
          have hb9 := hb8.alloc (by omega) (.cells #[.int .i64 v2] 2)
          have hcell : (w7.alloc (.cells #[.int .i64 v2] 2)).cell? ⟨w7.heap.size, 0, none⟩ = some (.int .i64 (D.nV x f i)) := by rw [HV2.out]; exact cell_blk (blk_alloc_new _ _) 0
          go_wp2_with (at_builtin; refine wpList_append_acc rfl (.tmp 121) (.tmp 126) 43 rfl w3.heap.size 2 (.int .i64 0) 8 Try.underlying43 info2 rfl (by decide) i _ gM cM rfl hM4 w7.heap.size 1 rfl hcell rfl (by omega) ?_)
          intro gM' cM' w8 hM5 hg8
          have hb10 := hb9.grown hg8 (by simp only [nblk_alloc]; omega) (fun q hq => by cases hq; exact hM3.within.1)
          have hN5 := hN4.kept hg8 (fun e => (hN3.ne hM3 (by decide)) e)
          clear q3 hN4 hM4 hb9 hcell hg8
          go_wp2
          go_roundw
          case rel => exact ⟨i + 1, _, _, _, _, by omega, by go_num, rfl, rfl, hN5, hM5, hb10⟩
          case measure => simp [intOf]; omega
        · have hik2 : k = i := by omega
          subst hik2
          have hsz6 := hb6.size
          have hN2 := fun u => hN.alloc (.cells #[.int .i32 u] 21)
          have hM2 := fun u => hM.alloc (.cells #[.int .i32 u] 21)
          have hb7 := fun u => hb6.alloc (by omega) (.cells #[.int .i32 u] 21)
          have hnR : Hid (D.nR x f k = D.nw f) := by show D.nR x f k = D.nw f; unfold ED.nR; rw [if_neg (by rw [HT.out]; omega)]
          have hnV : Hid (D.nV x f k = if D.com = true then D.v x k else D.UV D.p f) := by show D.nV x f k = _; unfold ED.nV; rw [if_neg (by rw [HT.out]; omega), HT.out]
          have qv : w3.cell? ⟨gV, k, none⟩ = some (.int .i64 (D.v x k)) := hV.cell (i := k) (by omega)
          have Ar := A0.below (hb.trans (hb6.mono hb.size)) (Nat.le_refl _)
          have d2 := Ar.h2.cell hp
          obtain ⟨by2, oy2, ha2, hcy2⟩ := Ar.hu _ hp f hf
          have d3 := A0.h3.cell hp
          obtain ⟨by3, oy3, ha3, hcy3⟩ := A0.hv _ hp f hf
          simp only at hcy2 hcy3
          rw [ha2] at d2
          rw [ha3] at d3
          clear Ar hR hik
          cases hcom : D.com
          case' true =>
            have hU2 : D.nR x f k = 0 := by rw [hnR.out]; simp [ED.nw, hcom]
            have hV2 : D.nV x f k = D.v x k := by rw [hnV.out, if_pos hcom]
            have HU2 : Hid (D.nR x f k = 0) := hU2
            have HV2 : Hid (D.nV x f k = D.v x k) := hV2
            clear hU2 hV2 d2 hcy2 d3 hcy3 hcom
            have hcell : (wr.alloc (.cells #[.int .i32 0] 21)).cell? ⟨wr.heap.size, 0, none⟩ = some (.int .i32 (D.nR x f k)) := by rw [HU2.out]; exact cell_blk (blk_alloc_new _ _) 0
            go_wp2_with (at_builtin; refine wpList_append_acc rfl (.tmp 129) (.tmp 130) 25 rfl w3.heap.size 21 (.int .i32 0) 4 Try.underlying25 info21 rfl (by decide) k _ gN cN rfl (hN2 0) wr.heap.size 1 rfl hcell rfl (by omega) ?_)
            intro gN' cN' w7 hN3 hg7
            have hb8 := (hb7 0).grown hg7 (by simp only [nblk_alloc]; omega) (fun q hq => by cases hq; exact hN.within.1)
            have hM3 := (hM2 0).kept hg7 (fun e => (hM.ne hN (by decide)) e)
            have q3 : w7.cell? ⟨gV, k, none⟩ = some (.int .i64 (D.v x k)) := (hb8.cell (p := ⟨gV, k, none⟩) hV.within.2).trans qv
            have hsz7 := hb8.size
            clear hN2 hM2 hb7 hcell hg7
            have hN4 := hN3.alloc (.cells #[.int .i64 (D.v x k)] 2)
            have hM4 := hM3.alloc (.cells #[.int .i64 (D.v x k)] 2)
            have hb9 := hb8.alloc (by omega) (.cells #[.int .i64 (D.v x k)] 2)
            have hcell : (w7.alloc (.cells #[.int .i64 (D.v x k)] 2)).cell? ⟨w7.heap.size, 0, none⟩ = some (.int .i64 (D.nV x f k)) := by rw [HV2.out]; exact cell_blk (blk_alloc_new _ _) 0
            go_wp2_with (at_builtin; refine wpList_append_acc rfl (.tmp 132) (.tmp 137) 43 rfl w3.heap.size 2 (.int .i64 0) 8 Try.underlying43 info2 rfl (by decide) k _ gM cM rfl hM4 w7.heap.size 1 rfl hcell rfl (by omega) ?_)
            intro gM' cM' w8 hM5 hg8
            have hb10 := hb9.grown hg8 (by simp only [nblk_alloc]; omega) (fun q hq => by cases hq; exact hM3.within.1)
            have hN5 := hN4.kept hg8 (fun e => (hN3.ne hM3 (by decide)) e)
            clear q3 hN4 hM4 hb9 hcell hg8 hN3 hM3 hb8 hN hM hb6 hsz6 hsz7 qv HU2 HV2
          case' false =>
            have hU2 : D.nR x f k = D.UU D.p f := by rw [hnR.out]; simp [ED.nw, hcom]
            have hV2 : D.nV x f k = D.UV D.p f := by rw [hnV.out, if_neg (by simp [hcom])]
            have HU2 : Hid (D.nR x f k = D.UU D.p f) := hU2
            have HV2 : Hid (D.nV x f k = D.UV D.p f) := hV2
            clear hU2 hV2 qv hcom
            have hcell : (wr.alloc (.cells #[.int .i32 (D.UU D.p f)] 21)).cell? ⟨wr.heap.size, 0, none⟩ = some (.int .i32 (D.nR x f k)) := by rw [HU2.out]; exact cell_blk (blk_alloc_new _ _) 0
            go_wp2_with (at_builtin; refine wpList_append_acc rfl (.tmp 139) (.tmp 147) 25 rfl w3.heap.size 21 (.int .i32 0) 4 Try.underlying25 info21 rfl (by decide) k _ gN cN rfl (hN2 _) wr.heap.size 1 rfl hcell rfl (by omega) ?_)
            intro gN' cN' w7 hN3 hg7
            have hb8 := (hb7 _).grown hg7 (by simp only [nblk_alloc]; omega) (fun q hq => by cases hq; exact hN.within.1)
            have hM3 := (hM2 _).kept hg7 (fun e => (hM.ne hN (by decide)) e)
            have hb80 := hb.trans (hb8.mono hb.size)
            have q3 := (hb80.cell (p := ⟨b3, o3 + D.p, none⟩) (block_lt_of_cell d3)).trans d3
            have q4 := (hb80.cell (p := ⟨by3, oy3 + f, none⟩) (block_lt_of_cell hcy3)).trans hcy3
            have hsz7 := hb8.size
            clear hN2 hM2 hb7 hcell hg7 d2 hcy2 d3 hcy3
            have hN4 := hN3.alloc (.cells #[.int .i64 (D.UV D.p f)] 2)
            have hM4 := hM3.alloc (.cells #[.int .i64 (D.UV D.p f)] 2)
            have hb9 := hb8.alloc (by omega) (.cells #[.int .i64 (D.UV D.p f)] 2)
            have hcell : (w7.alloc (.cells #[.int .i64 (D.UV D.p f)] 2)).cell? ⟨w7.heap.size, 0, none⟩ = some (.int .i64 (D.nV x f k)) := by rw [HV2.out]; exact cell_blk (blk_alloc_new _ _) 0
            go_wp2_with (at_builtin; refine wpList_append_acc rfl (.tmp 149) (.tmp 157) 43 rfl w3.heap.size 2 (.int .i64 0) 8 Try.underlying43 info2 rfl (by decide) k _ gM cM rfl hM4 w7.heap.size 1 rfl hcell rfl (by omega) ?_)
            intro gM' cM' w8 hM5 hg8
            have hb10 := hb9.grown hg8 (by simp only [nblk_alloc]; omega) (fun q hq => by cases hq; exact hM3.within.1)
            have hN5 := hN4.kept hg8 (fun e => (hN3.ne hM3 (by decide)) e)
            clear q3 q4 hb80 hN4 hM4 hb9 hcell hg8 hN3 hM3 hb8 hN hM hb6 hsz6 hsz7 HU2 HV2
          all_goals
            have hbw : Below w0.heap.size w0 w8 := hb.trans (hb10.mono hb.size)
            have h8 := h.below hbw
            have hm0 : 0 < D.m := by omega
            have hxm : x.toNat < D.m := by omega
            obtain ⟨haV, hvr⟩ := h8.vals hm0
            obtain ⟨haW, hwr⟩ := h8.wris hm0
            have cv1 := hvr.cell hxm
            have fv1 := hvr.frozen x.toNat
            have cw1 := hwr.cell hxm
            have fw1 := hwr.frozen x.toNat
            have cM0 := hM5.cell (i := 0) (by omega)
            have cN0 := hN5.cell (i := 0) (by omega)
            have hgN := hN5.within.1
            have hgM := hM5.within.1
            have h38 := hb.size
            have hq2 : qW < w0.heap.size := (h.wris hm0).2.lt
            have hqq := (h.o1 hm0).1
            have hS0 : Mod ((w8.setCell ⟨qV, x.toNat, none⟩ (.int .i64 (D.nV x f 0))).setCell ⟨qW, x.toNat, none⟩ (.int .i32 (D.nR x f 0))) qV qW qE Es BU BV aV aW cV cW AU CU GU AV CV GV D (D.FV (upd N x f)) (D.FW (upd N x f))
                (fun r j => if 0 < k then D.FU N r j else D.FU (upd N x f) r j) (fun r j => if 0 < k then D.FQ N r j else D.FQ (upd N x f) r j) := by
              refine ((h8.setV hm0 x.toNat (D.nV x f 0)).setW hm0 x.toNat (D.nR x f 0)).congr (fun i => (ED.settle_VW hx0 hgood'.out hf hfresh HS.out i).1) (fun i => (ED.settle_VW hx0 hgood'.out hf hfresh HS.out i).2) (fun r j => ?_) (fun r j => ?_)
              · by_cases hk0 : 0 < k
                · rw [if_pos hk0]
                · rw [if_neg hk0, (ED.settle_none hf (by rw [HT.out]; omega) r j).1]
              · by_cases hk0 : 0 < k
                · rw [if_pos hk0]
                · rw [if_neg hk0, (ED.settle_none hf (by rw [HT.out]; omega) r j).2]
            have aN0 := (hN5.setOther (a := ⟨qV, x.toNat, none⟩) (by simp; omega) (.int .i64 (D.nV x f 0))).setOther (a := ⟨qW, x.toNat, none⟩) (by simp; omega) (.int .i32 (D.nR x f 0))
            have aM0 := (hM5.setOther (a := ⟨qV, x.toNat, none⟩) (by simp; omega) (.int .i64 (D.nV x f 0))).setOther (a := ⟨qW, x.toNat, none⟩) (by simp; omega) (.int .i32 (D.nR x f 0))
            have bb0 := ((hbw.mono (show Be ≤ w0.heap.size by omega)).setCell (p := ⟨qV, x.toNat, none⟩) (by simp; omega) (.int .i64 (D.nV x f 0))).setCell (p := ⟨qW, x.toNat, none⟩) (by simp; omega) (.int .i32 (D.nR x f 0))
            have hgNV : gN' ≠ qV := by omega
            have hgNW : gN' ≠ qW := by omega
            have hgMV : gM' ≠ qV := by omega
            clear hvr hwr hN5 hM5 hb10 h8
            have H0 : Hid (Mod w0 qV qW qE Es BU BV aV aW cV cW AU CU GU AV CV GV D (D.FV N) (D.FW N) (D.FU N) (D.FQ N)) := h
            clear h
            subst haV haW
            go_wp2
            clear cv1 fv1 cw1 fw1 cM0 cN0 hgNV hgNW hgMV
            generalize ((w8.setCell ⟨qV, x.toNat, none⟩ (.int .i64 (D.nV x f 0))).setCell ⟨qW, x.toNat, none⟩ (.int .i32 (D.nR x f 0))) = w9 at *
            clear hbw
            go_loopw [36] (fun s36 wr => ∃ i : Nat, i ≤ k ∧ s36 = .int .i64 i ∧ Acc wr w3.heap.size 21 (k + 1) (fun i => .int .i32 (D.nR x f i)) gN' cN' ∧ Acc wr w3.heap.size 2 (k + 1) (fun i => .int .i64 (D.nV x f i)) gM' cM' ∧ Below Be w0 wr ∧
              Mod wr qV qW qE Es BU BV (some ⟨qV, 0, none⟩) (some ⟨qW, 0, none⟩) cV cW AU CU GU AV CV GV D (D.FV (upd N x f)) (D.FW (upd N x f)) (fun r j => if i < k then D.FU N r j else D.FU (upd N x f) r j) (fun r j => if i < k then D.FQ N r j else D.FQ (upd N x f) r j)) (fun s36 _ => k - (intOf s36).toNat)
            case atStart => exact ⟨0, Nat.zero_le _, rfl, aN0, aM0, bb0, hS0⟩
            case round =>
              clear aN0 aM0 bb0 hS0
              obtain ⟨i, hi, rfl, aN, aM, bb, hM9⟩ := hrel
              by_cases hik : i < k
              · obtain ⟨g1, g2, _, g4⟩ := hgood'.out.2.2 i (by rw [HT.out]; exact hik)
                have hset := fun r' j' => ED.settle_U (N := N) (x := x) (f := f) hgood'.out hf hfresh HS.out (i := i) (by rw [HT.out]; exact hik) r' j'
                have cN1 := aN.cell (i := i) (by omega)
                have cN2 := aN.cell (i := i + 1) (by omega)
                have cM2 := aM.cell (i := i + 1) (by omega)
                have hnRi : D.nR x f i = D.c x i := by unfold ED.nR; rw [if_pos (by rw [HT.out]; exact hik)]
                rw [hnRi] at cN1
                rw [HT.out] at hset
                clear hnRi
                generalize hcc : D.c x i = cu2 at *
                clear hcc
                have ei : (cu2 - 1).toNat = cu2.toNat - 1 := by omega
                rw [ei] at g4
                have hr : cu2.toNat - 1 < D.nr := by omega
                have Ar := A.below (hBe.trans bb) hAw
                have d1 := Ar.h1.cell hr
                have hxr := Ar.hx _ hr
                have hLr := hL'.out _ hr
                have hlpos : 0 < D.L (cu2.toNat - 1) := by omega
                obtain ⟨eU, _, rU⟩ := hM9.rU.row _ hr hlpos
                obtain ⟨eV, _, rV⟩ := hM9.rV.row _ hr hlpos
                have tU := hM9.rU.top.cell hr
                have tV := hM9.rV.top.cell hr
                simp only [hr, if_true] at tU tV
                rw [eU] at tU
                rw [eV] at tV
                have pU := rU.cell g4
                have pV := rV.cell g4
                have fU := rU.frozen (D.g (cu2.toNat - 1) x)
                have fV := rV.frozen (D.g (cu2.toNat - 1) x)
                have hGU : GU (cu2.toNat - 1) < w0.heap.size := (H0.out.rU.row _ hr hlpos).2.2.lt
                have hGV : GV (cu2.toNat - 1) < w0.heap.size := (H0.out.rV.row _ hr hlpos).2.2.lt
                have t3 := hM9.o3 _ hr hlpos
                have t5 := (hM9.rU.row _ hr hlpos).2.1
                have t6 := (hM9.rV.row _ hr hlpos).2.1
                have t4 := hM9.o4
                have n1 : gN' ≠ GU (cu2.toNat - 1) := by omega
                have n2 : gM' ≠ GU (cu2.toNat - 1) := by omega
                have n3 : gM' ≠ GV (cu2.toNat - 1) := by omega
                have n4 : gN' ≠ GV (cu2.toNat - 1) := by omega
                have hNew : Mod ((wr.setCell ⟨GU (cu2.toNat - 1), D.g (cu2.toNat - 1) x, none⟩ (.int .i32 (D.nR x f (i + 1)))).setCell ⟨GV (cu2.toNat - 1), D.g (cu2.toNat - 1) x, none⟩ (.int .i64 (D.nV x f (i + 1)))) qV qW qE Es BU BV (some ⟨qV, 0, none⟩) (some ⟨qW, 0, none⟩) cV cW AU CU GU AV CV GV D (D.FV (upd N x f)) (D.FW (upd N x f))
                    (fun r j => if i + 1 < k then D.FU N r j else D.FU (upd N x f) r j) (fun r j => if i + 1 < k then D.FQ N r j else D.FQ (upd N x f) r j) :=
                  ((hM9.setU hr g4 (D.nR x f (i + 1))).setQ hr g4 (D.nV x f (i + 1))).congr (fun _ => rfl) (fun _ => rfl) (fun r' j' => by simp only [hik, if_true]; exact (hset r' j').1) (fun r' j' => by simp only [hik, if_true]; exact (hset r' j').2)
                have aN2 := (aN.setOther (a := ⟨GU (cu2.toNat - 1), D.g (cu2.toNat - 1) x, none⟩) n1 (.int .i32 (D.nR x f (i + 1)))).setOther (a := ⟨GV (cu2.toNat - 1), D.g (cu2.toNat - 1) x, none⟩) n4 (.int .i64 (D.nV x f (i + 1)))
                have aM2 := (aM.setOther (a := ⟨GU (cu2.toNat - 1), D.g (cu2.toNat - 1) x, none⟩) n2 (.int .i32 (D.nR x f (i + 1)))).setOther (a := ⟨GV (cu2.toNat - 1), D.g (cu2.toNat - 1) x, none⟩) n3 (.int .i64 (D.nV x f (i + 1)))
                have t7 := (hM9.o1 (by omega)).1
                have t8 := (hM9.o1 (by omega)).2
                have bb2 := (bb.setCell (p := ⟨GU (cu2.toNat - 1), D.g (cu2.toNat - 1) x, none⟩) (by simp; omega) (.int .i32 (D.nR x f (i + 1)))).setCell (p := ⟨GV (cu2.toNat - 1), D.g (cu2.toNat - 1) x, none⟩) (by simp; omega) (.int .i64 (D.nV x f (i + 1)))
                have HNew : Hid _ := hNew
                have g1' := g1
                clear hset aN aM bb hM9 rU rV eU eV ei hNew Ar hb hV
                generalize hrr : cu2.toNat - 1 = r at *
                have HRR : Hid (cu2.toNat - 1 = r) := hrr
                go_wp2_with fail
                refine (firstOf_any _ _ _ x (D.UX r) _ hxr (by omega)).mono ?_
                rintro e w2 ⟨⟨v, rfl, hv1, _⟩, hw⟩
                subst hw
                have hv : v = (D.g r x : Nat) := hv1 g4
                clear hv1 hxr d1
                generalize D.g r x = gg at *
                subst hv
                go_wp2
                go_region
                go_wp2
                go_region
                go_wp2
                go_roundw
                case rel => exact ⟨i + 1, by omega, by go_num, aN2.of_block rfl, aM2.of_block rfl, below_same bb2 rfl rfl rfl rfl, Mod.below HNew.out (below_same (Below.refl _ _) rfl rfl rfl rfl)⟩
                case measure => simp [intOf]; omega
              · have hik2 : i = k := by omega
                subst hik2
                clear aN aM hik
                go_wp2
                go_end0
                exact ⟨rfl, hM9.congr (fun _ => rfl) (fun _ => rfl) (fun r j => by simp) (fun r j => by simp), bb⟩
    · by_cases hz0 : cu = 0
      · have hcT : D.c x (D.T x) = 0 := by
          have hkT : ¬ k < D.T x := fun h => (ED.c_go h).1 (HCU.out.symm.trans hz0)
          have : D.T x = k := by omega
          rw [this, ← HCU.out]; exact hz0
        obtain ⟨hW, hU⟩ := ED.settle_off (N := N) (x := x) (f := f) hx0 hf hcT
        have hfin : Hid (Mod wr qV qW qE Es BU BV aV aW cV cW AU CU GU AV CV GV D (D.FV (upd N x f)) (D.FW (upd N x f)) (D.FU (upd N x f)) (D.FQ (upd N x f))) :=
          (h.below hb).congr (fun i => (hW.2 i).symm) (fun i => (hW.1 i).symm) (fun r j => (hU.1 r j).symm) (fun r j => (hU.2 r j).symm)
        have hzb : (cu == D.p + 1) = false := ieqF hz
        subst hz0
        clear hW hU hcT hR hV hz
        go_wp2
        refine bodyPost_ret (v := .tuple #[]) (by simp [results, Try.results29, go_sem]) rfl ?_
        exact ⟨rfl, hfin.out, hb.mono (by omega)⟩
      · have hkT : k < D.T x := by
          rcases Nat.lt_or_ge k (D.T x) with h' | h'
          · exact h'
          · have hkT : k = D.T x := by omega
            rcases hgood'.out.2.1 with h1 | h1
            · exact absurd (by rw [HCU.out, hkT]; exact h1) hz0
            · exact absurd (by rw [HCU.out, hkT]; exact h1) hz
        obtain ⟨g1, g2, _, g4⟩ := hgood'.out.2.2 k hkT
        have hnc : D.c x (k + 1) = D.UU (D.c x k - 1).toNat (D.g (D.c x k - 1).toNat x) := rfl
        have hnv : D.v x (k + 1) = D.UV (D.c x k - 1).toNat (D.g (D.c x k - 1).toNat x) := rfl
        rw [← HCU.out] at g1 g2 g4 hnc hnv
        have ei : (cu - 1).toNat = cu.toNat - 1 := by omega
        rw [ei] at g4 hnc hnv
        have hr : cu.toNat - 1 < D.nr := by omega
        have Ar := A0.below hb (Nat.le_refl _)
        have d1 := Ar.h1.cell hr
        have d2 := Ar.h2.cell hr
        have d3 := Ar.h3.cell hr
        have hxr := Ar.hx _ hr
        obtain ⟨by2, oy2, ha2, hcy2⟩ := Ar.hu _ hr _ g4
        obtain ⟨by3, oy3, ha3, hcy3⟩ := A0.hv _ hr _ g4
        simp only at hcy2 hcy3
        rw [← hnc] at hcy2
        rw [← hnv] at hcy3
        rw [ha2] at d2
        have hgg : Hid (fi (D.L (cu.toNat - 1)) (D.UX (cu.toNat - 1)) x < D.L (cu.toNat - 1)) := g4
        have hgd : D.g (cu.toNat - 1) x = fi (D.L (cu.toNat - 1)) (D.UX (cu.toNat - 1)) x := rfl
        have hLr := hL'.out _ hr
        have d3' : w0.cell? ⟨b3, o3 + (cu.toNat - 1), none⟩ = some (.slice (A3 (cu.toNat - 1)) (D.L (cu.toNat - 1)) (C3 (cu.toNat - 1))) := A0.h3.cell hr
        rw [ha3] at d3 d3'
        rw [hgd] at hcy2 hcy3
        have hzb : (cu == D.p + 1) = false := ieqF hz
        have hzb0 : (cu == 0) = false := ieqF hz0
        clear hnc hnv ei hz hz0 g4 hgd Ar
        generalize hU2 : D.c x (k + 1) = u2 at *
        generalize hV2 : D.v x (k + 1) = v2 at *
        have HU2 : Hid (D.c x (k + 1) = u2) := hU2
        have HV2 : Hid (D.v x (k + 1) = v2) := hV2
        clear hU2 hV2
        go_wp2_with fail
        refine (firstOf_any _ _ _ x (D.UX (cu.toNat - 1)) _ hxr (by omega)).mono ?_
        rintro e w2 ⟨⟨v, rfl, hv1, _⟩, hw⟩
        subst hw
        have hv := hv1 hgg.out
        clear hv1 hxr d1
        have hgg2 : fi (D.L (cu.toNat - 1)) (D.UX (cu.toNat - 1)) x < D.L (cu.toNat - 1) := hgg.out
        generalize fi (D.L (cu.toNat - 1)) (D.UX (cu.toNat - 1)) x = gg at *
        subst hv
        generalize D.L (cu.toNat - 1) = lr at *
        have hR2 := hR.alloc (.cells #[.int .i32 u2] 21)
        have hV2 := hV.alloc (.cells #[.int .i32 u2] 21)
        have hb2 := hb.alloc (by have := hb.size; omega) (.cells #[.int .i32 u2] 21)
        have hcell : (w2.alloc (.cells #[.int .i32 u2] 21)).cell? ⟨w2.heap.size, 0, none⟩ = some (.int .i32 (D.c x (k + 1))) := by rw [HU2.out]; exact cell_blk (blk_alloc_new _ _) 0
        go_wp2_with (at_builtin; refine wpList_append_acc rfl (.tmp 79) (.tmp 88) 25 rfl w0.heap.size 21 (.int .i32 0) 4 Try.underlying25 info21 rfl (by decide) (k + 1) _ gR cR rfl hR2 w2.heap.size 1 rfl hcell rfl (by omega) ?_)
        intro gR' cR' w3 hR3 hg3
        have hb3 := hb2.grown hg3 (by simp only [nblk_alloc]; have := hb.size; omega) (fun q hq => by cases hq; exact hR.within.1)
        have hV3 := hV2.kept hg3 (fun e => (hV.ne hR (by decide)) e)
        have hs3 := hg3.size
        have e3 : w3.cell? ⟨b3, o3 + (cu.toNat - 1), none⟩ = some (.slice (some ⟨by3, oy3, none⟩) lr (C3 (cu.toNat - 1))) := (hb3.cell (p := ⟨b3, o3 + (cu.toNat - 1), none⟩) (block_lt_of_cell d3')).trans d3'
        have ey3 : w3.cell? ⟨by3, oy3 + gg, none⟩ = some (.int .i64 v2) := (hb3.cell (p := ⟨by3, oy3 + gg, none⟩) (block_lt_of_cell hcy3)).trans hcy3
        clear d2 d3 d3' hcy2 hcy3 hR2 hV2 hb2 hcell hrk hR hV hb hg3
        have hR4 := hR3.alloc (.cells #[.int .i64 v2] 2)
        have hV4 := hV3.alloc (.cells #[.int .i64 v2] 2)
        have hb4 := hb3.alloc (by have := hb3.size; omega) (.cells #[.int .i64 v2] 2)
        have hcell : (w3.alloc (.cells #[.int .i64 v2] 2)).cell? ⟨w3.heap.size, 0, none⟩ = some (.int .i64 (D.v x (k + 1))) := by rw [HV2.out]; exact cell_blk (blk_alloc_new _ _) 0
        go_wp2_with (at_builtin; refine wpList_append_acc rfl (.tmp 90) (.tmp 99) 43 rfl w0.heap.size 2 (.int .i64 0) 8 Try.underlying43 info2 rfl (by decide) (k + 1) _ gV cVv rfl hV4 w3.heap.size 1 rfl hcell rfl (by omega) ?_)
        intro gV' cV' w5 hV5 hg5
        have hb5 := hb4.grown hg5 (by simp only [nblk_alloc]; have := hb3.size; omega) (fun q hq => by cases hq; exact hV3.within.1)
        have hR5 := hR4.kept hg5 (fun e => (hR3.ne hV3 (by decide)) e)
        clear hR4 hV4 hb4 hcell hR3 hV3 hb3 hg5 e3 ey3
        go_wp2
        go_roundw
        case rel => exact ⟨k + 1, _, _, _, _, by omega, by go_num, rfl, rfl, rfl, hR5, hV5, hb5⟩
        case measure => simp [intOf]; omega
end Go.Proofs.Qxb6620996a
