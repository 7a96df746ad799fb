import Derived.Test.Qxb6620996aZZEnd
namespace Go.Proofs.Qxb6620996a
open Go.RowKit Go.Deep
set_option linter.unusedVariables false

def nn (D : ED) (r : Nat) : Nat := if r = D.p then 0 else D.L r

/-- what ZZEndOverwritten hands back -/
def ZEnd (D : ED) (Es : Nat → Int) (bv bw be : Nat) (av aw ae : Option Addr) (cv cw ce : Nat) (e : Ending) (w' : World) : Prop :=
  ∃ G R S bU, e = .returned (.tuple #[.slice av D.m cv, .slice (some ⟨G, 0, none⟩) D.nr D.nr, .slice (some ⟨G + 1, 0, none⟩) D.nr D.nr, .slice (some ⟨G + 1 + 1, 0, none⟩) D.nr D.nr, .slice aw D.m cw, .slice ae D.nr ce]) ∧
    Cols w' G D.nr D.nr R (nn D) D.UX (D.FU (D.g D.p)) (D.FQ (D.g D.p)) ∧ Done w' S bU bv bw be av aw ae cv cw ce D Es

set_option maxRecDepth 100000 in
set_option maxHeartbeats 4000000 in
theorem zzEnd_any (a1 a2 a3 : Option Addr) (c1 c2 c3 bv bw be : Nat) (av aw ae : Option Addr) (cv cw ce : Nat) (A1 A2 A3 : Nat → Option Addr) (C1 C2 C3 : Nat → Nat) (D : ED) (Es : Nat → Int) (w : World) (B : Nat)
    (h1 : Sl w a1 D.nr (fun r => .slice (A1 r) (D.L r) (C1 r))) (h2 : Sl w a2 D.nr (fun r => .slice (A2 r) (D.L r) (C2 r))) (h3 : Sl w a3 D.nr (fun r => .slice (A3 r) (D.L r) (C3 r)))
    (hx : ∀ r, r < D.nr → Sl w (A1 r) (D.L r) (fun j => .int .i32 (D.UX r j))) (hu : ∀ r, r < D.nr → Sl w (A2 r) (D.L r) (fun j => .int .i32 (D.UU r j))) (hv : ∀ r, r < D.nr → Sl w (A3 r) (D.L r) (fun j => .int .i64 (D.UV r j)))
    (hvals : 0 < D.m → av = some ⟨bv, 0, none⟩ ∧ w.rowIs bv 2 D.m (fun i => .int .i64 (D.V i))) (hwris : 0 < D.m → aw = some ⟨bw, 0, none⟩ ∧ w.rowIs bw 21 D.m (fun i => .int .i32 (D.Wt i))) (hends : 0 < D.nr → ae = some ⟨be, 0, none⟩ ∧ w.rowIs be 2 D.nr (fun i => .int .i64 (Es i)))
    (hap : (0 < D.m → bv < w.heap.size ∧ bw < w.heap.size ∧ bv ≠ bw ∧ bv ≠ be ∧ bw ≠ be) ∧ be < w.heap.size) (hB : (0 < D.m → B ≤ bv ∧ B ≤ bw) ∧ B ≤ be) (hf : D.Fit)
    (hm : D.m ≤ 4096) (hnr : D.nr ≤ 256) (hL : ∀ r, r < D.nr → D.L r ≤ 256) :
    Calls Try.prog 25 #[.slice av D.m cv, .slice a1 D.nr c1, .slice a2 D.nr c2, .slice a3 D.nr c3, .slice aw D.m cw, .slice ae D.nr ce, .int .i64 D.p, .bool D.com] w fun e w' => ZEnd D Es bv bw be av aw ae cv cw ce e w' ∧ Below B w w' := by
  have hst := OuterE.start (L := D.L) (X := D.UX) (U := D.UU) (Q := D.UV) w D.nr
  have mk0 := run_make_row' (P := Try.prog) 85 86 (.slice none 0 0) 24 Try.underlying85 info86 rfl .i64 .i64 D.nr (by omega) (by omega)
  have hsz0 : (w.alloc (.cells (madeCells #[.slice none 0 0] D.nr) 86)).heap.size = w.heap.size + 1 := by simp only [nblk_alloc]
  have hf' : Hid D.Fit := hf
  clear hf
  go_enter Try.func25, Try.ntmps25
  go_wp2
  generalize (w.alloc (.cells (madeCells #[.slice none 0 0] D.nr) 86)) = ws at *
  clear mk0
  go_loopw [41] (fun i wr => ∃ k : Nat, k ≤ D.nr ∧ i = .int .i64 k ∧ wr.heap.size = w.heap.size + 1 + k ∧ OuterE w wr D.nr k D.L D.UX D.UU D.UV) (fun i _ => D.nr - (intOf i).toNat)
  case atStart => exact ⟨0, Nat.zero_le _, rfl, hsz0, hst⟩
  case round =>
    clear hsz0 hst
    obtain ⟨k, hk, rfl, hsz, hout⟩ := hrel
    by_cases hlt : k < D.nr
    · have hLk := hL k hlt
      obtain ⟨b, off, ha1, hc⟩ := h1 k hlt
      obtain ⟨b1, off1, ha2, hc1⟩ := h2 k hlt
      obtain ⟨b2, off2, ha3, hc2⟩ := h3 k hlt
      subst ha1 ha2 ha3
      have hbl : b < w.heap.size := block_lt_of_cell hc
      have hbl2 : b < w.heap.size + 1 + k := by omega
      have hc' := hout.keep hc
      have mk1 := run_make_row3 (P := Try.prog) 86 88 (.int .i32 0) (.int .i32 0) (.int .i64 0) 16 Try.underlying86 info88 .i64 .i64 (D.L k) (by omega) (by omega)
      have hzk := hx k hlt
      have hxk := hu k hlt
      have hek := hv k hlt
      have hpr : R3 (wr.alloc (.cells (madeCells #[.int .i32 0, .int .i32 0, .int .i64 0] (D.L k * 3)) 88)) wr.heap.size 88 (D.L k) 0 (fun j => .int .i32 (D.UX k j)) (fun j => .int .i32 (D.UU k j)) (fun j => .int .i64 (D.UV k j)) := R3.made _ _ _ _ _ _
      rw [hsz] at hpr
      have hout1 := hout.alloc (.cells (madeCells #[.int .i32 0, .int .i32 0, .int .i64 0] (D.L k * 3)) 88)
      have hsz1 : (wr.alloc (.cells (madeCells #[.int .i32 0, .int .i32 0, .int .i64 0] (D.L k * 3)) 88)).heap.size = w.heap.size + 1 + k + 1 := by simp [hsz]
      clear h1 h2 h3 hx hu hv hL hvals hwris hends
      go_wp2
      generalize wr.alloc (.cells (madeCells #[.int .i32 0, .int .i32 0, .int .i64 0] (D.L k * 3)) 88) = w1 at *
      clear hc' hbl2 mk1 hout hsz
      go_loopw [55] (fun i wi => ∃ j : Nat, j ≤ D.L k ∧ i = .int .i64 j ∧ wi.heap.size = w.heap.size + 1 + k + 1 ∧ OuterE w wi D.nr k D.L D.UX D.UU D.UV ∧ R3 wi (w.heap.size + 1 + k) 88 (D.L k) j (fun j => .int .i32 (D.UX k j)) (fun j => .int .i32 (D.UU k j)) (fun j => .int .i64 (D.UV k j))) (fun i _ => D.L k - (intOf i).toNat)
      case atStart => exact ⟨0, Nat.zero_le _, rfl, hsz1, hout1, hpr⟩
      case round =>
        clear hsz1 hout1 hpr
        obtain ⟨j, hj, rfl, hsz, hout, hpr⟩ := hrel
        by_cases hjl : j < D.L k
        · obtain ⟨ba, oa, ha, hza⟩ := hzk j hjl
          obtain ⟨bx, ox, hax, hxa⟩ := hxk j hjl
          obtain ⟨bb, ob, hae, hea⟩ := hek j hjl
          rw [ha] at hc
          rw [hax] at hc1
          rw [hae] at hc2
          have hc' := hout.keep hc
          have hc1' := hout.keep hc1
          have hc2' := hout.keep hc2
          have hza' := hout.keep hza
          have hxa' := hout.keep hxa
          have hea' := hout.keep hea
          obtain ⟨u0, u1, u2, hu0, hu1, hu2⟩ := hpr.old hjl
          have hf0 := hpr.free (j * 3)
          have hf1 := hpr.free (j * 3 + 1)
          have hf2 := hpr.free (j * 3 + 2)
          have hpr2 := hpr.set hjl
          have hout2 := hout.laid (j := j) (.int .i32 (D.UX k j)) (.int .i32 (D.UU k j)) (.int .i64 (D.UV k j))
          clear ha hax hae hza hxa hea hc hc1 hc2 hzk hxk hek hpr hout
          go_wp2
          go_region
          go_wp2
          go_roundw
          case rel => exact ⟨j + 1, by omega, by go_num, by simpa using hsz, hout2.drew, hpr2.drew⟩
          case measure => simp [intOf]; omega
        · obtain rfl : j = D.L k := by omega
          have hnx := hout.next hlt hpr
          have hct := hout.top.cell hlt
          have hft := hout.top.frozen k
          simp only [Nat.lt_irrefl, if_false] at hct
          clear hc hc1 hc2 hzk hxk hek hpr hout
          go_wp2
          go_roundw
          case rel => exact ⟨k + 1, by omega, by go_num, by simp only [nblk_setCell]; omega, hnx⟩
          case measure => simp [intOf]; omega
    · have hkn : k = D.nr := by omega
      subst hkn
      clear h1 h2 h3 hx hu hv hk
      have hbel : Below w.heap.size w wr := hout.bel
      have hSto : StoN (wr.alloc (.cells #[.pointer none, .slice av D.m cv, .slice (some ⟨w.heap.size, 0, none⟩) D.nr D.nr, .bool true, .slice aw D.m cw, .slice none 0 0, .slice ae D.nr ce] 93)) (w.heap.size + 1 + D.nr) w.heap.size bv bw be av aw ae cv cw ce D (D.NR 0) Es := by
        have hnone : ∀ x, D.NR 0 x = D.L D.p := fun _ => rfl
        refine ⟨?_, ?_, fun r hr => ?_, fun h => ⟨(hvals h).1, ?_⟩, fun h => ⟨(hwris h).1, ?_⟩, fun h => ⟨(hends h).1, ?_⟩⟩
        · rw [← hsz]; exact blk_alloc_new _ _
        · exact (hout.top.congr (fun i hi => by simp [hi])).alloc _
        · exact ((hout.rows r hr).alloc _).congr (fun j _ => ⟨rfl, by rw [ED.none_U hnone], by rw [ED.none_Q hnone]⟩)
        · exact (((hvals h).2.of_block (hbel.block _ (hap.1 h).1)).alloc _).congr (fun j _ => by rw [ED.none_V hnone])
        · exact (((hwris h).2.of_block (hbel.block _ (hap.1 h).2.1)).alloc _).congr (fun j _ => by rw [ED.none_W hnone])
        · exact ((hends h).2.of_block (hbel.block _ hap.2)).alloc _
      have hA : Apart (w.heap.size + 1 + D.nr) w.heap.size bv bw be D.nr D.m := ⟨rfl, fun h => ⟨(hap.1 h).1, (hap.1 h).2.2.1, (hap.1 h).2.2.2.1⟩, fun h => ⟨(hap.1 h).2.1, (hap.1 h).2.2.2.2⟩, hap.2⟩
      have hb0 : Below B w (wr.alloc (.cells #[.pointer none, .slice av D.m cv, .slice (some ⟨w.heap.size, 0, none⟩) D.nr D.nr, .bool true, .slice aw D.m cw, .slice none 0 0, .slice ae D.nr ce] 93)) :=
        (hbel.alloc (by omega) _).mono (by omega)
      clear hvals hwris hends hbel hout
      go_wp2_with fail
      generalize wr.alloc (.cells #[.pointer none, .slice av D.m cv, .slice (some ⟨w.heap.size, 0, none⟩) D.nr D.nr, .bool true, .slice aw D.m cw, .slice none 0 0, .slice ae D.nr ce] 93) = w1 at *
      refine (endRun_any _ _ bv bw be av aw ae cv cw ce D Es _ B hSto hA hf'.out ⟨hB.1, hB.2, by omega⟩ hm hnr hL).mono ?_
      rintro e w2 ⟨rfl, hD, hb⟩
      have hb2 := hb0.trans hb
      have hp : D.p < D.nr := hf'.out.1
      have hDb := lt_of_block hD.box
      clear hSto hb0 hb hlt hsz
      generalize hSS : w.heap.size + 1 + D.nr = S at *
      generalize hUU : w.heap.size = bU at *
      clear hSS hUU
      have f2 : w2.cell? ⟨S, 2, none⟩ = some (.slice (some ⟨bU, 0, none⟩) D.nr D.nr) := cell_blk hD.box 2
      have mk1 := run_make_row' (P := Try.prog) 22 25 (.slice none 0 0) 24 Try.underlying22 info25 rfl .i64 .i64 D.nr (by omega) (by omega)
      have mk2 := run_make_row' (P := Try.prog) 44 43 (.slice none 0 0) 24 Try.underlying44 info43 rfl .i64 .i64 D.nr (by omega) (by omega)
      have r0 := ((World.rowIs_made w2 (.slice none 0 0) D.nr 25).alloc (.cells (madeCells #[.slice none 0 0] D.nr) 25)).alloc (.cells (madeCells #[.slice none 0 0] D.nr) 43)
      have r1 := ((World.rowIs_made (w2.alloc (.cells (madeCells #[.slice none 0 0] D.nr) 25)) (.slice none 0 0) D.nr 25)).alloc (.cells (madeCells #[.slice none 0 0] D.nr) 43)
      have r2 := World.rowIs_made ((w2.alloc (.cells (madeCells #[.slice none 0 0] D.nr) 25)).alloc (.cells (madeCells #[.slice none 0 0] D.nr) 25)) (.slice none 0 0) D.nr 43
      simp only [nblk_alloc] at r1 r2
      have hC : Cols (((w2.alloc (.cells (madeCells #[.slice none 0 0] D.nr) 25)).alloc (.cells (madeCells #[.slice none 0 0] D.nr) 25)).alloc (.cells (madeCells #[.slice none 0 0] D.nr) 43)) w2.heap.size D.nr 0 (fun _ => 0) (nn D) D.UX (D.FU (D.g D.p)) (D.FQ (D.g D.p)) :=
        ⟨r0.congr (fun i _ => by simp), r1.congr (fun i _ => by simp), r2.congr (fun i _ => by simp), fun r hr => absurd hr (by omega)⟩
      have hB4 : Below w2.heap.size w2 (((w2.alloc (.cells (madeCells #[.slice none 0 0] D.nr) 25)).alloc (.cells (madeCells #[.slice none 0 0] D.nr) 25)).alloc (.cells (madeCells #[.slice none 0 0] D.nr) 43)) :=
        (((Below.refl _ _).alloc (Nat.le_refl _) _).alloc (by simp only [nblk_alloc]; omega) _).alloc (by simp only [nblk_alloc]; omega) _
      have hUb : bU < w2.heap.size := hD.outer.lt
      have hDb1 : S < w2.heap.size + 1 := by omega
      have hDb2 : S < w2.heap.size + 1 + 1 := by omega
      clear r0 r1 r2
      go_wp2
      generalize (((w2.alloc (.cells (madeCells #[.slice none 0 0] D.nr) 25)).alloc (.cells (madeCells #[.slice none 0 0] D.nr) 25)).alloc (.cells (madeCells #[.slice none 0 0] D.nr) 43)) = w5 at *
      clear mk1 mk2 f2 hDb1 hDb2
      go_loopw [122] (fun i wr => ∃ k : Nat, k ≤ D.nr ∧ i = .int .i64 k ∧ (∃ R, Cols wr w2.heap.size D.nr k R (nn D) D.UX (D.FU (D.g D.p)) (D.FQ (D.g D.p))) ∧ Below w2.heap.size w2 wr) (fun i _ => D.nr - (intOf i).toNat)
      case atStart => exact ⟨0, Nat.zero_le _, rfl, ⟨_, hC⟩, hB4⟩
      case round =>
        clear hC hB4
        obtain ⟨k, hk, rfl, ⟨R, hC⟩, hbel⟩ := hrel
        obtain ⟨w3, hw3⟩ : ∃ w3, w3 = wr := ⟨_, rfl⟩
        subst hw3
        have hDr := hD.below hbel
        by_cases hlt : k < D.nr
        · have f2 : w3.cell? ⟨S, 2, none⟩ = some (.slice (some ⟨bU, 0, none⟩) D.nr D.nr) := cell_blk hDr.box 2
          have hco : w3.cell? ⟨bU, k, none⟩ = some (.slice (some ⟨bU + 1 + k, 0, none⟩) (nn D k) (D.L k)) := hDr.outer.cell hlt
          have hrl : bU + 1 + k < w2.heap.size := (hD.rows k hlt).lt
          have hnl : nn D k ≤ D.L k := by unfold nn; split <;> omega
          have hLk := hL k hlt
          generalize hnk : nn D k = n at hco hnl
          have HN : Hid (nn D k = n) := hnk
          clear hnk
          have hGb := hC.t2.lt
          have mk1 := run_make_row' (P := Try.prog) 25 21 (.int .i32 0) 4 Try.underlying25 info21 rfl .i64 .i64 n (by omega) (by omega)
          have mk2 := run_make_row' (P := Try.prog) 43 2 (.int .i64 0) 8 Try.underlying43 info2 rfl .i64 .i64 n (by omega) (by omega)
          have r0 := ((World.rowIs_made w3 (.int .i32 0) n 21).alloc (.cells (madeCells #[.int .i32 0] n) 21)).alloc (.cells (madeCells #[.int .i64 0] n) 2)
          have r1 := ((World.rowIs_made (w3.alloc (.cells (madeCells #[.int .i32 0] n) 21)) (.int .i32 0) n 21)).alloc (.cells (madeCells #[.int .i64 0] n) 2)
          have r2 := World.rowIs_made ((w3.alloc (.cells (madeCells #[.int .i32 0] n) 21)).alloc (.cells (madeCells #[.int .i32 0] n) 21)) (.int .i64 0) n 2
          simp only [nblk_alloc] at r1 r2
          have hB4 : Below w3.heap.size w3 (((w3.alloc (.cells (madeCells #[.int .i32 0] n) 21)).alloc (.cells (madeCells #[.int .i32 0] n) 21)).alloc (.cells (madeCells #[.int .i64 0] n) 2)) :=
            (((Below.refl _ _).alloc (Nat.le_refl _) _).alloc (by simp only [nblk_alloc]; omega) _).alloc (by simp only [nblk_alloc]; omega) _
          have hSb : S < w3.heap.size := by omega
          have hSb1 : S < w3.heap.size + 1 := by omega
          have hSb2 : S < w3.heap.size + 1 + 1 := by omega
          have p0 : Part (((w3.alloc (.cells (madeCells #[.int .i32 0] n) 21)).alloc (.cells (madeCells #[.int .i32 0] n) 21)).alloc (.cells (madeCells #[.int .i64 0] n) 2)) w3.heap.size 21 n 0 (fun j => .int .i32 (D.UX k j)) (.int .i32 0) := r0.congr (fun i _ => by simp)
          have p1 : Part (((w3.alloc (.cells (madeCells #[.int .i32 0] n) 21)).alloc (.cells (madeCells #[.int .i32 0] n) 21)).alloc (.cells (madeCells #[.int .i64 0] n) 2)) (w3.heap.size + 1) 21 n 0 (fun j => .int .i32 (D.FU (D.g D.p) k j)) (.int .i32 0) := r1.congr (fun i _ => by simp)
          have p2 : Part (((w3.alloc (.cells (madeCells #[.int .i32 0] n) 21)).alloc (.cells (madeCells #[.int .i32 0] n) 21)).alloc (.cells (madeCells #[.int .i64 0] n) 2)) (w3.heap.size + 1 + 1) 2 n 0 (fun j => .int .i64 (D.FQ (D.g D.p) k j)) (.int .i64 0) := r2.congr (fun i _ => by simp)
          clear r0 r1 r2
          go_wp2
          generalize (((w3.alloc (.cells (madeCells #[.int .i32 0] n) 21)).alloc (.cells (madeCells #[.int .i32 0] n) 21)).alloc (.cells (madeCells #[.int .i64 0] n) 2)) = w6 at *
          clear mk1 mk2 f2 hco hSb1 hSb2
          go_loopw [35] (fun i wi => ∃ j : Nat, j ≤ n ∧ i = .int .i64 j ∧ Part wi w3.heap.size 21 n j (fun j => .int .i32 (D.UX k j)) (.int .i32 0) ∧ Part wi (w3.heap.size + 1) 21 n j (fun j => .int .i32 (D.FU (D.g D.p) k j)) (.int .i32 0) ∧
            Part wi (w3.heap.size + 1 + 1) 2 n j (fun j => .int .i64 (D.FQ (D.g D.p) k j)) (.int .i64 0) ∧ Below w3.heap.size w3 wi) (fun i _ => n - (intOf i).toNat)
          case atStart => exact ⟨0, Nat.zero_le _, rfl, p0, p1, p2, hB4⟩
          case round =>
            clear p0 p1 p2 hB4
            obtain ⟨j, hj, rfl, p0, p1, p2, hbi⟩ := hrel
            by_cases hjn : j < n
            · have hDi := hDr.below hbi
              have f2 : wr.cell? ⟨S, 2, none⟩ = some (.slice (some ⟨bU, 0, none⟩) D.nr D.nr) := cell_blk hDi.box 2
              have hco : wr.cell? ⟨bU, k, none⟩ = some (.slice (some ⟨bU + 1 + k, 0, none⟩) n (D.L k)) := by rw [← HN.out]; exact hDi.outer.cell hlt
              obtain ⟨s0, s1, s2⟩ := (hDi.rows k hlt).cells (j := j) (by omega)
              have q0 := World.rowIs.cell p0 hjn
              have q1 := World.rowIs.cell p1 hjn
              have q2 := World.rowIs.cell p2 hjn
              have g0 := World.rowIs.frozen p0 j
              have g1 := World.rowIs.frozen p1 j
              have g2 := World.rowIs.frozen p2 j
              have z0 : Hid (Part (((wr.setCell ⟨w3.heap.size, j, none⟩ (.int .i32 (D.UX k j))).setCell ⟨w3.heap.size + 1, j, none⟩ (.int .i32 (D.FU (D.g D.p) k j))).setCell ⟨w3.heap.size + 1 + 1, j, none⟩ (.int .i64 (D.FQ (D.g D.p) k j))) w3.heap.size 21 n (j + 1) (fun j => .int .i32 (D.UX k j)) (.int .i32 0)) :=
                ((row_step p0).setOther (by simp) _).setOther (by simp; omega) _
              have z1 : Hid (Part (((wr.setCell ⟨w3.heap.size, j, none⟩ (.int .i32 (D.UX k j))).setCell ⟨w3.heap.size + 1, j, none⟩ (.int .i32 (D.FU (D.g D.p) k j))).setCell ⟨w3.heap.size + 1 + 1, j, none⟩ (.int .i64 (D.FQ (D.g D.p) k j))) (w3.heap.size + 1) 21 n (j + 1) (fun j => .int .i32 (D.FU (D.g D.p) k j)) (.int .i32 0)) :=
                (row_step (World.rowIs.setOther p1 (by simp) _)).setOther (by simp) _
              have z2 : Hid (Part (((wr.setCell ⟨w3.heap.size, j, none⟩ (.int .i32 (D.UX k j))).setCell ⟨w3.heap.size + 1, j, none⟩ (.int .i32 (D.FU (D.g D.p) k j))).setCell ⟨w3.heap.size + 1 + 1, j, none⟩ (.int .i64 (D.FQ (D.g D.p) k j))) (w3.heap.size + 1 + 1) 2 n (j + 1) (fun j => .int .i64 (D.FQ (D.g D.p) k j)) (.int .i64 0)) :=
                row_step ((World.rowIs.setOther p2 (by simp; omega) _).setOther (by simp) _)
              have zb := ((hbi.setCell (p := ⟨w3.heap.size, j, none⟩) (Nat.le_refl _) (.int .i32 (D.UX k j))).setCell (p := ⟨w3.heap.size + 1, j, none⟩) (by simp) (.int .i32 (D.FU (D.g D.p) k j))).setCell (p := ⟨w3.heap.size + 1 + 1, j, none⟩) (by simp; omega) (.int .i64 (D.FQ (D.g D.p) k j))
              have hbk : bU + 1 + k < w3.heap.size := by omega
              have hbu : bU < w3.heap.size := by omega
              simp only [Nat.lt_irrefl, if_false] at q0 q1 q2
              clear p0 p1 p2 hDi hbi hDr hC
              go_wp2
              go_roundw
              case rel => exact ⟨j + 1, by omega, by go_num, z0.out, z1.out, z2.out, zb⟩
              case measure => simp [intOf]; omega
            · obtain rfl : j = n := by omega
              have q0 : wr.rowIs w3.heap.size 21 (nn D k) (fun j => .int .i32 (D.UX k j)) := by rw [HN.out]; exact World.rowIs.congr p0 (fun i hi => by simp [hi])
              have q1 : wr.rowIs (w3.heap.size + 1) 21 (nn D k) (fun j => .int .i32 (D.FU (D.g D.p) k j)) := by rw [HN.out]; exact World.rowIs.congr p1 (fun i hi => by simp [hi])
              have q2 : wr.rowIs (w3.heap.size + 1 + 1) 2 (nn D k) (fun j => .int .i64 (D.FQ (D.g D.p) k j)) := by rw [HN.out]; exact World.rowIs.congr p2 (fun i hi => by simp [hi])
              have hCN := hC.next hlt rfl hbi q0 q1 q2
              rw [HN.out] at hCN
              have hC' := hC.of_below hbi
              have t0 := hC'.t0.cell hlt
              have t1 := hC'.t1.cell hlt
              have t2 := hC'.t2.cell hlt
              have g0 := hC'.t0.frozen k
              have g1 := hC'.t1.frozen k
              have g2 := hC'.t2.frozen k
              simp only [Nat.lt_irrefl, if_false] at t0 t1 t2
              have hbw := ((((hbel.trans (hbi.mono (by omega))).setCell (p := ⟨w2.heap.size, k, none⟩) (Nat.le_refl _) (.slice (some ⟨w3.heap.size, 0, none⟩) j j)).setCell (p := ⟨w2.heap.size + 1, k, none⟩) (by simp) (.slice (some ⟨w3.heap.size + 1, 0, none⟩) j j)).setCell (p := ⟨w2.heap.size + 1 + 1, k, none⟩) (by simp; omega) (.slice (some ⟨w3.heap.size + 1 + 1, 0, none⟩) j j))
              have HCN : Hid _ := hCN
              clear p0 p1 p2 q0 q1 q2 hC hC' hbi hDr hCN hbel
              go_wp2
              go_roundw
              case rel => exact ⟨k + 1, by omega, by go_num, ⟨_, HCN.out⟩, hbw⟩
              case measure => simp [intOf]; omega
        · have hkn : k = D.nr := by omega
          subst hkn
          have f1 : w3.cell? ⟨S, 1, none⟩ = some (.slice av D.m cv) := cell_blk hDr.box 1
          have f4 : w3.cell? ⟨S, 4, none⟩ = some (.slice aw D.m cw) := cell_blk hDr.box 4
          have f6 : w3.cell? ⟨S, 6, none⟩ = some (.slice ae D.nr ce) := cell_blk hDr.box 6
          have hfin : Hid (Below B w w3) := hb2.trans (hbel.mono (by have := hb2.size; omega))
          clear hk
          go_wp2
          go_quiet (fail)
          go_wp2
          refine bodyPost_ret (v := .tuple #[.slice av D.m cv, .slice (some ⟨w2.heap.size, 0, none⟩) D.nr D.nr, .slice (some ⟨w2.heap.size + 1, 0, none⟩) D.nr D.nr, .slice (some ⟨w2.heap.size + 1 + 1, 0, none⟩) D.nr D.nr, .slice aw D.m cw, .slice ae D.nr ce]) (by simp [results, Try.results25, go_sem]) rfl ?_
          exact ⟨⟨_, R, _, _, rfl, hC.of_below (below_same (Below.refl _ _) rfl rfl rfl rfl), hDr.same rfl⟩, below_same hfin.out rfl rfl rfl rfl⟩
end Go.Proofs.Qxb6620996a
