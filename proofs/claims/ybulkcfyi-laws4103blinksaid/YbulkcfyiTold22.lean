/-
  pathTold of a link (kind 22) under the one sweep of one stretch without runs.
-/
import Derived.Test.YbulkcfyiAdd
import Derived.Test.YbulkcfyiDrop
import Derived.Deep.Cut
import Derived.Deep.CutRange
namespace Go.Proofs.Ybulkcfyi
open Go.RowKit Go.Stop
attribute [local go_sem ↓] Go.wp_at_zero Go.wp_at_succ

/-- What a link leaves. -/
def Told22 (w w' : World) (nb sb tb : Nat) (un' : Int) (way : Bool) (st en : Int) (p : Int × Int) : Prop :=
  (way = false ∧ w'.cell? ⟨sb, 3, none⟩ = some (.int .u64 un') ∧ (∀ a : Addr, a.block < w.heap.size → a ≠ ⟨sb, 3, none⟩ → w'.cell? a = w.cell? a) ∧ Turned [nb, sb, tb] w w') ∨
  (way = true ∧ p ≠ (st, en) ∧ w'.cell? ⟨sb, 3, none⟩ = some (.int .u64 un') ∧ (∃ g cap, w'.cell? ⟨tb, 2, none⟩ = some (.slice (some ⟨g, 0, none⟩) 1 cap) ∧ PcAt w' (.slice (some ⟨g, 0, none⟩) 1 cap) [p]) ∧
    (∀ a : Addr, a.block < w.heap.size → a ≠ ⟨sb, 3, none⟩ → a ≠ ⟨tb, 2, none⟩ → w'.cell? a = w.cell? a) ∧ Turned [nb, sb, tb] w w') ∨
  (way = true ∧ p = (st, en) ∧ w'.cell? ⟨nb, 73, none⟩ = some (.slice (some ⟨sb, 0, none⟩) 0 1) ∧ Turned [nb, sb, tb] w w')

set_option maxHeartbeats 20000000 in
set_option maxRecDepth 100000 in
theorem told22 (nb sb tb cb P0 : Nat) (sd at' tg un : Int) (st en i1 : Int) (fr tt sj sr now tmo : Int) (p : Option Addr) (n c : Nat) (w : World)
    (S : SwN w nb sb tb 1 sd at' tg un ⟨P0, 0, none⟩ 2 2 (fun _ => st) (fun _ => en) (fun _ => .slice none 0 0) (fun _ => .slice none 0 0))
    (hrow : w.heap[sb]? = some (.cells #[.int .i64 sd, .int .u64 at', .int .u64 tg, .int .u64 un, .slice (some ⟨P0, 0, none⟩) 2 2, .slice (some ⟨tb, 0, none⟩) 1 1] 49))
    (p1 : w.cell? ⟨P0, 1, none⟩ = some (.int .u64 i1)) (n6 : w.cell? ⟨nb, 6, none⟩ = some (.slice none 0 0))
    (hn : nb < w.heap.size) (hs : sb < w.heap.size) (ht : tb < w.heap.size) (hcb : cb < w.heap.size) (hP : P0 < w.heap.size)
    (c5 : w.cell? ⟨nb, 5, none⟩ = some (.iface 27 (.pointer (some ⟨cb, 0, none⟩)))) (c2 : w.cell? ⟨nb, 2, none⟩ = some (.int .u64 tmo)) (cc : w.cell? ⟨cb, 0, none⟩ = some (.int .u64 now))
    (hst : sb ≠ tb) (hns : nb ≠ sb) (hnt : nb ≠ tb) (hPs : P0 ≠ sb) (hPt : P0 ≠ tb)
    (hins : Hid (Ins st en fr sj)) :
    Calls Yba.prog 8 #[.pointer (some ⟨nb, 0, none⟩), .agg #[.int .u8 22, .int .u64 fr, .int .u64 tt, .slice p n c, .int .u64 sj, .int .u64 tg, .int .u64 sr]] w fun e w' => e = .returned (.tuple #[]) ∧ Told22 w w' nb sb tb (later un now tmo) (decide (far st sj < far st fr) == (sd == 1)) st en (pieceOf (far st fr) (far st sj) fr sj) := by
  obtain ⟨B1, hB1⟩ : ∃ B1, B1 = Below.alloc (Below.refl w.heap.size w) (Nat.le_refl _) (.cells #[.int .u8 22, .int .u64 fr, .int .u64 tt, .slice p n c, .int .u64 sj, .int .u64 tg, .int .u64 sr] 67) := ⟨_, rfl⟩
  have S1 := S.later B1 hn hs ht
  have n73 := S.n73
  have HK : Hid (w.heap[sb]? = some (.cells #[.int .i64 sd, .int .u64 at', .int .u64 tg, .int .u64 un, .slice (some ⟨P0, 0, none⟩) 2 2, .slice (some ⟨tb, 0, none⟩) 1 1] 49) ∧ w.cell? ⟨P0, 1, none⟩ = some (.int .u64 i1) ∧ w.cell? ⟨nb, 6, none⟩ = some (.slice none 0 0) ∧ SwN w nb sb tb 1 sd at' tg un ⟨P0, 0, none⟩ 2 2 (fun _ => st) (fun _ => en) (fun _ => .slice none 0 0) (fun _ => .slice none 0 0)) := ⟨hrow, p1, n6, S⟩
  clear hB1 hrow p1 n6
  go_enter Yba.func8, Yba.ntmps8
  go_wp2_with fail
  refine (idx_hit sb w.heap.size sd at' tg un tg ⟨P0, 0, none⟩ ⟨tb, 0, none⟩ 2 2 1 1 _ S1.s0 S1.s1 S1.s2 S1.s3 S1.s4 S1.s5 (by go_simp) (by simp) (by simp)).mono ?_
  rintro e wr ⟨rfl, hb1⟩
  have B2 : Below w.heap.size w wr := B1.trans (hb1.mono (by simp))
  have S2 := S.later B2 hn hs ht
  have n73' := S2.n73
  have s0 := S2.s0
  have s3 := S2.s3
  have f3 := S2.f3
  have s5 := S2.s5
  have t0 : wr.cell? ⟨tb, 0, none⟩ = some (.int .u64 st) := by simpa using S2.t0 0 (by decide)
  have t1 : wr.cell? ⟨tb, 1, none⟩ = some (.int .u64 en) := by simpa using S2.t1 0 (by decide)
  have k0 : wr.cell? ⟨w.heap.size, 0, none⟩ = some (.int .u8 22) := (hb1.cell (p := ⟨w.heap.size, 0, none⟩) (by simp)).trans (by go_simp)
  have k1 : wr.cell? ⟨w.heap.size, 1, none⟩ = some (.int .u64 fr) := (hb1.cell (p := ⟨w.heap.size, 1, none⟩) (by simp)).trans (by go_simp)
  have k4 : wr.cell? ⟨w.heap.size, 4, none⟩ = some (.int .u64 sj) := (hb1.cell (p := ⟨w.heap.size, 4, none⟩) (by simp)).trans (by go_simp)
  have hw1 : w.heap.size < wr.heap.size := World.block_lt_of_cell? _ _ k1
  have v5 := (B2.cell (p := ⟨nb, 5, none⟩) hn).trans c5
  have v2 := (B2.cell (p := ⟨nb, 2, none⟩) hn).trans c2
  have vc := (B2.cell (p := ⟨cb, 0, none⟩) hcb).trans cc
  have HB : Hid (Below w.heap.size w wr ∧ SwN wr nb sb tb 1 sd at' tg un ⟨P0, 0, none⟩ 2 2 (fun _ => st) (fun _ => en) (fun _ => .slice none 0 0) (fun _ => .slice none 0 0)) := ⟨B2, S2⟩
  clear n73 S S1 B1 B2 hb1 S2 c5 c2 cc
  go_wp2_with fail
  refine wp_loop_rounds 1 ?_
  rw [rounds_succ]
  go_wp2_with fail
  go_quiet ((go_at_call 24; exact Calls.quiet_of_same (cw_far _ _ _)))
  have hin' : far st fr ≠ far st sj ∧ far st fr ≤ far st en ∧ far st sj ≤ far st en := hins.out
  clear hins
  generalize hef : far st fr = f at *
  generalize het : far st sj = t at *
  generalize far st en = wh at *
  have HFT : Hid (far st fr = f ∧ far st sj = t) := ⟨hef, het⟩
  clear hef het t0 t1 s5 n73'
  have nA := nilAheadB
  have mB := methodB
  rcases Int.lt_or_gt_of_ne hin'.1 with h1 | h1
  · have hft : (f == t) = false := beq_eq_false_iff_ne.2 (by omega)
    have hdec : decide (t < f) = false := decide_eq_false (by omega)
    have hwh : t ≤ wh := hin'.2.2
    clear hin'
    go_wp2_with fail
    go_cut [8] from 33 to 144 (fun x wx => x = .int .u64 f ∧ wx = (wr.drewN (nq + 1)).setCell ⟨sb, 3, none⟩ (.int .u64 (later un now tmo)))
    case first =>
      go_region_with (first | (go_at_call 88; refine (nowB_any cb now _ ?_).mono ?_; exact vc; rintro e w' ⟨rfl, rfl⟩) | (go_at_call 25; refine (wait_any nb tmo _ ?_).mono ?_; exact v2; rintro e w' ⟨rfl, rfl⟩))
      all_goals (try go_wp2_with fail)
      all_goals go_meet
      all_goals first
        | exact ⟨rfl, rfl⟩
        | (refine ⟨rfl, ?_⟩; unfold later; rw [if_pos (by omega)])
        | (refine ⟨rfl, ?_⟩; unfold later; rw [if_neg (by omega)])
    case rest =>
      obtain ⟨rfl, hwc⟩ := hcut
      have cellc : ∀ a : Addr, a ≠ ⟨sb, 3, none⟩ → wc.cell? a = wr.cell? a := fun a ha => by
        rw [hwc, World.cell?_setCell_other _ _ _ _ (Ne.symm ha)]
        simp
      have tcw : Turned [sb] wr wc := by rw [hwc]; exact ((Turned.of_below (below_drewN (Below.refl _ wr) (nq + 1))).setCell _ (.inr (by simp)) _)
      have x0 : wc.cell? ⟨w.heap.size, 0, none⟩ = some (.int .u8 22) := (cellc _ (by intro h; have := congrArg Addr.block h; simp at this; omega)).trans k0
      have x1 : wc.cell? ⟨w.heap.size, 1, none⟩ = some (.int .u64 fr) := (cellc _ (by intro h; have := congrArg Addr.block h; simp at this; omega)).trans k1
      have x4 : wc.cell? ⟨w.heap.size, 4, none⟩ = some (.int .u64 sj) := (cellc _ (by intro h; have := congrArg Addr.block h; simp at this; omega)).trans k4
      have xs0 : wc.cell? ⟨sb, 0, none⟩ = some (.int .i64 sd) := (cellc _ (by simp)).trans s0
      have xu : wc.cell? ⟨sb, 3, none⟩ = some (.int .u64 (later un now tmo)) := by rw [hwc]; exact World.cell?_setCell_same _ _ _ (by simpa using s3)
      have hwz : w.heap.size < wc.heap.size := World.block_lt_of_cell? _ _ x0
      have rowc : wc.heap[sb]? = some (.cells #[.int .i64 sd, .int .u64 at', .int .u64 tg, .int .u64 (later un now tmo), .slice (some ⟨P0, 0, none⟩) 2 2, .slice (some ⟨tb, 0, none⟩) 1 1] 49) := by
        have hr := (HB.out.1.block sb hs).trans HK.out.1
        rw [hwc]
        simp [World.setCell, Array.getElem?_modify, hr]
      have Tc : Turned [nb, sb, tb] w wc := (Turned.of_below HB.out.1).trans (tcw.mono (by simp))
      have oldc : ∀ a : Addr, a.block < w.heap.size → a ≠ ⟨sb, 3, none⟩ → wc.cell? a = w.cell? a := fun a ha hne => (cellc a hne).trans (HB.out.1.cell ha)
      have frz : ∀ a : Addr, a.block < w.heap.size → a.block ≠ sb → wc.frozen? a = w.frozen? a := fun a ha hne => (tcw.frozen (Nat.lt_of_lt_of_le ha HB.out.1.size) (by simpa using hne)).trans (HB.out.1.frozen ha)
      have HZ : Hid (Turned [nb, sb, tb] w wc ∧ (∀ a : Addr, a.block < w.heap.size → a ≠ ⟨sb, 3, none⟩ → wc.cell? a = w.cell? a) ∧ (∀ a : Addr, a.block < w.heap.size → a.block ≠ sb → wc.frozen? a = w.frozen? a) ∧ wc.cell? ⟨sb, 3, none⟩ = some (.int .u64 (later un now tmo)) ∧ wc.heap[sb]? = some (.cells #[.int .i64 sd, .int .u64 at', .int .u64 tg, .int .u64 (later un now tmo), .slice (some ⟨P0, 0, none⟩) 2 2, .slice (some ⟨tb, 0, none⟩) 1 1] 49)) := ⟨Tc, oldc, frz, xu, rowc⟩
      have hsw : sb < wc.heap.size := by omega
      have htw : tb < wc.heap.size := by omega
      have hnw : nb < wc.heap.size := by omega
      have hpc : pieceOf (far st fr) (far st sj) fr sj = (fr, sj) := by rw [HFT.out.1, HFT.out.2]; unfold pieceOf; exact if_neg (by omega)
      have HPC : Hid (pieceOf (far st fr) (far st sj) fr sj = (fr, sj)) := hpc
      have hway : (decide (far st sj < far st fr) == (sd == 1)) = (!(sd == 1)) := by rw [HFT.out.1, HFT.out.2]; (have h2 : ¬ t < f := (by omega); simp [h2])
      have HWAY : Hid ((decide (far st sj < far st fr) == (sd == 1)) = (!(sd == 1))) := hway
      clear xu Tc cellc hwc k0 k1 k4 s3 f3 s0 v5 v2 vc nA mB hpc hway tcw rowc oldc frz
      by_cases hback : (sd == 1) = false
      · -- the link runs the sweep's way
        go_wp2_with fail
        have bk := back_any sb sd (wc.alloc (.cells #[.int .u64 fr, .int .u64 sj] 44)) (cell?_alloc_old _ xs0)
        rw [hback] at bk
        refine bk.mono ?_
        clear bk
        rintro e w' ⟨rfl, rfl⟩
        go_wp2_with fail
        obtain ⟨z1, z2, z3, z4, z5⟩ := HZ.out
        have u0 : wc.cell? ⟨tb, 0, none⟩ = some (.int .u64 st) := (z2 ⟨tb, 0, none⟩ ht (by intro h; have := congrArg Addr.block h; simp at this; omega)).trans (by simpa using HK.out.2.2.2.t0 0 (by decide))
        have u2 : wc.cell? ⟨tb, 0 + 2, none⟩ = some (.slice none 0 0) := (z2 ⟨tb, 2, none⟩ ht (by intro h; have := congrArg Addr.block h; simp at this; omega)).trans (by simpa using HK.out.2.2.2.t2 0 (by decide))
        have uf : wc.frozen? ⟨tb, 0 + 2, none⟩ = false := (z3 ⟨tb, 2, none⟩ ht (Ne.symm hst)).trans (HK.out.2.2.2.ft 2)
        refine (add_nil tb 0 st fr sj _ (cell?_alloc_old _ u0) (cell?_alloc_old _ u2) ((World.frozen?_alloc_old _ _ _ (by simp; omega)).trans uf)).mono ?_
        rintro e w6 ⟨rfl, ⟨g, cap, a1, a2, a3⟩, a4, a5⟩
        have old6 : ∀ a : Addr, a.block < wc.heap.size → a ≠ ⟨tb, 0 + 2, none⟩ → w6.cell? a = wc.cell? a := fun a ha hne => (a4 a (by simp; omega) hne).trans (World.cell?_alloc_lt _ _ _ ha)
        have fro6 : ∀ a : Addr, a.block < wc.heap.size → a.block ≠ tb → w6.frozen? a = wc.frozen? a := fun a ha hne => (a5.frozen (by simp; omega) (by simpa using hne)).trans (World.frozen?_alloc_old _ _ _ (by simp; omega))
        have row6 : w6.heap[sb]? = wc.heap[sb]? := (a5.block sb (by simp; omega) (by simpa using hst)).trans (Below.heap_alloc _ _ _ hsw)
        have t6 : Turned [nb, sb, tb] w w6 := z1.trans (((Turned.refl [nb, sb, tb] wc).alloc _).trans (a5.mono (by simp)))
        obtain ⟨pg0, pg1⟩ : w6.cell? ⟨g, 0, none⟩ = some (.int .u64 fr) ∧ w6.cell? ⟨g, 1, none⟩ = some (.int .u64 sj) := by
          rcases a2 with ⟨h, _⟩ | ⟨g', cap', e, hg, hc⟩
          · cases h
          · simp only [Value.slice.injEq, Option.some.injEq, Addr.mk.injEq] at e
            obtain ⟨⟨rfl, _, _⟩, _, rfl⟩ := e
            exact ⟨by simpa using (hc 0 (by simp)).1, by simpa using (hc 0 (by simp)).2⟩
        have y73 : w6.cell? ⟨nb, 73, none⟩ = some (.slice (some ⟨sb, 0, none⟩) 1 1) := (old6 ⟨nb, 73, none⟩ hnw (by intro h; have := congrArg Addr.block h; simp at this; omega)).trans ((z2 ⟨nb, 73, none⟩ hn (by intro h; have := congrArg Addr.block h; simp at this; omega)).trans HK.out.2.2.2.n73)
        have yf : w6.frozen? ⟨nb, 73, none⟩ = false := (fro6 ⟨nb, 73, none⟩ hnw hnt).trans ((z3 ⟨nb, 73, none⟩ hn hns).trans HK.out.2.2.2.fn)
        have y6 : w6.cell? ⟨nb, 6, none⟩ = some (.slice none 0 0) := (old6 ⟨nb, 6, none⟩ hnw (by intro h; have := congrArg Addr.block h; simp at this; omega)).trans ((z2 ⟨nb, 6, none⟩ hn (by intro h; have := congrArg Addr.block h; simp at this; omega)).trans HK.out.2.2.1)
        have yp : w6.cell? ⟨P0, 1, none⟩ = some (.int .u64 i1) := (old6 ⟨P0, 1, none⟩ (show P0 < wc.heap.size by omega) (by intro h; have := congrArg Addr.block h; simp at this; omega)).trans ((z2 ⟨P0, 1, none⟩ hP (by intro h; have := congrArg Addr.block h; simp at this; omega)).trans HK.out.2.1)
        have y5 : w6.cell? ⟨sb, 5, none⟩ = some (.slice (some ⟨tb, 0, none⟩) 1 1) := (old6 ⟨sb, 5, none⟩ hsw (by intro h; have := congrArg Addr.block h; simp at this; omega)).trans ((z2 ⟨sb, 5, none⟩ hs (by simp)).trans HK.out.2.2.2.s5)
        have yu : w6.cell? ⟨sb, 3, none⟩ = some (.int .u64 (later un now tmo)) := (old6 ⟨sb, 3, none⟩ hsw (by intro h; have := congrArg Addr.block h; simp at this; omega)).trans z4
        have yt0 : w6.cell? ⟨tb, 0, none⟩ = some (.int .u64 st) := (old6 ⟨tb, 0, none⟩ htw (by simp)).trans u0
        have yt1 : w6.cell? ⟨tb, 1, none⟩ = some (.int .u64 en) := (old6 ⟨tb, 1, none⟩ htw (by simp)).trans ((z2 ⟨tb, 1, none⟩ ht (by intro h; have := congrArg Addr.block h; simp at this; omega)).trans (by simpa using HK.out.2.2.2.t1 0 (by decide)))
        have yt3 : w6.cell? ⟨tb, 3, none⟩ = some (.slice none 0 0) := (old6 ⟨tb, 3, none⟩ htw (by simp)).trans ((z2 ⟨tb, 3, none⟩ ht (by intro h; have := congrArg Addr.block h; simp at this; omega)).trans (by simpa using HK.out.2.2.2.t3 0 (by decide)))
        have yt4 : w6.cell? ⟨tb, 4, none⟩ = some (.map none) := (old6 ⟨tb, 4, none⟩ htw (by simp)).trans ((z2 ⟨tb, 4, none⟩ ht (by intro h; have := congrArg Addr.block h; simp at this; omega)).trans (by simpa using HK.out.2.2.2.t4 0 (by decide)))
        have yt2 : w6.cell? ⟨tb, 2, none⟩ = some (.slice (some ⟨g, 0, none⟩) 1 cap) := a1
        have all6 : ∀ a : Addr, a.block < w.heap.size → a ≠ ⟨sb, 3, none⟩ → a ≠ ⟨tb, 2, none⟩ → w6.cell? a = w.cell? a := fun a ha h1 h2 => (old6 a (Nat.lt_trans ha hwz) h2).trans (z2 a ha h1)
        have rr := row6.trans z5
        have H6 : Hid (Turned [nb, sb, tb] w w6 ∧ (∀ a : Addr, a.block < w.heap.size → a ≠ ⟨sb, 3, none⟩ → a ≠ ⟨tb, 2, none⟩ → w6.cell? a = w.cell? a) ∧ PcAt w6 (.slice (some ⟨g, 0, none⟩) 1 cap) [(fr, sj)] ∧ w6.cell? ⟨sb, 3, none⟩ = some (.int .u64 (later un now tmo)) ∧ w6.cell? ⟨tb, 2, none⟩ = some (.slice (some ⟨g, 0, none⟩) 1 cap)) := ⟨t6, all6, a2, yu, yt2⟩
        have hz6 : wc.heap.size + 1 ≤ w6.heap.size := by have := a5.size; simpa using this
        have hgz : g < w6.heap.size := World.block_lt_of_cell? _ _ pg0
        have hW : (decide (far st sj < far st fr) == (sd == 1)) = true := HWAY.out.trans (by simp [hback])
        have HWT : Hid ((decide (far st sj < far st fr) == (sd == 1)) = true) := hW
        clear hW x0 x1 x4 xs0 z1 z2 z3 z4 z5 u0 u2 uf a1 a2 a3 a4 a5 old6 fro6 row6 t6 all6
        by_cases hwhole : fr = st ∧ sj = en
        · obtain ⟨hw1', hw2'⟩ := hwhole
          have HWH : Hid ((fr, sj) = (st, en)) := by rw [hw1', hw2']; exact rfl
          have dy := drop_yes nb sb tb g cap P0 st en i1 _ _ _ _ _ w6 y73 yf y6 rr yp yt0 yt1 yt2 yt3 yt4 (by rw [← hw1']; exact pg0) (by rw [← hw2']; exact pg1) ⟨_, _, _, rfl⟩ hns
          have HDY : Hid (Calls Yba.prog 29 #[.pointer (some ⟨nb, 0, none⟩), .int .i64 0] w6 fun e w' => e = .returned (.tuple #[]) ∧ w'.cell? ⟨nb, 73, none⟩ = some (.slice (some ⟨sb, 0, none⟩) 0 1) ∧ Turned [nb, sb] w6 w') := dy
          clear dy y73 yf y6 rr yp yt0 yt1 yt2 yt3 yt4 pg0 pg1 y5 yu hw1' hw2'
          go_wp2_with fail
          refine HDY.out.mono ?_
          rintro e w8 ⟨rfl, d1, d2⟩
          go_wp2
          (try simp only [Exit.inBlock, Exit.then])
          refine bodyPost_ret (results_none rfl _ _ _) rfl ?_
          exact ⟨rfl, .inr (.inr ⟨HWT.out, by rw [HPC.out]; exact HWH.out, d1, H6.out.1.trans (d2.mono (by simp))⟩)⟩
        · have HWH : Hid (¬ (fr = st ∧ sj = en)) := hwhole
          have dn := drop_no nb sb tb g cap st en fr sj _ w6 y73 y5 yt0 yt1 yt2 yt3 yt4 pg0 pg1 ⟨_, _, _, rfl⟩ hwhole
          have HDN : Hid (Calls Yba.prog 29 #[.pointer (some ⟨nb, 0, none⟩), .int .i64 0] w6 fun e w' => e = .returned (.tuple #[]) ∧ Below w6.heap.size w6 w') := dn
          clear dn y73 yf y6 rr yp yt0 yt1 yt2 yt3 yt4 pg0 pg1 y5 yu hwhole
          go_wp2_with fail
          refine HDN.out.mono ?_
          rintro e w8 ⟨rfl, d2⟩
          go_wp2
          (try simp only [Exit.inBlock, Exit.then])
          refine bodyPost_ret (results_none rfl _ _ _) rfl ?_
          obtain ⟨o1, o2, o3, o4, o5⟩ := H6.out
          refine ⟨rfl, .inr (.inl ⟨HWT.out, ?_, (d2.cell (p := ⟨sb, 3, none⟩) (show sb < w6.heap.size by omega)).trans o4, ⟨g, cap, (d2.cell (p := ⟨tb, 2, none⟩) (show tb < w6.heap.size by omega)).trans o5, ?_⟩, fun a ha h1 h2 => (d2.cell (p := a) (by omega)).trans (o2 a ha h1 h2), o1.trans (Turned.of_below d2)⟩)⟩
          · rw [HPC.out]
            intro h
            exact HWH.out ⟨congrArg Prod.fst h, congrArg Prod.snd h⟩
          · rw [HPC.out]
            exact o3.below d2
      · have hback' : (sd == 1) = true := by cases h : (sd == 1) <;> simp_all
        go_wp2_with fail
        have bk := back_any sb sd (wc.alloc (.cells #[.int .u64 fr, .int .u64 sj] 44)) (cell?_alloc_old _ xs0)
        rw [hback'] at bk
        refine bk.mono ?_
        clear bk
        rintro e w' ⟨rfl, rfl⟩
        have hW : (decide (far st sj < far st fr) == (sd == 1)) = false := HWAY.out.trans (by simp [hback'])
        have HWT : Hid ((decide (far st sj < far st fr) == (sd == 1)) = false) := hW
        clear hW x0 x1 x4 xs0
        go_wp2
        (try simp only [Exit.inBlock, Exit.then])
        refine bodyPost_ret (results_none rfl _ _ _) rfl ?_
        obtain ⟨z1, z2, z3, z4, z5⟩ := HZ.out
        exact ⟨rfl, .inl ⟨HWT.out, cell?_alloc_old _ z4, fun a ha hne => (World.cell?_alloc_lt _ _ _ (Nat.lt_trans ha hwz)).trans (z2 a ha hne), z1.alloc _⟩⟩
  · have hft : (t == f) = false := beq_eq_false_iff_ne.2 (by omega)
    have hdec : decide (t < f) = true := decide_eq_true h1
    have hwh : f ≤ wh := hin'.2.1
    clear hin'
    go_wp2_with fail
    go_cut [8] from 33 to 144 (fun x wx => x = .int .u64 f ∧ wx = (wr.drewN (nq + 1)).setCell ⟨sb, 3, none⟩ (.int .u64 (later un now tmo)))
    case first =>
      go_region_with (first | (go_at_call 88; refine (nowB_any cb now _ ?_).mono ?_; exact vc; rintro e w' ⟨rfl, rfl⟩) | (go_at_call 25; refine (wait_any nb tmo _ ?_).mono ?_; exact v2; rintro e w' ⟨rfl, rfl⟩))
      all_goals (try go_wp2_with fail)
      all_goals go_meet
      all_goals first
        | exact ⟨rfl, rfl⟩
        | (refine ⟨rfl, ?_⟩; unfold later; rw [if_pos (by omega)])
        | (refine ⟨rfl, ?_⟩; unfold later; rw [if_neg (by omega)])
    case rest =>
      obtain ⟨rfl, hwc⟩ := hcut
      have cellc : ∀ a : Addr, a ≠ ⟨sb, 3, none⟩ → wc.cell? a = wr.cell? a := fun a ha => by
        rw [hwc, World.cell?_setCell_other _ _ _ _ (Ne.symm ha)]
        simp
      have tcw : Turned [sb] wr wc := by rw [hwc]; exact ((Turned.of_below (below_drewN (Below.refl _ wr) (nq + 1))).setCell _ (.inr (by simp)) _)
      have x0 : wc.cell? ⟨w.heap.size, 0, none⟩ = some (.int .u8 22) := (cellc _ (by intro h; have := congrArg Addr.block h; simp at this; omega)).trans k0
      have x1 : wc.cell? ⟨w.heap.size, 1, none⟩ = some (.int .u64 fr) := (cellc _ (by intro h; have := congrArg Addr.block h; simp at this; omega)).trans k1
      have x4 : wc.cell? ⟨w.heap.size, 4, none⟩ = some (.int .u64 sj) := (cellc _ (by intro h; have := congrArg Addr.block h; simp at this; omega)).trans k4
      have xs0 : wc.cell? ⟨sb, 0, none⟩ = some (.int .i64 sd) := (cellc _ (by simp)).trans s0
      have xu : wc.cell? ⟨sb, 3, none⟩ = some (.int .u64 (later un now tmo)) := by rw [hwc]; exact World.cell?_setCell_same _ _ _ (by simpa using s3)
      have hwz : w.heap.size < wc.heap.size := World.block_lt_of_cell? _ _ x0
      have rowc : wc.heap[sb]? = some (.cells #[.int .i64 sd, .int .u64 at', .int .u64 tg, .int .u64 (later un now tmo), .slice (some ⟨P0, 0, none⟩) 2 2, .slice (some ⟨tb, 0, none⟩) 1 1] 49) := by
        have hr := (HB.out.1.block sb hs).trans HK.out.1
        rw [hwc]
        simp [World.setCell, Array.getElem?_modify, hr]
      have Tc : Turned [nb, sb, tb] w wc := (Turned.of_below HB.out.1).trans (tcw.mono (by simp))
      have oldc : ∀ a : Addr, a.block < w.heap.size → a ≠ ⟨sb, 3, none⟩ → wc.cell? a = w.cell? a := fun a ha hne => (cellc a hne).trans (HB.out.1.cell ha)
      have frz : ∀ a : Addr, a.block < w.heap.size → a.block ≠ sb → wc.frozen? a = w.frozen? a := fun a ha hne => (tcw.frozen (Nat.lt_of_lt_of_le ha HB.out.1.size) (by simpa using hne)).trans (HB.out.1.frozen ha)
      have HZ : Hid (Turned [nb, sb, tb] w wc ∧ (∀ a : Addr, a.block < w.heap.size → a ≠ ⟨sb, 3, none⟩ → wc.cell? a = w.cell? a) ∧ (∀ a : Addr, a.block < w.heap.size → a.block ≠ sb → wc.frozen? a = w.frozen? a) ∧ wc.cell? ⟨sb, 3, none⟩ = some (.int .u64 (later un now tmo)) ∧ wc.heap[sb]? = some (.cells #[.int .i64 sd, .int .u64 at', .int .u64 tg, .int .u64 (later un now tmo), .slice (some ⟨P0, 0, none⟩) 2 2, .slice (some ⟨tb, 0, none⟩) 1 1] 49)) := ⟨Tc, oldc, frz, xu, rowc⟩
      have hsw : sb < wc.heap.size := by omega
      have htw : tb < wc.heap.size := by omega
      have hnw : nb < wc.heap.size := by omega
      have hpc : pieceOf (far st fr) (far st sj) fr sj = (sj, fr) := by rw [HFT.out.1, HFT.out.2]; unfold pieceOf; exact if_pos (by omega)
      have HPC : Hid (pieceOf (far st fr) (far st sj) fr sj = (sj, fr)) := hpc
      have hway : (decide (far st sj < far st fr) == (sd == 1)) = (sd == 1) := by rw [HFT.out.1, HFT.out.2]; simp [h1]
      have HWAY : Hid ((decide (far st sj < far st fr) == (sd == 1)) = (sd == 1)) := hway
      clear xu Tc cellc hwc k0 k1 k4 s3 f3 s0 v5 v2 vc nA mB hpc hway tcw rowc oldc frz
      by_cases hback : (sd == 1) = true
      · -- the link runs the sweep's way
        go_wp2_with fail
        have bk := back_any sb sd (wc.alloc (.cells #[.int .u64 sj, .int .u64 fr] 44)) (cell?_alloc_old _ xs0)
        rw [hback] at bk
        refine bk.mono ?_
        clear bk
        rintro e w' ⟨rfl, rfl⟩
        go_wp2_with fail
        obtain ⟨z1, z2, z3, z4, z5⟩ := HZ.out
        have u0 : wc.cell? ⟨tb, 0, none⟩ = some (.int .u64 st) := (z2 ⟨tb, 0, none⟩ ht (by intro h; have := congrArg Addr.block h; simp at this; omega)).trans (by simpa using HK.out.2.2.2.t0 0 (by decide))
        have u2 : wc.cell? ⟨tb, 0 + 2, none⟩ = some (.slice none 0 0) := (z2 ⟨tb, 2, none⟩ ht (by intro h; have := congrArg Addr.block h; simp at this; omega)).trans (by simpa using HK.out.2.2.2.t2 0 (by decide))
        have uf : wc.frozen? ⟨tb, 0 + 2, none⟩ = false := (z3 ⟨tb, 2, none⟩ ht (Ne.symm hst)).trans (HK.out.2.2.2.ft 2)
        refine (add_nil tb 0 st sj fr _ (cell?_alloc_old _ u0) (cell?_alloc_old _ u2) ((World.frozen?_alloc_old _ _ _ (by simp; omega)).trans uf)).mono ?_
        rintro e w6 ⟨rfl, ⟨g, cap, a1, a2, a3⟩, a4, a5⟩
        have old6 : ∀ a : Addr, a.block < wc.heap.size → a ≠ ⟨tb, 0 + 2, none⟩ → w6.cell? a = wc.cell? a := fun a ha hne => (a4 a (by simp; omega) hne).trans (World.cell?_alloc_lt _ _ _ ha)
        have fro6 : ∀ a : Addr, a.block < wc.heap.size → a.block ≠ tb → w6.frozen? a = wc.frozen? a := fun a ha hne => (a5.frozen (by simp; omega) (by simpa using hne)).trans (World.frozen?_alloc_old _ _ _ (by simp; omega))
        have row6 : w6.heap[sb]? = wc.heap[sb]? := (a5.block sb (by simp; omega) (by simpa using hst)).trans (Below.heap_alloc _ _ _ hsw)
        have t6 : Turned [nb, sb, tb] w w6 := z1.trans (((Turned.refl [nb, sb, tb] wc).alloc _).trans (a5.mono (by simp)))
        obtain ⟨pg0, pg1⟩ : w6.cell? ⟨g, 0, none⟩ = some (.int .u64 sj) ∧ w6.cell? ⟨g, 1, none⟩ = some (.int .u64 fr) := by
          rcases a2 with ⟨h, _⟩ | ⟨g', cap', e, hg, hc⟩
          · cases h
          · simp only [Value.slice.injEq, Option.some.injEq, Addr.mk.injEq] at e
            obtain ⟨⟨rfl, _, _⟩, _, rfl⟩ := e
            exact ⟨by simpa using (hc 0 (by simp)).1, by simpa using (hc 0 (by simp)).2⟩
        have y73 : w6.cell? ⟨nb, 73, none⟩ = some (.slice (some ⟨sb, 0, none⟩) 1 1) := (old6 ⟨nb, 73, none⟩ hnw (by intro h; have := congrArg Addr.block h; simp at this; omega)).trans ((z2 ⟨nb, 73, none⟩ hn (by intro h; have := congrArg Addr.block h; simp at this; omega)).trans HK.out.2.2.2.n73)
        have yf : w6.frozen? ⟨nb, 73, none⟩ = false := (fro6 ⟨nb, 73, none⟩ hnw hnt).trans ((z3 ⟨nb, 73, none⟩ hn hns).trans HK.out.2.2.2.fn)
        have y6 : w6.cell? ⟨nb, 6, none⟩ = some (.slice none 0 0) := (old6 ⟨nb, 6, none⟩ hnw (by intro h; have := congrArg Addr.block h; simp at this; omega)).trans ((z2 ⟨nb, 6, none⟩ hn (by intro h; have := congrArg Addr.block h; simp at this; omega)).trans HK.out.2.2.1)
        have yp : w6.cell? ⟨P0, 1, none⟩ = some (.int .u64 i1) := (old6 ⟨P0, 1, none⟩ (show P0 < wc.heap.size by omega) (by intro h; have := congrArg Addr.block h; simp at this; omega)).trans ((z2 ⟨P0, 1, none⟩ hP (by intro h; have := congrArg Addr.block h; simp at this; omega)).trans HK.out.2.1)
        have y5 : w6.cell? ⟨sb, 5, none⟩ = some (.slice (some ⟨tb, 0, none⟩) 1 1) := (old6 ⟨sb, 5, none⟩ hsw (by intro h; have := congrArg Addr.block h; simp at this; omega)).trans ((z2 ⟨sb, 5, none⟩ hs (by simp)).trans HK.out.2.2.2.s5)
        have yu : w6.cell? ⟨sb, 3, none⟩ = some (.int .u64 (later un now tmo)) := (old6 ⟨sb, 3, none⟩ hsw (by intro h; have := congrArg Addr.block h; simp at this; omega)).trans z4
        have yt0 : w6.cell? ⟨tb, 0, none⟩ = some (.int .u64 st) := (old6 ⟨tb, 0, none⟩ htw (by simp)).trans u0
        have yt1 : w6.cell? ⟨tb, 1, none⟩ = some (.int .u64 en) := (old6 ⟨tb, 1, none⟩ htw (by simp)).trans ((z2 ⟨tb, 1, none⟩ ht (by intro h; have := congrArg Addr.block h; simp at this; omega)).trans (by simpa using HK.out.2.2.2.t1 0 (by decide)))
        have yt3 : w6.cell? ⟨tb, 3, none⟩ = some (.slice none 0 0) := (old6 ⟨tb, 3, none⟩ htw (by simp)).trans ((z2 ⟨tb, 3, none⟩ ht (by intro h; have := congrArg Addr.block h; simp at this; omega)).trans (by simpa using HK.out.2.2.2.t3 0 (by decide)))
        have yt4 : w6.cell? ⟨tb, 4, none⟩ = some (.map none) := (old6 ⟨tb, 4, none⟩ htw (by simp)).trans ((z2 ⟨tb, 4, none⟩ ht (by intro h; have := congrArg Addr.block h; simp at this; omega)).trans (by simpa using HK.out.2.2.2.t4 0 (by decide)))
        have yt2 : w6.cell? ⟨tb, 2, none⟩ = some (.slice (some ⟨g, 0, none⟩) 1 cap) := a1
        have all6 : ∀ a : Addr, a.block < w.heap.size → a ≠ ⟨sb, 3, none⟩ → a ≠ ⟨tb, 2, none⟩ → w6.cell? a = w.cell? a := fun a ha h1 h2 => (old6 a (Nat.lt_trans ha hwz) h2).trans (z2 a ha h1)
        have rr := row6.trans z5
        have H6 : Hid (Turned [nb, sb, tb] w w6 ∧ (∀ a : Addr, a.block < w.heap.size → a ≠ ⟨sb, 3, none⟩ → a ≠ ⟨tb, 2, none⟩ → w6.cell? a = w.cell? a) ∧ PcAt w6 (.slice (some ⟨g, 0, none⟩) 1 cap) [(sj, fr)] ∧ w6.cell? ⟨sb, 3, none⟩ = some (.int .u64 (later un now tmo)) ∧ w6.cell? ⟨tb, 2, none⟩ = some (.slice (some ⟨g, 0, none⟩) 1 cap)) := ⟨t6, all6, a2, yu, yt2⟩
        have hz6 : wc.heap.size + 1 ≤ w6.heap.size := by have := a5.size; simpa using this
        have hgz : g < w6.heap.size := World.block_lt_of_cell? _ _ pg0
        have hW : (decide (far st sj < far st fr) == (sd == 1)) = true := HWAY.out.trans (by simp [hback])
        have HWT : Hid ((decide (far st sj < far st fr) == (sd == 1)) = true) := hW
        clear hW x0 x1 x4 xs0 z1 z2 z3 z4 z5 u0 u2 uf a1 a2 a3 a4 a5 old6 fro6 row6 t6 all6
        by_cases hwhole : sj = st ∧ fr = en
        · obtain ⟨hw1', hw2'⟩ := hwhole
          have HWH : Hid ((sj, fr) = (st, en)) := by rw [hw1', hw2']; exact rfl
          have dy := drop_yes nb sb tb g cap P0 st en i1 _ _ _ _ _ w6 y73 yf y6 rr yp yt0 yt1 yt2 yt3 yt4 (by rw [← hw1']; exact pg0) (by rw [← hw2']; exact pg1) ⟨_, _, _, rfl⟩ hns
          have HDY : Hid (Calls Yba.prog 29 #[.pointer (some ⟨nb, 0, none⟩), .int .i64 0] w6 fun e w' => e = .returned (.tuple #[]) ∧ w'.cell? ⟨nb, 73, none⟩ = some (.slice (some ⟨sb, 0, none⟩) 0 1) ∧ Turned [nb, sb] w6 w') := dy
          clear dy y73 yf y6 rr yp yt0 yt1 yt2 yt3 yt4 pg0 pg1 y5 yu hw1' hw2'
          go_wp2_with fail
          refine HDY.out.mono ?_
          rintro e w8 ⟨rfl, d1, d2⟩
          go_wp2
          (try simp only [Exit.inBlock, Exit.then])
          refine bodyPost_ret (results_none rfl _ _ _) rfl ?_
          exact ⟨rfl, .inr (.inr ⟨HWT.out, by rw [HPC.out]; exact HWH.out, d1, H6.out.1.trans (d2.mono (by simp))⟩)⟩
        · have HWH : Hid (¬ (sj = st ∧ fr = en)) := hwhole
          have dn := drop_no nb sb tb g cap st en sj fr _ w6 y73 y5 yt0 yt1 yt2 yt3 yt4 pg0 pg1 ⟨_, _, _, rfl⟩ hwhole
          have HDN : Hid (Calls Yba.prog 29 #[.pointer (some ⟨nb, 0, none⟩), .int .i64 0] w6 fun e w' => e = .returned (.tuple #[]) ∧ Below w6.heap.size w6 w') := dn
          clear dn y73 yf y6 rr yp yt0 yt1 yt2 yt3 yt4 pg0 pg1 y5 yu hwhole
          go_wp2_with fail
          refine HDN.out.mono ?_
          rintro e w8 ⟨rfl, d2⟩
          go_wp2
          (try simp only [Exit.inBlock, Exit.then])
          refine bodyPost_ret (results_none rfl _ _ _) rfl ?_
          obtain ⟨o1, o2, o3, o4, o5⟩ := H6.out
          refine ⟨rfl, .inr (.inl ⟨HWT.out, ?_, (d2.cell (p := ⟨sb, 3, none⟩) (show sb < w6.heap.size by omega)).trans o4, ⟨g, cap, (d2.cell (p := ⟨tb, 2, none⟩) (show tb < w6.heap.size by omega)).trans o5, ?_⟩, fun a ha h1 h2 => (d2.cell (p := a) (by omega)).trans (o2 a ha h1 h2), o1.trans (Turned.of_below d2)⟩)⟩
          · rw [HPC.out]
            intro h
            exact HWH.out ⟨congrArg Prod.fst h, congrArg Prod.snd h⟩
          · rw [HPC.out]
            exact o3.below d2
      · have hback' : (sd == 1) = false := by cases h : (sd == 1) <;> simp_all
        go_wp2_with fail
        have bk := back_any sb sd (wc.alloc (.cells #[.int .u64 sj, .int .u64 fr] 44)) (cell?_alloc_old _ xs0)
        rw [hback'] at bk
        refine bk.mono ?_
        clear bk
        rintro e w' ⟨rfl, rfl⟩
        have hW : (decide (far st sj < far st fr) == (sd == 1)) = false := HWAY.out.trans (by simp [hback'])
        have HWT : Hid ((decide (far st sj < far st fr) == (sd == 1)) = false) := hW
        clear hW x0 x1 x4 xs0
        go_wp2
        (try simp only [Exit.inBlock, Exit.then])
        refine bodyPost_ret (results_none rfl _ _ _) rfl ?_
        obtain ⟨z1, z2, z3, z4, z5⟩ := HZ.out
        exact ⟨rfl, .inl ⟨HWT.out, cell?_alloc_old _ z4, fun a ha hne => (World.cell?_alloc_lt _ _ _ (Nat.lt_trans ha hwz)).trans (z2 a ha hne), z1.alloc _⟩⟩
end Go.Proofs.Ybulkcfyi
