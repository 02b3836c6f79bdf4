/-
  pathTold: a piece that a stretch takes (kind 21, clock B).
-/
import Derived.Test.YbulkcfyiTold
import Derived.Test.YbulkcfyiPieces2
import Derived.Deep.RegionHeld3
import Derived.Deep.RegionLaw
import Derived.Deep.RegionWith
import Derived.Deep.Cut
import Derived.Deep.CutRange
namespace Go.Proofs.Ybulkcfyi
open Go.RowKit Go.Stop
attribute [local go_sem ↓] Go.wp_at_zero Go.wp_at_succ

set_option maxHeartbeats 20000000 in
set_option maxRecDepth 100000 in
theorem told21B (nb sb tb cb N k : Nat) (sd at' tg un : Int) (pa : Addr) (pl pc : Nat) (st en : Nat → Int) (runs holes : Nat → Value) (fr tt sj sr now tmo : Int) (p : Option Addr) (n c : Nat) (w : World) (S : SwN w nb sb tb N sd at' tg un pa pl pc st en runs holes)
    (hn : nb < w.heap.size) (hs : sb < w.heap.size) (ht : tb < w.heap.size) (hcb : cb < w.heap.size) (hN : N ≤ 1024) (hk : k < N)
    (c5 : w.cell? ⟨nb, 5, none⟩ = some (.iface 27 (.pointer (some ⟨cb, 0, none⟩)))) (c2 : w.cell? ⟨nb, 2, none⟩ = some (.int .u64 tmo)) (cc : w.cell? ⟨cb, 0, none⟩ = some (.int .u64 now))
    (ps : List (Int × Int)) (hps : PcAt w (holes k) ps) (hpl : ps.length ≤ 1024) (hpf : holes k = .slice none 0 0 ∨ ∃ g, holes k = .slice (some ⟨g, 0, none⟩) ps.length ps.length) (hpk : ∀ a l c, holes k = .slice (some a) l c → a.block ∉ [sb, tb]) (hst : sb ≠ tb)
    (hins : Hid ((∀ i, i < k → ¬ Ins (st i) (en i) fr sj) ∧ Ins (st k) (en k) fr sj)) :
    Calls Yba.prog 8 #[.pointer (some ⟨nb, 0, none⟩), .agg #[.int .u8 21, .int .u64 fr, .int .u64 tt, .slice p n c, .int .u64 sj, .int .u64 tg, .int .u64 sr]] w fun e w' => e = .returned (.tuple #[]) ∧ Told21 w w' sb tb k (later un now tmo) ps (pieceOf (far (st k) fr) (far (st k) sj) fr sj) := by
  obtain ⟨B1, hB1⟩ : ∃ B1, B1 = Below.alloc (Below.refl w.heap.size w) (Nat.le_refl _) (.cells #[.int .u8 21, .int .u64 fr, .int .u64 tt, .slice p n c, .int .u64 sj, .int .u64 tg, .int .u64 sr] 67) := ⟨_, rfl⟩
  have S1 := S.later B1 hn hs ht
  have n73 := S.n73
  clear hB1
  go_enter Yba.func8, Yba.ntmps8
  go_wp2_with fail
  refine (idx_hit sb w.heap.size sd at' tg un tg pa ⟨tb, 0, none⟩ pl pc N N _ S1.s0 S1.s1 S1.s2 S1.s3 S1.s4 S1.s5 (by go_simp) (by simp) (by simp)).mono ?_
  rintro e w1 ⟨rfl, hb1⟩
  have B2 : Below w.heap.size w w1 := B1.trans (hb1.mono (by simp))
  have S2 := S.later B2 hn hs ht
  have n73' := S2.n73
  have s5 := S2.s5
  have m0 : w1.cell? ⟨w.heap.size, 0, none⟩ = some (.int .u8 21) := (hb1.cell (p := ⟨w.heap.size, 0, none⟩) (by simp)).trans (by go_simp)
  have m1 : w1.cell? ⟨w.heap.size, 1, none⟩ = some (.int .u64 fr) := (hb1.cell (p := ⟨w.heap.size, 1, none⟩) (by simp)).trans (by go_simp)
  have m4 : w1.cell? ⟨w.heap.size, 4, none⟩ = some (.int .u64 sj) := (hb1.cell (p := ⟨w.heap.size, 4, none⟩) (by simp)).trans (by go_simp)
  have hw1 : w.heap.size < w1.heap.size := World.block_lt_of_cell? _ _ m1
  have d5 := (B2.cell (p := ⟨nb, 5, none⟩) hn).trans c5
  have d2 := (B2.cell (p := ⟨nb, 2, none⟩) hn).trans c2
  have dc := (B2.cell (p := ⟨cb, 0, none⟩) hcb).trans cc
  have H2 : Hid (SwN w1 nb sb tb N sd at' tg un pa pl pc st en runs holes ∧ Below w.heap.size w w1 ∧ w1.cell? ⟨w.heap.size, 1, none⟩ = some (.int .u64 fr) ∧ w1.cell? ⟨w.heap.size, 4, none⟩ = some (.int .u64 sj) ∧ w1.cell? ⟨w.heap.size, 0, none⟩ = some (.int .u8 21) ∧ w1.cell? ⟨nb, 5, none⟩ = some (.iface 27 (.pointer (some ⟨cb, 0, none⟩))) ∧ w1.cell? ⟨nb, 2, none⟩ = some (.int .u64 tmo) ∧ w1.cell? ⟨cb, 0, none⟩ = some (.int .u64 now)) := ⟨S2, B2, m1, m4, m0, d5, d2, dc⟩
  clear n73 S S1 B1 B2 hb1 S2 m0 m1 m4 d5 d2 dc c5 c2 cc
  go_wp2_with fail
  clear n73' s5
  go_loopw [33] (fun iv wq => ∃ j : Nat, iv = .int .i64 j ∧ j ≤ k ∧ Below w1.heap.size w1 wq)
    (fun iv _ => N - (intOf iv).toNat)
  case atStart => exact ⟨0, rfl, by omega, Below.refl _ _⟩
  case round =>
    obtain ⟨j, rfl, hj, hb⟩ := hrel
    have HB : Hid (Below w1.heap.size w1 wr) := hb
    have hltN : j < N := by omega
    obtain ⟨S2, B2, m1, m4, m0, d5, d2, dc⟩ := H2.out
    have S3 := S2.later hb (Nat.lt_of_lt_of_le hn B2.size) (Nat.lt_of_lt_of_le hs B2.size) (Nat.lt_of_lt_of_le ht B2.size)
    have s5 := S3.s5
    have t0 := S3.t0 j hltN
    have t1 := S3.t1 j hltN
    have k1 := (hb.cell (p := ⟨w.heap.size, 1, none⟩) hw1).trans m1
    have k4 := (hb.cell (p := ⟨w.heap.size, 4, none⟩) hw1).trans m4
    have hji : (j : Int) < N := by omega
    by_cases hlt : j < k
    · have hni : Hid (¬ Ins (st j) (en j) fr sj) := hins.out.1 j hlt
      clear S2 B2 m1 m4 S3 hb m0 d5 d2 dc
      generalize st j = sj' at *
      generalize en j = ej' at *
      go_wp2_with fail
      go_quiet ((go_at_call 24; exact Calls.quiet_of_same (cw_far _ _ _)))
      have hni' : ¬ (far sj' fr ≠ far sj' sj ∧ far sj' fr ≤ far sj' ej' ∧ far sj' sj ≤ far sj' ej') := hni.out
      clear hni t0 t1 k1 k4 s5
      generalize far sj' fr = f at *
      generalize far sj' sj = t at *
      generalize far sj' ej' = wh at *
      rcases Int.lt_trichotomy f t with h1 | h1 | h1
      · have hft : (f == t) = false := beq_eq_false_iff_ne.2 (by omega)
        have hwh : wh < t := by omega
        clear hni'
        go_wp2
        go_roundw
        case rel => exact ⟨j + 1, by go_num, by omega, below_drewN HB.out _⟩
        case measure => simp [intOf]; omega
      · subst h1
        have hff : (f == f) = true := by simp
        clear hni'
        go_wp2
        go_roundw
        case rel => exact ⟨j + 1, by go_num, by omega, below_drewN HB.out _⟩
        case measure => simp [intOf]; omega
      · have hft : (t == f) = false := beq_eq_false_iff_ne.2 (by omega)
        have hwh : wh < f := by omega
        clear hni'
        go_wp2
        go_roundw
        case rel => exact ⟨j + 1, by go_num, by omega, below_drewN HB.out _⟩
        case measure => simp [intOf]; omega
    · obtain rfl : j = k := by omega
      have hin : Hid (Ins (st j) (en j) fr sj) := hins.out.2
      have v5 := (hb.cell (p := ⟨nb, 5, none⟩) (Nat.lt_of_lt_of_le hn B2.size)).trans d5
      have v2 := (hb.cell (p := ⟨nb, 2, none⟩) (Nat.lt_of_lt_of_le hn B2.size)).trans d2
      have vc := (hb.cell (p := ⟨cb, 0, none⟩) (Nat.lt_of_lt_of_le hcb B2.size)).trans dc
      have k0 := (hb.cell (p := ⟨w.heap.size, 0, none⟩) hw1).trans m0
      have s3 := S3.s3
      have f3 := S3.f3
      have HS3 : Hid (SwN wr nb sb tb N sd at' tg un pa pl pc st en runs holes) := S3
      clear S2 B2 m1 m4 S3 hb m0 d5 d2 dc hlt
      go_wp2_with fail
      go_quiet ((go_at_call 24; exact Calls.quiet_of_same (cw_far _ _ _)))
      have hin' : far (st j) fr ≠ far (st j) sj ∧ far (st j) fr ≤ far (st j) (en j) ∧ far (st j) sj ≤ far (st j) (en j) := hin.out
      clear hin hins
      generalize hef : far (st j) fr = f at *
      generalize het : far (st j) sj = t at *
      generalize far (st j) (en j) = wh at *
      have HFT : Hid (far (st j) fr = f ∧ far (st j) sj = t) := ⟨hef, het⟩
      clear hef het
      clear t0 t1 s5
      have nA := nilAheadB
      have mB := methodB
      rcases Int.lt_or_gt_of_ne hin'.1 with h1 | h1
      · have hft : (f == t) = false := beq_eq_false_iff_ne.2 (by omega)
        have hwh : t ≤ wh := hin'.2.2
        clear hin'
        go_wp2_with fail
        go_cut [8] from 33 to 144 (fun x wx => x = .int .u64 f ∧ wx = (wr.drewN (nq + 1)).setCell ⟨sb, 3, none⟩ (.int .u64 (later un now tmo)))
        case first =>
          go_region_with (first | (go_at_call 88; refine (nowB_any cb now _ ?_).mono ?_; exact vc; rintro e w' ⟨rfl, rfl⟩) | (go_at_call 25; refine (wait_any nb tmo _ ?_).mono ?_; exact v2; rintro e w' ⟨rfl, rfl⟩))
          all_goals (try go_wp2_with fail)
          all_goals go_meet
          all_goals first
            | exact ⟨rfl, rfl⟩
            | (refine ⟨rfl, ?_⟩; unfold later; rw [if_pos (by omega)])
            | (refine ⟨rfl, ?_⟩; unfold later; rw [if_neg (by omega)])
        case rest =>
          obtain ⟨rfl, hwc⟩ := hcut
          have bwr : Below w.heap.size w wr := H2.out.2.1.trans (HB.out.mono H2.out.2.1.size)
          have Tc : Turned [sb, tb] w wc := by
            rw [hwc]
            exact (Turned.of_below (below_drewN bwr _)).setCell _ (.inr (by simp)) _
          have cellc : ∀ a : Addr, a ≠ ⟨sb, 3, none⟩ → wc.cell? a = wr.cell? a := fun a ha => by
            rw [hwc, World.cell?_setCell_other _ _ _ _ (Ne.symm ha)]
            simp
          have x0 : wc.cell? ⟨w.heap.size, 0, none⟩ = some (.int .u8 21) := (cellc _ (by intro h; have := congrArg Addr.block h; simp at this; omega)).trans k0
          have x1 : wc.cell? ⟨w.heap.size, 1, none⟩ = some (.int .u64 fr) := (cellc _ (by intro h; have := congrArg Addr.block h; simp at this; omega)).trans k1
          have x4 : wc.cell? ⟨w.heap.size, 4, none⟩ = some (.int .u64 sj) := (cellc _ (by intro h; have := congrArg Addr.block h; simp at this; omega)).trans k4
          have xh : wc.cell? ⟨tb, j * 5 + 3, none⟩ = some (holes j) := (cellc _ (by intro h; have := congrArg Addr.block h; simp at this; omega)).trans (HS3.out.t3 j hltN)
          have xf : wc.frozen? ⟨tb, j * 5 + 3, none⟩ = false := by
            rw [World.frozen?_of_block (w := wr) (a := ⟨tb, j * 5 + 3, none⟩) (by rw [hwc, Below.heap_setCell _ _ _ _ (by intro h; simp at h; omega)]; simp)]
            exact HS3.out.ft _
          have xu : wc.cell? ⟨sb, 3, none⟩ = some (.int .u64 (later un now tmo)) := by rw [hwc]; exact World.cell?_setCell_same _ _ _ (by simpa using s3)
          have xp : PcAt wc (holes j) ps := hps.turned Tc hpk
          have hwz : w.heap.size < wc.heap.size := World.block_lt_of_cell? _ _ x0
          have HZ : Hid (Turned [sb, tb] w wc ∧ (∀ a : Addr, a.block < w.heap.size → a ≠ ⟨sb, 3, none⟩ → wc.cell? a = w.cell? a) ∧ PcAt wc (holes j) ps ∧ wc.cell? ⟨sb, 3, none⟩ = some (.int .u64 (later un now tmo)) ∧ wc.frozen? ⟨tb, j * 5 + 3, none⟩ = false) :=
            ⟨Tc, fun a ha hne => (cellc a hne).trans (bwr.cell ha), xp, xu, xf⟩
          have hsw : sb < wc.heap.size := Nat.lt_of_lt_of_le hs Tc.size
          have htw : tb < wc.heap.size := Nat.lt_of_lt_of_le ht Tc.size
          clear xu xp Tc cellc hwc bwr k0 k1 k4 s3 f3 v5 v2 vc nA mB HS3 HB hps
          generalize holes j = hv at *
          have HPF : Hid (hv = .slice none 0 0 ∨ ∃ g, hv = .slice (some ⟨g, 0, none⟩) ps.length ps.length) := hpf
          have hpc : pieceOf (far (st j) fr) (far (st j) sj) fr sj = (fr, sj) := by rw [HFT.out.1, HFT.out.2]; unfold pieceOf; exact if_neg (by omega)
          have HPC : Hid (pieceOf (far (st j) fr) (far (st j) sj) fr sj = (fr, sj)) := hpc
          clear hpf hpc
          go_wp2_with fail
          have bA : Below wc.heap.size wc (wc.alloc (.cells #[.int .u64 fr, .int .u64 sj] 44)).drew := ((Below.refl _ wc).alloc (Nat.le_refl _) _).drew
          have HBA : Hid (Below wc.heap.size wc (wc.alloc (.cells #[.int .u64 fr, .int .u64 sj] 44)).drew) := bA
          clear bA
          go_region_with (go_at_call 26; refine (contains_any hv ps fr sj _ ?_ hpl).mono ?_; exact HZ.out.2.2.1.below HBA.out; rintro e w6 ⟨rfl, hb6⟩)
          all_goals
            have b6 : Below wc.heap.size wc w6 := HBA.out.trans (hb6.mono (by simp))
            have b7 : w6.heap[wc.heap.size]? = some (.cells #[.int .u64 fr, .int .u64 sj] 44) := by
              rw [hb6.block _ (by simp)]
              exact heap_alloc_last wc _
            have H6 : Hid (Below wc.heap.size wc w6 ∧ w6.heap[wc.heap.size]? = some (.cells #[.int .u64 fr, .int .u64 sj] 44)) := ⟨b6, b7⟩
            have y0 : w6.cell? ⟨wc.heap.size, 0, none⟩ = some (.int .u64 fr) := by rw [cell_of_row _ _ _ _ _ _ b7]; rfl
            have y1 : w6.cell? ⟨wc.heap.size, 1, none⟩ = some (.int .u64 sj) := by rw [cell_of_row _ _ _ _ _ _ b7]; rfl
            have yh := (b6.cell (p := ⟨tb, j * 5 + 3, none⟩) htw).trans xh
            have yf := (b6.frozen (p := ⟨tb, j * 5 + 3, none⟩) htw).trans HZ.out.2.2.2.2
            have hz6 : wc.heap.size < w6.heap.size := World.block_lt_of_cell? _ _ y0
            have htw6 : tb < w6.heap.size := Nat.lt_trans htw hz6
            clear hb6 b6 b7 x0 x1 x4 xh xf
            by_cases hc : (fr, sj) ∈ ps
            · have hd : decide ((fr, sj) ∈ ps) = true := decide_eq_true hc
              have HC : Hid ((fr, sj) ∈ ps) := hc
              rw [hd]
              clear hc hd
              go_wp2
              (try simp only [Exit.inBlock, Exit.then])
              refine bodyPost_ret (results_none rfl _ _ _) rfl ?_
              obtain ⟨z1, z2, z3, z4, z5⟩ := HZ.out
              refine ⟨rfl, ⟨(H6.out.1.cell (p := ⟨sb, 3, none⟩) hsw).trans z4, ⟨hv, yh, ?_⟩, fun a ha h1 h2 => (H6.out.1.cell (p := a) (Nat.lt_trans ha hwz)).trans (z2 a ha h1), z1.trans (Turned.of_below H6.out.1)⟩⟩
              rw [HPC.out, if_pos HC.out]
              exact z3.below H6.out.1
            · have hd : decide ((fr, sj) ∈ ps) = false := decide_eq_false hc
              have HC : Hid (¬ (fr, sj) ∈ ps) := hc
              rw [hd]
              clear hc hd
              go_wp2_with fail
              obtain ⟨v', w7, hrun, hpc7, hnew7, hgr7⟩ := append_pc hv ps fr sj (w6.drew.alloc (.cells #[.int .u64 fr, .int .u64 sj] 44)) w6.heap.size ((HZ.out.2.2.1.below H6.out.1).below (((Below.refl _ w6).drew).alloc (Nat.le_refl _) _)) HPF.out hpl (heap_alloc_last w6.drew _)
              obtain ⟨g7, c7, rfl⟩ : ∃ g7 c7, v' = .slice (some ⟨g7, 0, none⟩) (ps.length + 1) c7 := by
                rcases hpc7 with ⟨_, h⟩ | ⟨g, cap, e, _, _⟩
                · simp at h
                · exact ⟨g, cap, by simpa using e⟩
              have t7 : Turned [sb, tb] w6 w7 := ((Turned.refl [sb, tb] w6).drew.alloc _).grown hgr7
              have u7 : w7.cell? ⟨tb, j * 5 + 3, none⟩ = some hv := by
                rw [hgr7.cell_far ⟨tb, j * 5 + 3, none⟩ (by simp; omega) (by simp), World.cell?_alloc_lt _ _ _ (by simp; omega)]
                exact yh
              have f7 : w7.frozen? ⟨tb, j * 5 + 3, none⟩ = false := by
                rw [hgr7.frozen_far ⟨tb, j * 5 + 3, none⟩ (by simp; omega) (by simp), World.frozen?_alloc_old _ _ _ (by simp; omega)]
                exact yf
              have e7 : ∀ a : Addr, a.block < w6.heap.size → w7.cell? a = w6.cell? a := fun a ha => by
                rw [hgr7.cell_far a (by simp; omega) (by simp), World.cell?_alloc_lt _ _ _ (by exact ha)]
                simp
              have H7 : Hid (PcAt w7 (.slice (some ⟨g7, 0, none⟩) (ps.length + 1) c7) (ps ++ [(fr, sj)]) ∧ (∀ a l c, Value.slice (some ⟨g7, 0, none⟩) (ps.length + 1) c7 = .slice (some a) l c → w6.heap.size + 1 ≤ a.block) ∧ Turned [sb, tb] w6 w7 ∧ (∀ a : Addr, a.block < w6.heap.size → w7.cell? a = w6.cell? a) ∧ w7.cell? ⟨tb, j * 5 + 3, none⟩ = some hv) := ⟨hpc7, fun a l c e => by simpa using hnew7 a l c e, t7, e7, u7⟩
              have HRUN : Hid ((Builtin.append_ #[41, 41] 41 #[hv, .slice (some ⟨w6.heap.size, 0, none⟩) 1 1]).run Yba.prog (w6.drew.alloc (.cells #[.int .u64 fr, .int .u64 sj] 44)) = .ok (.slice (some ⟨g7, 0, none⟩) (ps.length + 1) c7) w7) := hrun
              clear hrun hpc7 hnew7 hgr7 t7 e7
              go_region_law (refine step_append_run rfl (.tmp 123) (.tmp 125) 41 rfl hv (.slice (some ⟨w6.heap.size, 0, none⟩) 1 1) _ rfl rfl HRUN.out ?_)
              all_goals
                go_wp2
                (try simp only [Exit.inBlock, Exit.then])
                refine bodyPost_ret (results_none rfl _ _ _) rfl ?_
                obtain ⟨z1, z2, z3, z4, z5⟩ := HZ.out
                obtain ⟨r1, r2, r3, r4, r5⟩ := H7.out
                have hne : ∀ a : Addr, a ≠ ⟨tb, j * 5 + 3, none⟩ → (w7.setCell ⟨tb, j * 5 + 3, none⟩ (.slice (some ⟨g7, 0, none⟩) (ps.length + 1) c7)).cell? a = w7.cell? a := fun a ha => World.cell?_setCell_other _ _ _ _ (Ne.symm ha)
                have old : ∀ a : Addr, a.block < wc.heap.size → w7.cell? a = wc.cell? a := fun a ha => (r4 a (by omega)).trans (H6.out.1.cell ha)
                refine ⟨rfl, ⟨?_, ⟨(.slice (some ⟨g7, 0, none⟩) (ps.length + 1) c7), World.cell?_setCell_same _ _ _ r5, ?_⟩, fun a ha h1 h2 => (hne a h2).trans ((old a (Nat.lt_trans ha hwz)).trans (z2 a ha h1)), ?_⟩⟩
                · rw [hne _ (by intro h; have := congrArg Addr.block h; simp at this; omega), old _ hsw]; exact z4
                · rw [HPC.out, if_neg HC.out]
                  exact r1.turned ((Turned.refl [tb] w7).setCell ⟨tb, j * 5 + 3, none⟩ (.inr (by simp)) _) (fun a l c e => by have := r2 a l c e; simp; omega)
                · exact (z1.trans ((Turned.of_below H6.out.1).trans r3)).setCell _ (.inr (by simp)) _
      · have hft : (t == f) = false := beq_eq_false_iff_ne.2 (by omega)
        have hwh : f ≤ wh := hin'.2.1
        clear hin'
        go_wp2_with fail
        go_cut [8] from 33 to 144 (fun x wx => x = .int .u64 f ∧ wx = (wr.drewN (nq + 1)).setCell ⟨sb, 3, none⟩ (.int .u64 (later un now tmo)))
        case first =>
          go_region_with (first | (go_at_call 88; refine (nowB_any cb now _ ?_).mono ?_; exact vc; rintro e w' ⟨rfl, rfl⟩) | (go_at_call 25; refine (wait_any nb tmo _ ?_).mono ?_; exact v2; rintro e w' ⟨rfl, rfl⟩))
          all_goals (try go_wp2_with fail)
          all_goals go_meet
          all_goals first
            | exact ⟨rfl, rfl⟩
            | (refine ⟨rfl, ?_⟩; unfold later; rw [if_pos (by omega)])
            | (refine ⟨rfl, ?_⟩; unfold later; rw [if_neg (by omega)])
        case rest =>
          obtain ⟨rfl, hwc⟩ := hcut
          have bwr : Below w.heap.size w wr := H2.out.2.1.trans (HB.out.mono H2.out.2.1.size)
          have Tc : Turned [sb, tb] w wc := by
            rw [hwc]
            exact (Turned.of_below (below_drewN bwr _)).setCell _ (.inr (by simp)) _
          have cellc : ∀ a : Addr, a ≠ ⟨sb, 3, none⟩ → wc.cell? a = wr.cell? a := fun a ha => by
            rw [hwc, World.cell?_setCell_other _ _ _ _ (Ne.symm ha)]
            simp
          have x0 : wc.cell? ⟨w.heap.size, 0, none⟩ = some (.int .u8 21) := (cellc _ (by intro h; have := congrArg Addr.block h; simp at this; omega)).trans k0
          have x1 : wc.cell? ⟨w.heap.size, 1, none⟩ = some (.int .u64 fr) := (cellc _ (by intro h; have := congrArg Addr.block h; simp at this; omega)).trans k1
          have x4 : wc.cell? ⟨w.heap.size, 4, none⟩ = some (.int .u64 sj) := (cellc _ (by intro h; have := congrArg Addr.block h; simp at this; omega)).trans k4
          have xh : wc.cell? ⟨tb, j * 5 + 3, none⟩ = some (holes j) := (cellc _ (by intro h; have := congrArg Addr.block h; simp at this; omega)).trans (HS3.out.t3 j hltN)
          have xf : wc.frozen? ⟨tb, j * 5 + 3, none⟩ = false := by
            rw [World.frozen?_of_block (w := wr) (a := ⟨tb, j * 5 + 3, none⟩) (by rw [hwc, Below.heap_setCell _ _ _ _ (by intro h; simp at h; omega)]; simp)]
            exact HS3.out.ft _
          have xu : wc.cell? ⟨sb, 3, none⟩ = some (.int .u64 (later un now tmo)) := by rw [hwc]; exact World.cell?_setCell_same _ _ _ (by simpa using s3)
          have xp : PcAt wc (holes j) ps := hps.turned Tc hpk
          have hwz : w.heap.size < wc.heap.size := World.block_lt_of_cell? _ _ x0
          have HZ : Hid (Turned [sb, tb] w wc ∧ (∀ a : Addr, a.block < w.heap.size → a ≠ ⟨sb, 3, none⟩ → wc.cell? a = w.cell? a) ∧ PcAt wc (holes j) ps ∧ wc.cell? ⟨sb, 3, none⟩ = some (.int .u64 (later un now tmo)) ∧ wc.frozen? ⟨tb, j * 5 + 3, none⟩ = false) :=
            ⟨Tc, fun a ha hne => (cellc a hne).trans (bwr.cell ha), xp, xu, xf⟩
          have hsw : sb < wc.heap.size := Nat.lt_of_lt_of_le hs Tc.size
          have htw : tb < wc.heap.size := Nat.lt_of_lt_of_le ht Tc.size
          clear xu xp Tc cellc hwc bwr k0 k1 k4 s3 f3 v5 v2 vc nA mB HS3 HB hps
          generalize holes j = hv at *
          have HPF : Hid (hv = .slice none 0 0 ∨ ∃ g, hv = .slice (some ⟨g, 0, none⟩) ps.length ps.length) := hpf
          have hpc : pieceOf (far (st j) fr) (far (st j) sj) fr sj = (sj, fr) := by rw [HFT.out.1, HFT.out.2]; unfold pieceOf; exact if_pos (by omega)
          have HPC : Hid (pieceOf (far (st j) fr) (far (st j) sj) fr sj = (sj, fr)) := hpc
          clear hpf hpc
          go_wp2_with fail
          have bA : Below wc.heap.size wc (wc.alloc (.cells #[.int .u64 sj, .int .u64 fr] 44)).drew := ((Below.refl _ wc).alloc (Nat.le_refl _) _).drew
          have HBA : Hid (Below wc.heap.size wc (wc.alloc (.cells #[.int .u64 sj, .int .u64 fr] 44)).drew) := bA
          clear bA
          go_region_with (go_at_call 26; refine (contains_any hv ps sj fr _ ?_ hpl).mono ?_; exact HZ.out.2.2.1.below HBA.out; rintro e w6 ⟨rfl, hb6⟩)
          all_goals
            have b6 : Below wc.heap.size wc w6 := HBA.out.trans (hb6.mono (by simp))
            have b7 : w6.heap[wc.heap.size]? = some (.cells #[.int .u64 sj, .int .u64 fr] 44) := by
              rw [hb6.block _ (by simp)]
              exact heap_alloc_last wc _
            have H6 : Hid (Below wc.heap.size wc w6 ∧ w6.heap[wc.heap.size]? = some (.cells #[.int .u64 sj, .int .u64 fr] 44)) := ⟨b6, b7⟩
            have y0 : w6.cell? ⟨wc.heap.size, 0, none⟩ = some (.int .u64 sj) := by rw [cell_of_row _ _ _ _ _ _ b7]; rfl
            have y1 : w6.cell? ⟨wc.heap.size, 1, none⟩ = some (.int .u64 fr) := by rw [cell_of_row _ _ _ _ _ _ b7]; rfl
            have yh := (b6.cell (p := ⟨tb, j * 5 + 3, none⟩) htw).trans xh
            have yf := (b6.frozen (p := ⟨tb, j * 5 + 3, none⟩) htw).trans HZ.out.2.2.2.2
            have hz6 : wc.heap.size < w6.heap.size := World.block_lt_of_cell? _ _ y0
            have htw6 : tb < w6.heap.size := Nat.lt_trans htw hz6
            clear hb6 b6 b7 x0 x1 x4 xh xf
            by_cases hc : (sj, fr) ∈ ps
            · have hd : decide ((sj, fr) ∈ ps) = true := decide_eq_true hc
              have HC : Hid ((sj, fr) ∈ ps) := hc
              rw [hd]
              clear hc hd
              go_wp2
              (try simp only [Exit.inBlock, Exit.then])
              refine bodyPost_ret (results_none rfl _ _ _) rfl ?_
              obtain ⟨z1, z2, z3, z4, z5⟩ := HZ.out
              refine ⟨rfl, ⟨(H6.out.1.cell (p := ⟨sb, 3, none⟩) hsw).trans z4, ⟨hv, yh, ?_⟩, fun a ha h1 h2 => (H6.out.1.cell (p := a) (Nat.lt_trans ha hwz)).trans (z2 a ha h1), z1.trans (Turned.of_below H6.out.1)⟩⟩
              rw [HPC.out, if_pos HC.out]
              exact z3.below H6.out.1
            · have hd : decide ((sj, fr) ∈ ps) = false := decide_eq_false hc
              have HC : Hid (¬ (sj, fr) ∈ ps) := hc
              rw [hd]
              clear hc hd
              go_wp2_with fail
              obtain ⟨v', w7, hrun, hpc7, hnew7, hgr7⟩ := append_pc hv ps sj fr (w6.drew.alloc (.cells #[.int .u64 sj, .int .u64 fr] 44)) w6.heap.size ((HZ.out.2.2.1.below H6.out.1).below (((Below.refl _ w6).drew).alloc (Nat.le_refl _) _)) HPF.out hpl (heap_alloc_last w6.drew _)
              obtain ⟨g7, c7, rfl⟩ : ∃ g7 c7, v' = .slice (some ⟨g7, 0, none⟩) (ps.length + 1) c7 := by
                rcases hpc7 with ⟨_, h⟩ | ⟨g, cap, e, _, _⟩
                · simp at h
                · exact ⟨g, cap, by simpa using e⟩
              have t7 : Turned [sb, tb] w6 w7 := ((Turned.refl [sb, tb] w6).drew.alloc _).grown hgr7
              have u7 : w7.cell? ⟨tb, j * 5 + 3, none⟩ = some hv := by
                rw [hgr7.cell_far ⟨tb, j * 5 + 3, none⟩ (by simp; omega) (by simp), World.cell?_alloc_lt _ _ _ (by simp; omega)]
                exact yh
              have f7 : w7.frozen? ⟨tb, j * 5 + 3, none⟩ = false := by
                rw [hgr7.frozen_far ⟨tb, j * 5 + 3, none⟩ (by simp; omega) (by simp), World.frozen?_alloc_old _ _ _ (by simp; omega)]
                exact yf
              have e7 : ∀ a : Addr, a.block < w6.heap.size → w7.cell? a = w6.cell? a := fun a ha => by
                rw [hgr7.cell_far a (by simp; omega) (by simp), World.cell?_alloc_lt _ _ _ (by exact ha)]
                simp
              have H7 : Hid (PcAt w7 (.slice (some ⟨g7, 0, none⟩) (ps.length + 1) c7) (ps ++ [(sj, fr)]) ∧ (∀ a l c, Value.slice (some ⟨g7, 0, none⟩) (ps.length + 1) c7 = .slice (some a) l c → w6.heap.size + 1 ≤ a.block) ∧ Turned [sb, tb] w6 w7 ∧ (∀ a : Addr, a.block < w6.heap.size → w7.cell? a = w6.cell? a) ∧ w7.cell? ⟨tb, j * 5 + 3, none⟩ = some hv) := ⟨hpc7, fun a l c e => by simpa using hnew7 a l c e, t7, e7, u7⟩
              have HRUN : Hid ((Builtin.append_ #[41, 41] 41 #[hv, .slice (some ⟨w6.heap.size, 0, none⟩) 1 1]).run Yba.prog (w6.drew.alloc (.cells #[.int .u64 sj, .int .u64 fr] 44)) = .ok (.slice (some ⟨g7, 0, none⟩) (ps.length + 1) c7) w7) := hrun
              clear hrun hpc7 hnew7 hgr7 t7 e7
              go_region_law (refine step_append_run rfl (.tmp 123) (.tmp 125) 41 rfl hv (.slice (some ⟨w6.heap.size, 0, none⟩) 1 1) _ rfl rfl HRUN.out ?_)
              all_goals
                go_wp2
                (try simp only [Exit.inBlock, Exit.then])
                refine bodyPost_ret (results_none rfl _ _ _) rfl ?_
                obtain ⟨z1, z2, z3, z4, z5⟩ := HZ.out
                obtain ⟨r1, r2, r3, r4, r5⟩ := H7.out
                have hne : ∀ a : Addr, a ≠ ⟨tb, j * 5 + 3, none⟩ → (w7.setCell ⟨tb, j * 5 + 3, none⟩ (.slice (some ⟨g7, 0, none⟩) (ps.length + 1) c7)).cell? a = w7.cell? a := fun a ha => World.cell?_setCell_other _ _ _ _ (Ne.symm ha)
                have old : ∀ a : Addr, a.block < wc.heap.size → w7.cell? a = wc.cell? a := fun a ha => (r4 a (by omega)).trans (H6.out.1.cell ha)
                refine ⟨rfl, ⟨?_, ⟨(.slice (some ⟨g7, 0, none⟩) (ps.length + 1) c7), World.cell?_setCell_same _ _ _ r5, ?_⟩, fun a ha h1 h2 => (hne a h2).trans ((old a (Nat.lt_trans ha hwz)).trans (z2 a ha h1)), ?_⟩⟩
                · rw [hne _ (by intro h; have := congrArg Addr.block h; simp at this; omega), old _ hsw]; exact z4
                · rw [HPC.out, if_neg HC.out]
                  exact r1.turned ((Turned.refl [tb] w7).setCell ⟨tb, j * 5 + 3, none⟩ (.inr (by simp)) _) (fun a l c e => by have := r2 a l c e; simp; omega)
                · exact (z1.trans ((Turned.of_below H6.out.1).trans r3)).setCell _ (.inr (by simp)) _
end Go.Proofs.Ybulkcfyi
