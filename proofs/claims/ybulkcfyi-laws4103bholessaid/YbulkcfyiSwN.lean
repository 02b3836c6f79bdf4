/-
  One sweep of N stretches, as it lies; pathTold where no stretch takes the piece.
-/
import Derived.Test.YbulkcfyiPath0
import Derived.LoopTactic
namespace Go.Proofs.Ybulkcfyi
open Go.RowKit

/-- One sweep of N stretches. -/
structure SwN (w : World) (nb sb tb N : Nat) (sd at' tg un : Int) (pa : Addr) (pl pc : Nat) (st en : Nat → Int) (runs holes : Nat → Value) : Prop where
  n73 : w.cell? ⟨nb, 73, none⟩ = some (.slice (some ⟨sb, 0, none⟩) 1 1)
  s0 : w.cell? ⟨sb, 0, none⟩ = some (.int .i64 sd)
  s1 : w.cell? ⟨sb, 1, none⟩ = some (.int .u64 at')
  s2 : w.cell? ⟨sb, 2, none⟩ = some (.int .u64 tg)
  s3 : w.cell? ⟨sb, 3, none⟩ = some (.int .u64 un)
  s4 : w.cell? ⟨sb, 4, none⟩ = some (.slice (some pa) pl pc)
  s5 : w.cell? ⟨sb, 5, none⟩ = some (.slice (some ⟨tb, 0, none⟩) N N)
  t0 : ∀ i, i < N → w.cell? ⟨tb, i * 5, none⟩ = some (.int .u64 (st i))
  t1 : ∀ i, i < N → w.cell? ⟨tb, i * 5 + 1, none⟩ = some (.int .u64 (en i))
  t2 : ∀ i, i < N → w.cell? ⟨tb, i * 5 + 2, none⟩ = some (runs i)
  t3 : ∀ i, i < N → w.cell? ⟨tb, i * 5 + 3, none⟩ = some (holes i)
  t4 : ∀ i, i < N → w.cell? ⟨tb, i * 5 + 4, none⟩ = some (.map none)
  f3 : w.frozen? ⟨sb, 3, none⟩ = false
  ft : ∀ o, w.frozen? ⟨tb, o, none⟩ = false
  fn : w.frozen? ⟨nb, 73, none⟩ = false

theorem SwN.later {w w' : World} {nb sb tb N : Nat} {sd at' tg un : Int} {pa : Addr} {pl pc : Nat} {st en : Nat → Int} {runs holes : Nat → Value} (h : SwN w nb sb tb N sd at' tg un pa pl pc st en runs holes) {B : Nat} (hb : Below B w w') (hn : nb < B) (hs : sb < B) (ht : tb < B) : SwN w' nb sb tb N sd at' tg un pa pl pc st en runs holes where
  n73 := (hb.cell (p := ⟨nb, 73, none⟩) hn).trans h.n73
  s0 := (hb.cell (p := ⟨sb, 0, none⟩) hs).trans h.s0
  s1 := (hb.cell (p := ⟨sb, 1, none⟩) hs).trans h.s1
  s2 := (hb.cell (p := ⟨sb, 2, none⟩) hs).trans h.s2
  s3 := (hb.cell (p := ⟨sb, 3, none⟩) hs).trans h.s3
  s4 := (hb.cell (p := ⟨sb, 4, none⟩) hs).trans h.s4
  s5 := (hb.cell (p := ⟨sb, 5, none⟩) hs).trans h.s5
  t0 := fun i hi => (hb.cell (p := ⟨tb, i * 5, none⟩) ht).trans (h.t0 i hi)
  t1 := fun i hi => (hb.cell (p := ⟨tb, i * 5 + 1, none⟩) ht).trans (h.t1 i hi)
  t2 := fun i hi => (hb.cell (p := ⟨tb, i * 5 + 2, none⟩) ht).trans (h.t2 i hi)
  t3 := fun i hi => (hb.cell (p := ⟨tb, i * 5 + 3, none⟩) ht).trans (h.t3 i hi)
  t4 := fun i hi => (hb.cell (p := ⟨tb, i * 5 + 4, none⟩) ht).trans (h.t4 i hi)
  f3 := (hb.frozen (p := ⟨sb, 3, none⟩) hs).trans h.f3
  ft := fun o => (hb.frozen (p := ⟨tb, o, none⟩) ht).trans (h.ft o)
  fn := (hb.frozen (p := ⟨nb, 73, none⟩) hn).trans h.fn

/-- How far a point lies from a start, clockwise. -/
def far (st x : Int) : Int := IntKind.u64.wrap (x - st)
/-- The piece from fr to sj falls within the stretch. -/
def Ins (st en fr sj : Int) : Prop := far st fr ≠ far st sj ∧ far st fr ≤ far st en ∧ far st sj ≤ far st en

theorem cw_far (a b : Int) (w : World) : Calls Yba.prog 24 #[.int .u64 a, .int .u64 b] w fun e w' => e = .returned (.int .u64 (far a b)) ∧ w' = w := cw_any a b w

set_option maxHeartbeats 1000000 in
theorem told_miss (nb sb tb N : Nat) (sd at' tg un : Int) (pa : Addr) (pl pc : Nat) (st en : Nat → Int) (runs holes : Nat → Value) (kd fr to sj tm sr : Int) (p : Option Addr) (n c : Nat) (w : World) (S : SwN w nb sb tb N sd at' tg un pa pl pc st en runs holes)
    (hn : nb < w.heap.size) (hs : sb < w.heap.size) (ht : tb < w.heap.size) (htm : (tg == tm) = false) :
    Calls Yba.prog 8 #[.pointer (some ⟨nb, 0, none⟩), .agg #[.int .u8 kd, .int .u64 fr, .int .u64 to, .slice p n c, .int .u64 sj, .int .u64 tm, .int .u64 sr]] w fun e w' => e = .returned (.tuple #[]) ∧ Below w.heap.size w w' := by
  obtain ⟨B1, hB1⟩ : ∃ B1, B1 = Below.alloc (Below.refl w.heap.size w) (Nat.le_refl _) (.cells #[.int .u8 kd, .int .u64 fr, .int .u64 to, .slice p n c, .int .u64 sj, .int .u64 tm, .int .u64 sr] 67) := ⟨_, rfl⟩
  have S1 := S.later B1 hn hs ht
  have n73 := S.n73
  clear hB1
  go_enter Yba.func8, Yba.ntmps8
  go_wp2_with fail
  refine (idx_miss sb w.heap.size sd at' tg un tm pa ⟨tb, 0, none⟩ pl pc N N _ S1.s0 S1.s1 S1.s2 S1.s3 S1.s4 S1.s5 (by go_simp) (by simp) htm).mono ?_
  rintro e w1 ⟨rfl, hb1⟩
  have B2 : Below w.heap.size w w1 := B1.trans (hb1.mono (by simp))
  have HB : Hid (Below w.heap.size w w1) := B2
  clear n73 S S1 B1 B2 hb1
  go_wp2
  (try simp only [Exit.inBlock, Exit.then])
  refine bodyPost_ret (results_none rfl _ _ _) rfl ?_
  exact ⟨rfl, HB.out⟩

set_option maxHeartbeats 2000000 in
set_option maxRecDepth 100000 in
theorem told_none (nb sb tb N : Nat) (sd at' tg un : Int) (pa : Addr) (pl pc : Nat) (st en : Nat → Int) (runs holes : Nat → Value) (kd fr to sj sr : Int) (p : Option Addr) (n c : Nat) (w : World) (S : SwN w nb sb tb N sd at' tg un pa pl pc st en runs holes)
    (hn : nb < w.heap.size) (hs : sb < w.heap.size) (ht : tb < w.heap.size) (hN : N ≤ 1024) (hins : Hid (∀ i, i < N → ¬ Ins (st i) (en i) fr sj)) :
    Calls Yba.prog 8 #[.pointer (some ⟨nb, 0, none⟩), .agg #[.int .u8 kd, .int .u64 fr, .int .u64 to, .slice p n c, .int .u64 sj, .int .u64 tg, .int .u64 sr]] w fun e w' => e = .returned (.tuple #[]) ∧ Below w.heap.size w w' := by
  obtain ⟨B1, hB1⟩ : ∃ B1, B1 = Below.alloc (Below.refl w.heap.size w) (Nat.le_refl _) (.cells #[.int .u8 kd, .int .u64 fr, .int .u64 to, .slice p n c, .int .u64 sj, .int .u64 tg, .int .u64 sr] 67) := ⟨_, rfl⟩
  have S1 := S.later B1 hn hs ht
  have n73 := S.n73
  clear hB1
  go_enter Yba.func8, Yba.ntmps8
  go_wp2_with fail
  refine (idx_hit sb w.heap.size sd at' tg un tg pa ⟨tb, 0, none⟩ pl pc N N _ S1.s0 S1.s1 S1.s2 S1.s3 S1.s4 S1.s5 (by go_simp) (by simp) (by simp)).mono ?_
  rintro e w1 ⟨rfl, hb1⟩
  have B2 : Below w.heap.size w w1 := B1.trans (hb1.mono (by simp))
  have S2 := S.later B2 hn hs ht
  have n73' := S2.n73
  have s5 := S2.s5
  have m1 : w1.cell? ⟨w.heap.size, 1, none⟩ = some (.int .u64 fr) := (hb1.cell (p := ⟨w.heap.size, 1, none⟩) (by simp)).trans (by go_simp)
  have m4 : w1.cell? ⟨w.heap.size, 4, none⟩ = some (.int .u64 sj) := (hb1.cell (p := ⟨w.heap.size, 4, none⟩) (by simp)).trans (by go_simp)
  have hw1 : w.heap.size < w1.heap.size := World.block_lt_of_cell? _ _ m1
  have H2 : Hid (SwN w1 nb sb tb N sd at' tg un pa pl pc st en runs holes ∧ Below w.heap.size w w1 ∧ w1.cell? ⟨w.heap.size, 1, none⟩ = some (.int .u64 fr) ∧ w1.cell? ⟨w.heap.size, 4, none⟩ = some (.int .u64 sj)) := ⟨S2, B2, m1, m4⟩
  clear n73 S S1 B1 B2 hb1 S2 m1 m4
  go_wp2_with fail
  clear n73' s5
  go_loopw [33] (fun iv wq => ∃ j : Nat, iv = .int .i64 j ∧ j ≤ N ∧ Below w1.heap.size w1 wq)
    (fun iv _ => N - (intOf iv).toNat)
  case atStart => exact ⟨0, rfl, by omega, Below.refl _ _⟩
  case round =>
    obtain ⟨j, rfl, hj, hb⟩ := hrel
    have HB : Hid (Below w1.heap.size w1 wr) := hb
    by_cases hlt : j < N
    · obtain ⟨S2, B2, m1, m4⟩ := H2.out
      have S3 := S2.later hb (Nat.lt_of_lt_of_le hn B2.size) (Nat.lt_of_lt_of_le hs B2.size) (Nat.lt_of_lt_of_le ht B2.size)
      have s5 := S3.s5
      have t0 := S3.t0 j hlt
      have t1 := S3.t1 j hlt
      have k1 := (hb.cell (p := ⟨w.heap.size, 1, none⟩) hw1).trans m1
      have k4 := (hb.cell (p := ⟨w.heap.size, 4, none⟩) hw1).trans m4
      have hni : Hid (¬ Ins (st j) (en j) fr sj) := hins.out j hlt
      clear S2 B2 m1 m4 S3 hb
      have hji : (j : Int) < N := by omega
      generalize st j = sj' at *
      generalize en j = ej' at *
      go_wp2_with fail
      go_quiet ((go_at_call 24; exact Calls.quiet_of_same (cw_far _ _ _)))
      have hni' : ¬ (far sj' fr ≠ far sj' sj ∧ far sj' fr ≤ far sj' ej' ∧ far sj' sj ≤ far sj' ej') := hni.out
      clear hni t0 t1 k1 k4 s5
      generalize far sj' fr = f at *
      generalize far sj' sj = t at *
      generalize far sj' ej' = wh at *
      rcases Int.lt_trichotomy f t with h1 | h1 | h1
      · have hft : (f == t) = false := beq_eq_false_iff_ne.2 (by omega)
        have hwh : wh < t := by omega
        clear hni'
        go_wp2
        go_roundw
        case rel => exact ⟨j + 1, by go_num, by omega, below_drewN HB.out _⟩
        case measure => simp [intOf]; omega
      · subst h1
        have hff : (f == f) = true := by simp
        clear hni'
        go_wp2
        go_roundw
        case rel => exact ⟨j + 1, by go_num, by omega, below_drewN HB.out _⟩
        case measure => simp [intOf]; omega
      · have hft : (t == f) = false := beq_eq_false_iff_ne.2 (by omega)
        have hwh : wh < f := by omega
        clear hni'
        go_wp2
        go_roundw
        case rel => exact ⟨j + 1, by go_num, by omega, below_drewN HB.out _⟩
        case measure => simp [intOf]; omega
    · have hji : ¬ (j : Int) < N := by omega
      clear hb
      go_wp2
      go_end0
      exact ⟨rfl, H2.out.2.1.trans (HB.out.mono H2.out.2.1.size)⟩
end Go.Proofs.Ybulkcfyi
