/-
  LawS4103BLink where the stretch takes the link.
-/
import Derived.Test.YbulkcfyiMade2
import Derived.Test.YbulkcfyiTold22
namespace Go.Proofs.Ybulkcfyi
open Go.RowKit Go.Stop

set_option maxHeartbeats 20000000 in
set_option maxRecDepth 100000 in
theorem link_rf (id st en fr sj tmo now un sd : Int) (w : World) (bs : 0 ≤ sd ∧ sd ≤ 255) (hins : Ins st en fr sj) (hr : IntKind.u64.wrap (sj - st) < IntKind.u64.wrap (fr - st)) (hb : (sd % 2 == 1) = false) :
    Calls Yba.prog 4 #[.int .u64 id, .int .u64 st, .int .u64 en, .int .u64 fr, .int .u64 sj, .int .u64 tmo, .int .u64 now, .int .u64 un, .int .u8 sd] w fun e w' => e = .returned (.bool true) ∧ Below w.heap.size w w' := by
  go_enter Yba.func4, Yba.ntmps4
  go_wp2_with fail
  refine (new_node id 0 tmo 31 27 ⟨w.heap.size + 1, 0, none⟩ ⟨w.heap.size, 0, none⟩ _ (by decide) (by decide)).mono ?_
  rintro e w2 ⟨B, rfl, hB1, hB2, hN, hb2⟩
  have hB3 : w.heap.size + 2 ≤ B := by simpa using hB1
  have bw2 : Below w.heap.size w w2 := (((Below.refl _ w).alloc (Nat.le_refl _) _).alloc (by simp) _).trans (hb2.mono (by simp; omega))
  have hcc : w2.heap[w.heap.size]? = some (.cells #[.int .u64 now] 30) := by
    rw [hb2.block _ (by simp; omega), Below.heap_alloc _ _ _ (by simp), heap_alloc_last]
  have hnc : w2.heap[w.heap.size + 1]? = some (.cells #[.int .i64 0] 33) := by
    rw [hb2.block _ (by simp)]
    exact heap_new (by simp)
  have k73 := hN.c73
  have f73 := hN.f73
  have HN : Hid (NodeAt w2 B id (orT tmo 2) (.iface 31 (.pointer (some ⟨w.heap.size + 1, 0, none⟩))) (.iface 27 (.pointer (some ⟨w.heap.size, 0, none⟩))) ∧ Below w.heap.size w w2 ∧ w2.heap[w.heap.size + 1]? = some (.cells #[.int .i64 0] 33) ∧ w2.heap[w.heap.size]? = some (.cells #[.int .u64 now] 30)) := ⟨hN, bw2, hnc, hcc⟩
  clear hN hb2 hB1 bw2 hnc hcc
  have rdy := made_ready w2 B id st en (sd % 2) 0 7 un hB2 k73 f73
  unfold made0 at rdy
  obtain ⟨ry1, ry2⟩ := rdy
  go_wp2_with fail
  clear ry1 ry2
  obtain ⟨SW, z3, t3, c3, p3⟩ := made_laid w2 B id st en (sd % 2) 0 7 un hB2 k73 f73
  have hrw := made_row w2 B id st en (sd % 2) 0 7 un hB2
  obtain ⟨hN, bw2, hnc, hcc⟩ := HN.out
  have n2 := (c3 ⟨B, 2, none⟩ hB2 (by simp)).trans hN.c2
  have n5 := (c3 ⟨B, 5, none⟩ hB2 (by simp)).trans hN.c5
  have n6 := (c3 ⟨B, 6, none⟩ hB2 (by simp)).trans hN.c6
  have nn : (made w2 B id st en (sd % 2) 0 7 un).cell? ⟨w.heap.size + 1, 0, none⟩ = some (.int .i64 0) := (c3 ⟨w.heap.size + 1, 0, none⟩ (show w.heap.size + 1 < w2.heap.size by omega) (by intro h; have := congrArg Addr.block h; simp at this; omega)).trans (by rw [cell_of_row _ _ _ _ _ _ hnc]; rfl)
  have nc : (made w2 B id st en (sd % 2) 0 7 un).cell? ⟨w.heap.size, 0, none⟩ = some (.int .u64 now) := (c3 ⟨w.heap.size, 0, none⟩ (show w.heap.size < w2.heap.size by omega) (by intro h; have := congrArg Addr.block h; simp at this; omega)).trans (by rw [cell_of_row _ _ _ _ _ _ hcc]; rfl)
  have bw3 : Below w.heap.size w (made w2 B id st en (sd % 2) 0 7 un) := bw2.trans (t3.below bw2.size (by intro k hk; simp at hk; omega))
  have hb3 : B < (made w2 B id st en (sd % 2) 0 7 un).heap.size := by omega
  have pp : (made w2 B id st en (sd % 2) 0 7 un).cell? ⟨w2.heap.size, 1, none⟩ = some (.int .u64 en) := by rw [cell_of_row _ _ _ _ _ _ p3]; rfl
  clear t3 c3 p3 hN bw2 hnc hcc HN k73 f73
  change Calls _ _ _ (made w2 B id st en (sd % 2) 0 7 un) _
  generalize made w2 B id st en (sd % 2) 0 7 un = w3 at *
  have HM : Hid (SwN w3 B (w2.heap.size + 2) (w2.heap.size + 1) 1 (sd % 2) 0 7 un ⟨w2.heap.size, 0, none⟩ 2 2 (fun _ => st) (fun _ => en) (fun _ => .slice none 0 0) (fun _ => .slice none 0 0) ∧ Below w.heap.size w w3) := ⟨SW, bw3⟩
  refine (told22 B (w2.heap.size + 2) (w2.heap.size + 1) w.heap.size w2.heap.size (sd % 2) 0 7 un st en en fr 0 sj 0 now (orT tmo 2) none 0 0 w3 SW hrw pp n6 hb3 (by omega) (by omega) (by omega) (by omega) n5 n2 nc (by omega) (by omega) (by omega) (by omega) (by omega) hins).mono ?_
  rintro e w5 ⟨rfl, T⟩
  have hI : far st fr ≠ far st sj ∧ far st fr ≤ far st en ∧ far st sj ≤ far st en := hins
  have c1' : (IntKind.u64.wrap (fr - st) == IntKind.u64.wrap (sj - st)) = false := beq_eq_false_iff_ne.2 hI.1
  have c2 : IntKind.u64.wrap (fr - st) ≤ IntKind.u64.wrap (en - st) := hI.2.1
  have c3 : IntKind.u64.wrap (sj - st) ≤ IntKind.u64.wrap (en - st) := hI.2.2
  have hff : far st fr = IntKind.u64.wrap (fr - st) := rfl
  have hfs : far st sj = IntKind.u64.wrap (sj - st) := rfl
  rw [hff, hfs] at T
  clear hI hff hfs hins SW hrw n2 n5 n6 nc pp
  have B5 : Below w.heap.size w w5 := by
    rcases T with ⟨_, _, _, t⟩ | ⟨_, _, _, _, _, t⟩ | ⟨_, _, _, t⟩
    all_goals exact bw3.trans (t.below bw3.size (by intro k hk; simp at hk; omega))
  have HB5 : Hid (Below w.heap.size w w5) := B5
  clear B5
  have SWB := HM.out.1
  have hr' : decide (IntKind.u64.wrap (sj - st) < IntKind.u64.wrap (fr - st)) = true := decide_eq_true hr
  have e1 : (decide (IntKind.u64.wrap (sj - st) < IntKind.u64.wrap (fr - st)) == (sd % 2 == 1)) = false := by rw [hr', hb]; rfl
  have ep : pieceOf (IntKind.u64.wrap (fr - st)) (IntKind.u64.wrap (sj - st)) fr sj = (sj, fr) := if_pos hr
  rw [e1, ep] at T
  clear e1 ep
  obtain ⟨s3, hold, _⟩ : w5.cell? ⟨w2.heap.size + 2, 3, none⟩ = some (.int .u64 (later un now (orT tmo 2))) ∧ (∀ a : Addr, a.block < w3.heap.size → a ≠ ⟨w2.heap.size + 2, 3, none⟩ → w5.cell? a = w3.cell? a) ∧ True := by
    rcases T with ⟨_, a, b, _⟩ | ⟨h, _⟩ | ⟨h, _⟩
    · exact ⟨a, b, trivial⟩
    · cases h
    · cases h
  have old := hold
  have HZZ : Hid True := trivial
  unfold later at s3
  have q0 := (old ⟨w.heap.size + 1, 0, none⟩ (show w.heap.size + 1 < w3.heap.size by omega) (addr_ne (by omega))).trans nn
  have q73 := (old ⟨B, 73, none⟩ hb3 (addr_ne (by omega))).trans SWB.n73
  have s5 := (old ⟨w2.heap.size + 2, 5, none⟩ (show w2.heap.size + 2 < w3.heap.size by omega) (addr_ne (by omega))).trans SWB.s5
  have r0 : w5.cell? ⟨w2.heap.size + 1, 0, none⟩ = some (.int .u64 st) := (old ⟨w2.heap.size + 1, 0, none⟩ (show w2.heap.size + 1 < w3.heap.size by omega) (addr_ne (by omega))).trans (SWB.t0 0 (by decide))
  have r1 : w5.cell? ⟨w2.heap.size + 1, 1, none⟩ = some (.int .u64 en) := (old ⟨w2.heap.size + 1, 1, none⟩ (show w2.heap.size + 1 < w3.heap.size by omega) (addr_ne (by omega))).trans (SWB.t1 0 (by decide))
  have r3 : w5.cell? ⟨w2.heap.size + 1, 3, none⟩ = some (.slice none 0 0) := (old ⟨w2.heap.size + 1, 3, none⟩ (show w2.heap.size + 1 < w3.heap.size by omega) (addr_ne (by omega))).trans (SWB.t3 0 (by decide))
  have r2 : w5.cell? ⟨w2.heap.size + 1, 2, none⟩ = some (.slice none 0 0) := (old ⟨w2.heap.size + 1, 2, none⟩ (show w2.heap.size + 1 < w3.heap.size by omega) (addr_ne (by omega))).trans (SWB.t2 0 (by decide))
  clear T hold
  clear old SWB nn bw3 HM HZZ
  go_wp2_with (go_at_call 9; refine (bwait_any now tmo _).mono ?_; rintro e w' ⟨rfl, rfl⟩)
  all_goals
    go_ret
    exact ⟨rfl, HB5.out⟩
end Go.Proofs.Ybulkcfyi
