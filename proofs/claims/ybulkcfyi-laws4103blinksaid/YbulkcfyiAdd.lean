/-
  addLink at a stretch without runs.
-/
import Derived.Test.YbulkcfyiLink0
import Derived.Deep.RegionHeld3
import Derived.Deep.RegionLaw
import Derived.Deep.RegionWith
namespace Go.Proofs.Ybulkcfyi
open Go.RowKit Go.Stop
attribute [local go_sem ↓] Go.wp_at_zero Go.wp_at_succ

set_option maxHeartbeats 2000000 in
set_option maxRecDepth 100000 in
theorem add_nil (tb o : Nat) (st x y : Int) (w : World) (h0 : w.cell? ⟨tb, o, none⟩ = some (.int .u64 st)) (h2 : w.cell? ⟨tb, o + 2, none⟩ = some (.slice none 0 0)) (f2 : w.frozen? ⟨tb, o + 2, none⟩ = false) :
    Calls Yba.prog 28 #[.pointer (some ⟨tb, o, none⟩), .agg #[.int .u64 x, .int .u64 y]] w fun e w' => e = .returned (.bool true) ∧ (∃ g cap, w'.cell? ⟨tb, o + 2, none⟩ = some (.slice (some ⟨g, 0, none⟩) 1 cap) ∧ PcAt w' (.slice (some ⟨g, 0, none⟩) 1 cap) [(x, y)] ∧ w.heap.size ≤ g) ∧ (∀ a : Addr, a.block < w.heap.size → a ≠ ⟨tb, o + 2, none⟩ → w'.cell? a = w.cell? a) ∧ Turned [tb] w w' := by
  have htb := World.block_lt_of_cell? _ _ h0
  have hc0 : ∀ ob, (w.alloc ob).cell? ⟨tb, o, none⟩ = some (.int .u64 st) := fun ob => cell?_alloc_old ob h0
  have HC : Hid ((∀ ob, (w.alloc ob).cell? ⟨tb, o, none⟩ = some (.int .u64 st)) ∧ w.cell? ⟨tb, o + 2, none⟩ = some (.slice none 0 0) ∧ w.frozen? ⟨tb, o + 2, none⟩ = false) := ⟨hc0, h2, f2⟩
  clear hc0 h0 h2 f2
  go_enter Yba.func28, Yba.ntmps28
  go_wp2_with fail
  go_quiet ((go_at_call 37; exact Calls.quiet_of_same (along_any tb o st _ _ (HC.out.1 _))))
  generalize far st x = fx at *
  generalize far st y = fy at *
  go_wp2_with fail
  have bA : Below w.heap.size w ((w.alloc (.cells #[.int .u64 x, .int .u64 y] 44)).drewN nq) := below_drewN ((Below.refl _ w).alloc (Nat.le_refl _) _) _
  have c2 := (bA.cell (p := ⟨tb, o + 2, none⟩) htb).trans HC.out.2.1
  refine (firstRun_nil tb o fx false _ c2).mono ?_
  rintro e w1 ⟨rfl, hb1⟩
  have b1 : Below w.heap.size w w1 := bA.trans (hb1.mono bA.size)
  have r1 : w1.heap[w.heap.size]? = some (.cells #[.int .u64 x, .int .u64 y] 44) := by
    rw [hb1.block _ (by simp)]
    exact (by simpa using heap_alloc_last w (.cells #[.int .u64 x, .int .u64 y] 44))
  have H1 : Hid (Below w.heap.size w w1 ∧ w1.heap[w.heap.size]? = some (.cells #[.int .u64 x, .int .u64 y] 44)) := ⟨b1, r1⟩
  clear bA c2 hb1 b1 r1
  go_wp2_with fail
  have c2 := (H1.out.1.cell (p := ⟨tb, o + 2, none⟩) htb).trans HC.out.2.1
  refine (firstRun_nil tb o fy true _ c2).mono ?_
  rintro e w2 ⟨rfl, hb2⟩
  have b2 : Below w.heap.size w w2 := H1.out.1.trans (hb2.mono H1.out.1.size)
  have hw1 : w.heap.size < w1.heap.size := (Array.getElem?_eq_some_iff.1 H1.out.2).1
  have r2 : w2.heap[w.heap.size]? = some (.cells #[.int .u64 x, .int .u64 y] 44) := (hb2.block _ hw1).trans H1.out.2
  have k2 := (b2.cell (p := ⟨tb, o + 2, none⟩) htb).trans HC.out.2.1
  have e0 : w2.cell? ⟨w.heap.size, 0, none⟩ = some (.int .u64 x) := by rw [cell_of_row _ _ _ _ _ _ r2]; rfl
  have e1 : w2.cell? ⟨w.heap.size, 1, none⟩ = some (.int .u64 y) := by rw [cell_of_row _ _ _ _ _ _ r2]; rfl
  have H2 : Hid (Below w.heap.size w w2) := b2
  have hw2 : w.heap.size < w2.heap.size := Nat.lt_of_lt_of_le hw1 hb2.size
  clear c2 hb2 b2 r2 H1
  go_wp2_with fail
  go_quiet (fail)
  obtain ⟨v2, ev2⟩ : ∃ v2, v2 = w2.drewN nq := ⟨_, rfl⟩
  rw [← ev2]
  have d0 : v2.cell? ⟨w.heap.size, 0, none⟩ = some (.int .u64 x) := by rw [ev2]; simpa using e0
  have d1 : v2.cell? ⟨w.heap.size, 1, none⟩ = some (.int .u64 y) := by rw [ev2]; simpa using e1
  have d2 : v2.cell? ⟨tb, o + 2, none⟩ = some (.slice none 0 0) := by rw [ev2]; simpa using k2
  have hv : w.heap.size < v2.heap.size := by rw [ev2]; simpa using hw2
  have bv : Below w.heap.size w v2 := by rw [ev2]; exact below_drewN H2.out _
  have H3 : Hid (Below w.heap.size w v2) := bv
  have htv : tb < v2.heap.size := by omega
  clear e0 e1 k2 hw2 bv ev2 H2
  go_wp2_with fail
  refine wp_loop_rounds 1 ?_
  rw [rounds_succ]
  go_wp2_with fail
  have P1 : ((v2.alloc (.cells #[.int .u64 x, .int .u64 y] 44)).alloc (.cells #[.int .u64 x, .int .u64 y] 44)).heap[v2.heap.size + 1]? = some (.cells #[.int .u64 x, .int .u64 y] 44) := by
    have := heap_alloc_last (v2.alloc (.cells #[.int .u64 x, .int .u64 y] 44)) (.cells #[.int .u64 x, .int .u64 y] 44)
    simpa using this
  have P2 : ((v2.alloc (.cells #[.int .u64 x, .int .u64 y] 44)).alloc (.cells #[.int .u64 x, .int .u64 y] 44)).cell? ⟨tb, o + 2, none⟩ = some (.slice none 0 0) := cell?_alloc_old _ (cell?_alloc_old _ d2)
  have P3 : ((v2.alloc (.cells #[.int .u64 x, .int .u64 y] 44)).alloc (.cells #[.int .u64 x, .int .u64 y] 44)).frozen? ⟨tb, o + 2, none⟩ = false := by
    rw [World.frozen?_alloc_old _ _ _ (by simp; omega), World.frozen?_alloc_old _ _ _ (by simp; omega), H3.out.frozen (p := ⟨tb, o + 2, none⟩) htb]
    exact HC.out.2.2
  have HP : Hid (((v2.alloc (.cells #[.int .u64 x, .int .u64 y] 44)).alloc (.cells #[.int .u64 x, .int .u64 y] 44)).heap[v2.heap.size + 1]? = some (.cells #[.int .u64 x, .int .u64 y] 44) ∧ ((v2.alloc (.cells #[.int .u64 x, .int .u64 y] 44)).alloc (.cells #[.int .u64 x, .int .u64 y] 44)).cell? ⟨tb, o + 2, none⟩ = some (.slice none 0 0) ∧ ((v2.alloc (.cells #[.int .u64 x, .int .u64 y] 44)).alloc (.cells #[.int .u64 x, .int .u64 y] 44)).frozen? ⟨tb, o + 2, none⟩ = false) := ⟨P1, P2, P3⟩
  clear P1 P2 P3
  go_region_with (go_at_call 39; refine (replace_nil x y (v2.heap.size + 1) _ ?_).mono ?_; exact HP.out.1; rintro e w3 ⟨g, cap, rfl, hg1, hg2, hg3⟩; have cc := (hg3.cell_far ⟨tb, o + 2, none⟩ (by simp; omega) (by simp)).trans HP.out.2.1; have ff := (hg3.frozen_far ⟨tb, o + 2, none⟩ (by simp; omega) (by simp)).trans HP.out.2.2)
  all_goals
    go_wp2
    go_ret
    have hgv : v2.heap.size + 2 ≤ g := by simpa using hg1
    have bz : Below w.heap.size w ((v2.alloc (.cells #[.int .u64 x, .int .u64 y] 44)).alloc (.cells #[.int .u64 x, .int .u64 y] 44)).drew := ((H3.out.alloc (by omega) _).alloc (by simp; omega) _).drew
    have t3 : Turned [tb] w w3 := (Turned.of_below bz).grown hg3
    refine ⟨rfl, ⟨g, cap, World.cell?_setCell_same _ _ _ cc, hg2.turned ((Turned.refl [tb] w3).setCell ⟨tb, o + 2, none⟩ (.inr (by simp)) _) (fun a l c e => by cases e; simp; omega), by omega⟩, fun a ha hne => ?_, t3.setCell _ (.inr (by simp)) _⟩
    rw [World.cell?_setCell_other _ _ _ _ (Ne.symm hne), hg3.cell_far a (by simp; omega) (by simp)]
    exact bz.cell ha
end Go.Proofs.Ybulkcfyi
