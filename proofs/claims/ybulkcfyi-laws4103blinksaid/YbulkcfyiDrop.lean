/-
  done, slices.Delete of the one sweep, dropJoined.
-/
import Derived.Test.YbulkcfyiTold
import Derived.Deep.RegionLaw
import Derived.Deep.WholeRow
import Derived.Deep.RegionWith
namespace Go.Proofs.Ybulkcfyi
open Go.RowKit Go.Stop
attribute [local go_sem ↓] Go.wp_at_zero Go.wp_at_succ

set_option maxHeartbeats 800000 in
theorem done_yes (b g cap : Nat) (st en : Int) (w : World) (h0 : w.cell? ⟨b, 0, none⟩ = some (.int .u64 st)) (h1 : w.cell? ⟨b, 1, none⟩ = some (.int .u64 en)) (h2 : w.cell? ⟨b, 2, none⟩ = some (.slice (some ⟨g, 0, none⟩) 1 cap))
    (g0 : w.cell? ⟨g, 0, none⟩ = some (.int .u64 st)) (g1 : w.cell? ⟨g, 1, none⟩ = some (.int .u64 en)) :
    Calls Yba.prog 40 #[.pointer (some ⟨b, 0, none⟩)] w fun e w' => e = .returned (.bool true) ∧ Below w.heap.size w w' := by
  go_enter Yba.func40, Yba.ntmps40
  go_wp2
  go_quiet (fail)
  go_wp2
  go_ret
  exact ⟨rfl, below_drewN (Below.refl _ _) _⟩

set_option maxHeartbeats 800000 in
theorem done_no (b g cap : Nat) (st en x y : Int) (w : World) (h0 : w.cell? ⟨b, 0, none⟩ = some (.int .u64 st)) (h1 : w.cell? ⟨b, 1, none⟩ = some (.int .u64 en)) (h2 : w.cell? ⟨b, 2, none⟩ = some (.slice (some ⟨g, 0, none⟩) 1 cap))
    (g0 : w.cell? ⟨g, 0, none⟩ = some (.int .u64 x)) (g1 : w.cell? ⟨g, 1, none⟩ = some (.int .u64 y)) (hne : ¬ (x = st ∧ y = en)) :
    Calls Yba.prog 40 #[.pointer (some ⟨b, 0, none⟩)] w fun e w' => e = .returned (.bool false) ∧ Below w.heap.size w w' := by
  have HE : Hid (¬ (x = st ∧ y = en)) := hne
  clear hne
  by_cases hx : (x == st) = true
  · obtain rfl : x = st := by simpa using hx
    have hy : (y == en) = false := beq_eq_false_iff_ne.2 (fun h' => HE.out ⟨rfl, h'⟩)
    clear hx
    go_enter Yba.func40, Yba.ntmps40
    go_wp2
    go_quiet (fail)
    go_wp2
    go_ret
    exact ⟨rfl, below_drewN (Below.refl _ _) _⟩
  · have hx' : (x == st) = false := by simpa using hx
    clear hx
    go_enter Yba.func40, Yba.ntmps40
    go_wp2
    go_quiet (fail)
    go_wp2
    go_ret
    exact ⟨rfl, below_drewN (Below.refl _ _) _⟩

def zero49 : Array Value := #[.int .i64 0, .int .u64 0, .int .u64 0, .int .u64 0, .slice none 0 0, .slice none 0 0]

theorem Yba.info49 : (Yba.prog.info? 49).map (fun i => (i.zero, i.size)) = some (some (.agg zero49), 6) := by kernel_rfl

theorem clear_one (sb : Nat) (cur : Array Value) (w : World) (hb : w.heap[sb]? = some (.cells cur 49)) (hs : cur.size = 6) :
    (Builtin.clear_ #[50] 0 #[.slice (some ⟨sb, 0, none⟩) 1 1]).run Yba.prog w = .ok (.tuple #[]) (w.setRow sb zero49) := by
  have hst := run_storeCells_from (P := Yba.prog) sb 49 zero49.toList 0 cur w hb (by rw [hs]; rfl) (by intro v hv; simp [zero49] at hv; rcases hv with rfl | rfl | rfl <;> rfl)
  have hz := (zero_of_info Yba.info49).1
  have hc : (Builtin.zeroCells (Value.agg zero49).cells 1).toList = zero49.toList := by kernel_rfl
  have hst' : (storeCells ⟨sb, 0, none⟩ zero49.toList).run Yba.prog w = .ok () (w.setRow sb zero49) := hst
  simp [Builtin.clear_, run_underlying Yba.underlying50, hz, hc, hst']

set_option maxHeartbeats 800000 in
set_option maxRecDepth 100000 in
theorem delete_one (sb : Nat) (v0 v1 v2 v3 v4 v5 : Value) (w : World) (hb : w.heap[sb]? = some (.cells #[v0, v1, v2, v3, v4, v5] 49)) :
    Calls Yba.prog 43 #[.slice (some ⟨sb, 0, none⟩) 1 1, .int .i64 0, .int .i64 1] w fun e w' => e = .returned (.slice (some ⟨sb, 0, none⟩) 0 1) ∧ Turned [sb] w w' := by
  go_enter Yba.func43, Yba.ntmps43
  have b0 : w.cell? ⟨sb, 0, none⟩ = some v0 := by rw [cell_of_row _ _ _ _ _ _ hb]; rfl
  have b1 : w.cell? ⟨sb, 1, none⟩ = some v1 := by rw [cell_of_row _ _ _ _ _ _ hb]; rfl
  have b2 : w.cell? ⟨sb, 2, none⟩ = some v2 := by rw [cell_of_row _ _ _ _ _ _ hb]; rfl
  have b3 : w.cell? ⟨sb, 3, none⟩ = some v3 := by rw [cell_of_row _ _ _ _ _ _ hb]; rfl
  have b4 : w.cell? ⟨sb, 4, none⟩ = some v4 := by rw [cell_of_row _ _ _ _ _ _ hb]; rfl
  have b5 : w.cell? ⟨sb, 5, none⟩ = some v5 := by rw [cell_of_row _ _ _ _ _ _ hb]; rfl
  have fz : ∀ o, w.frozen? ⟨sb, o, none⟩ = false := fun o => by simp [World.frozen?, hb]
  have hcl := clear_one sb #[v0, v1, v2, v3, v4, v5] w.drew hb rfl
  have HB : Hid (w.heap[sb]? = some (.cells #[v0, v1, v2, v3, v4, v5] 49)) := hb
  clear hb
  go_wp2_with fail
  go_region
  go_wp2
  go_ret
  refine ⟨rfl, rfl, rfl, rfl, by simp [World.setRow], fun k hk hn => ?_⟩
  exact setRow_other w.drew sb k zero49 (by simpa using hn)

set_option maxHeartbeats 2000000 in
set_option maxRecDepth 100000 in
/-- dropJoined where the one stretch isn't found whole. -/
theorem drop_no (nb sb tb g cap : Nat) (st en x y : Int) (hv : Value) (w : World)
    (n73 : w.cell? ⟨nb, 73, none⟩ = some (.slice (some ⟨sb, 0, none⟩) 1 1)) (s5 : w.cell? ⟨sb, 5, none⟩ = some (.slice (some ⟨tb, 0, none⟩) 1 1))
    (t0 : w.cell? ⟨tb, 0, none⟩ = some (.int .u64 st)) (t1 : w.cell? ⟨tb, 1, none⟩ = some (.int .u64 en)) (t2 : w.cell? ⟨tb, 2, none⟩ = some (.slice (some ⟨g, 0, none⟩) 1 cap)) (t3 : w.cell? ⟨tb, 3, none⟩ = some hv) (t4 : w.cell? ⟨tb, 4, none⟩ = some (.map none))
    (g0 : w.cell? ⟨g, 0, none⟩ = some (.int .u64 x)) (g1 : w.cell? ⟨g, 1, none⟩ = some (.int .u64 y)) (hvs : ∃ a l c, hv = .slice a l c) (hne : ¬ (x = st ∧ y = en)) :
    Calls Yba.prog 29 #[.pointer (some ⟨nb, 0, none⟩), .int .i64 0] w fun e w' => e = .returned (.tuple #[]) ∧ Below w.heap.size w w' := by
  obtain ⟨ha, hl, hc, rfl⟩ := hvs
  have HE : Hid (¬ (x = st ∧ y = en)) := hne
  have hg := World.block_lt_of_cell? _ _ g0
  clear hne
  go_enter Yba.func29, Yba.ntmps29
  go_wp2_with fail
  refine wp_loop_rounds 1 ?_
  rw [rounds_succ]
  go_wp2_with fail
  refine (done_no w.heap.size g cap st en x y _ ?_ ?_ ?_ ?_ ?_ HE.out).mono ?_
  · go_simp
  · go_simp
  · go_simp
  · exact cell?_alloc_old _ g0
  · exact cell?_alloc_old _ g1
  rintro e w1 ⟨rfl, hb1⟩
  have HB : Hid (Below w.heap.size w w1) := ((Below.refl _ w).alloc (Nat.le_refl _) _).trans (hb1.mono (by simp))
  clear hb1
  go_wp2
  (try simp only [Exit.inBlock, Exit.then])
  refine bodyPost_ret (results_none rfl _ _ _) rfl ?_
  exact ⟨rfl, HB.out⟩

set_option maxHeartbeats 2000000 in
set_option maxRecDepth 100000 in
/-- dropJoined where the one stretch is found whole: the sweep ends. -/
theorem drop_yes (nb sb tb g cap P0 : Nat) (st en i1 : Int) (v0 v1 v2 v3 hv : Value) (w : World)
    (n73 : w.cell? ⟨nb, 73, none⟩ = some (.slice (some ⟨sb, 0, none⟩) 1 1)) (f73 : w.frozen? ⟨nb, 73, none⟩ = false) (n6 : w.cell? ⟨nb, 6, none⟩ = some (.slice none 0 0)) (hsb : w.heap[sb]? = some (.cells #[v0, v1, v2, v3, .slice (some ⟨P0, 0, none⟩) 2 2, .slice (some ⟨tb, 0, none⟩) 1 1] 49))
    (p1 : w.cell? ⟨P0, 1, none⟩ = some (.int .u64 i1))
    (t0 : w.cell? ⟨tb, 0, none⟩ = some (.int .u64 st)) (t1 : w.cell? ⟨tb, 1, none⟩ = some (.int .u64 en)) (t2 : w.cell? ⟨tb, 2, none⟩ = some (.slice (some ⟨g, 0, none⟩) 1 cap)) (t3 : w.cell? ⟨tb, 3, none⟩ = some hv) (t4 : w.cell? ⟨tb, 4, none⟩ = some (.map none))
    (g0 : w.cell? ⟨g, 0, none⟩ = some (.int .u64 st)) (g1 : w.cell? ⟨g, 1, none⟩ = some (.int .u64 en)) (hvs : ∃ a l c, hv = .slice a l c) (hns : nb ≠ sb) :
    Calls Yba.prog 29 #[.pointer (some ⟨nb, 0, none⟩), .int .i64 0] w fun e w' => e = .returned (.tuple #[]) ∧ w'.cell? ⟨nb, 73, none⟩ = some (.slice (some ⟨sb, 0, none⟩) 0 1) ∧ Turned [nb, sb] w w' := by
  obtain ⟨ha, hl, hc, rfl⟩ := hvs
  have s4 : w.cell? ⟨sb, 4, none⟩ = some (.slice (some ⟨P0, 0, none⟩) 2 2) := by rw [cell_of_row _ _ _ _ _ _ hsb]; rfl
  have s5 : w.cell? ⟨sb, 5, none⟩ = some (.slice (some ⟨tb, 0, none⟩) 1 1) := by rw [cell_of_row _ _ _ _ _ _ hsb]; rfl
  have hnb := World.block_lt_of_cell? _ _ n73
  have hsz := World.block_lt_of_cell? _ _ s4
  have hpz := World.block_lt_of_cell? _ _ p1
  have HS : Hid (w.heap[sb]? = some (.cells #[v0, v1, v2, v3, .slice (some ⟨P0, 0, none⟩) 2 2, .slice (some ⟨tb, 0, none⟩) 1 1] 49) ∧ nb ≠ sb) := ⟨hsb, hns⟩
  have HN : Hid (w.cell? ⟨nb, 73, none⟩ = some (.slice (some ⟨sb, 0, none⟩) 1 1) ∧ w.frozen? ⟨nb, 73, none⟩ = false ∧ w.cell? ⟨nb, 6, none⟩ = some (.slice none 0 0) ∧ w.cell? ⟨sb, 4, none⟩ = some (.slice (some ⟨P0, 0, none⟩) 2 2) ∧ w.cell? ⟨P0, 1, none⟩ = some (.int .u64 i1)) := ⟨n73, f73, n6, s4, p1⟩
  clear hsb hns f73 n6 p1
  go_enter Yba.func29, Yba.ntmps29
  go_wp2_with fail
  refine wp_loop_rounds 2 ?_
  rw [rounds_succ]
  go_wp2_with fail
  refine (done_yes w.heap.size g cap st en _ ?_ ?_ ?_ ?_ ?_).mono ?_
  · go_simp
  · go_simp
  · go_simp
  · exact cell?_alloc_old _ g0
  · exact cell?_alloc_old _ g1
  rintro e w1 ⟨rfl, hb1⟩
  have bw : Below w.heap.size w w1 := ((Below.refl _ w).alloc (Nat.le_refl _) _).trans (hb1.mono (by simp))
  have q73 := (bw.cell (p := ⟨nb, 73, none⟩) hnb).trans HN.out.1
  have q6 := (bw.cell (p := ⟨nb, 6, none⟩) hnb).trans HN.out.2.2.1
  have q4 := (bw.cell (p := ⟨sb, 4, none⟩) hsz).trans HN.out.2.2.2.1
  have qp := (bw.cell (p := ⟨P0, 1, none⟩) hpz).trans HN.out.2.2.2.2
  have HB : Hid (Below w.heap.size w w1) := bw
  clear hb1 bw s4 s5 t0 t1 t2 t3 t4 g0 g1 n73
  go_wp2_with fail
  refine (bsearch_nil i1 _).mono ?_
  rintro e w' ⟨rfl, rfl⟩
  go_wp2_with fail
  go_quiet (fail)
  go_wp2_with fail
  rw [rounds_succ]
  go_wp2_with fail
  have hd := (HB.out.block sb hsz).trans HS.out.1
  refine (delete_one sb v0 v1 v2 v3 _ _ (w'.drewN nq) (by simpa using hd)).mono ?_
  rintro e w3 ⟨rfl, t3⟩
  have hnb' : nb < w'.heap.size := Nat.lt_of_lt_of_le hnb HB.out.size
  have c73 : w3.cell? ⟨nb, 73, none⟩ = some (.slice (some ⟨sb, 0, none⟩) 1 1) := (t3.cell (p := ⟨nb, 73, none⟩) (by simpa using hnb') (by simpa using HS.out.2)).trans (by simpa using q73)
  have f73 : w3.frozen? ⟨nb, 73, none⟩ = false := (t3.frozen (p := ⟨nb, 73, none⟩) (by simpa using hnb') (by simpa using HS.out.2)).trans (by
    have := (HB.out.frozen (p := ⟨nb, 73, none⟩) hnb).trans HN.out.2.1
    simpa using this)
  have HT : Hid (Turned [sb] (w'.drewN nq) w3) := t3
  clear t3 hd q73 q6 q4 qp
  go_wp2
  go_end0
  exact ⟨rfl, World.cell?_setCell_same _ _ _ c73, ((Turned.of_below (below_drewN HB.out nq)).trans (HT.out.mono (by simp))).setCell _ (.inr (by simp)) _⟩
end Go.Proofs.Ybulkcfyi
