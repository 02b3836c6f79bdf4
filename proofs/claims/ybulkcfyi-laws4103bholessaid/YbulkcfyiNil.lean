/-
  The library's functions at the nil slice, cmp.Or at two values, rand.New, rand.NewPCG, Leafset of nobody: what NewNode calls.
-/
import Derived.Test.YbulkcfyiProg
import Derived.WalkKit
import Derived.WalkSpells
import Derived.WalkLawsBesides
import Derived.BigQuiet
import Derived.RegionTactic
namespace Go.Proofs.Ybulkcfyi
open Go.RowKit

set_option maxHeartbeats 400000 in
theorem clone_nil (w : World) : Calls Yba.prog 11 #[.slice none 0 0] w fun e w' => e = .returned (.slice none 0 0) ∧ w' = w := by
  have hn := fun w => Lib.run_eql_slice_nil (P := Yba.prog) w 39 36 none 0 0 0 0 Yba.underlying39
  go_enter Yba.func11, Yba.ntmps11
  go_wp2
  go_ret
  exact ⟨rfl, rfl⟩

set_option maxHeartbeats 400000 in
theorem compact_nil (w : World) : Calls Yba.prog 15 #[.slice none 0 0] w fun e w' => e = .returned (.slice none 0 0) ∧ w' = w := by
  go_enter Yba.func15, Yba.ntmps15
  go_wp2
  go_ret
  exact ⟨rfl, rfl⟩

set_option maxHeartbeats 400000 in
theorem bsearch_nil (x : Int) (w : World) : Calls Yba.prog 16 #[.slice none 0 0, .int .u64 x] w fun e w' => e = .returned (.tuple #[.int .i64 0, .bool false]) ∧ w' = w := by
  go_enter Yba.func16, Yba.ntmps16
  go_wp2
  refine wp_loop_rounds 1 ?_
  rw [rounds_succ]
  go_wp2
  go_ret2
  exact ⟨rfl, rfl⟩

set_option maxRecDepth 100000 in
set_option maxHeartbeats 400000 in
theorem len_zero (w : World) : Calls Yba.prog 32 #[.int .u64 0] w fun e w' => (∃ n, e = .returned (.int .i64 n)) ∧ w' = w := by
  go_enter Yba.func32, Yba.ntmps32
  go_wp2
  go_ret
  exact ⟨⟨_, rfl⟩, rfl⟩

set_option maxHeartbeats 400000 in
theorem or_two (g : Nat) (x y : Int) (w : World) (c0 : w.cell? ⟨g, 0, none⟩ = some (.int .u64 x)) (c1 : w.cell? ⟨g, 1, none⟩ = some (.int .u64 y)) :
    Calls Yba.prog 18 #[.slice (some ⟨g, 0, none⟩) 2 2] w fun e w' => e = .returned (.int .u64 (if x = 0 then y else x)) ∧ w' = w := by
  by_cases hx : x = 0
  · subst hx
    by_cases hy : y = 0
    · subst hy
      go_enter Yba.func18, Yba.ntmps18
      go_wp2
      refine wp_loop_rounds 3 ?_
      rw [rounds_succ]
      go_wp2
      rw [rounds_succ]
      go_wp2
      rw [rounds_succ]
      go_wp2
      go_ret
      exact ⟨rfl, rfl⟩
    · have hy' : (y != 0) = true := by rw [bne_iff_ne]; exact hy
      go_enter Yba.func18, Yba.ntmps18
      go_wp2
      refine wp_loop_rounds 2 ?_
      rw [rounds_succ]
      go_wp2
      rw [rounds_succ]
      go_wp2
      go_ret
      exact ⟨rfl, rfl⟩
  · have hx' : (x != 0) = true := by rw [bne_iff_ne]; exact hx
    rw [if_neg hx]
    go_enter Yba.func18, Yba.ntmps18
    go_wp2
    refine wp_loop_rounds 1 ?_
    rw [rounds_succ]
    go_wp2
    go_ret
    exact ⟨rfl, rfl⟩

set_option maxHeartbeats 400000 in
theorem pcg_any (x y : Int) (w : World) : Calls Yba.prog 20 #[.int .u64 x, .int .u64 y] w fun e w' => (∃ g, e = .returned (.pointer (some ⟨g, 0, none⟩))) ∧ Below w.heap.size w w' := by
  go_enter Yba.func20, Yba.ntmps20
  go_wp2
  go_ret
  exact ⟨⟨_, rfl⟩, (Below.refl _ w).alloc (Nat.le_refl _) _⟩

set_option maxHeartbeats 400000 in
theorem rand_any (g : Nat) (w : World) : Calls Yba.prog 19 #[.iface 106 (.pointer (some ⟨g, 0, none⟩))] w fun e w' => (∃ g', e = .returned (.pointer (some ⟨g', 0, none⟩))) ∧ Below w.heap.size w w' := by
  go_enter Yba.func19, Yba.ntmps19
  go_wp2
  go_ret
  exact ⟨⟨_, rfl⟩, (Below.refl _ w).alloc (Nat.le_refl _) _⟩

set_option maxHeartbeats 400000 in
theorem insertion_nil (w : World) : Calls Yba.prog 45 #[.slice none 0 0, .int .i64 0, .int .i64 0] w fun e w' => e = .returned (.tuple #[]) ∧ w' = w := by
  go_enter Yba.func45, Yba.ntmps45
  go_wp2
  refine wp_loop_rounds 1 ?_
  rw [rounds_succ]
  go_wp2
  go_end0
  exact ⟨rfl, rfl⟩

set_option maxHeartbeats 400000 in
theorem pdq_nil (n : Int) (w : World) : Calls Yba.prog 31 #[.slice none 0 0, .int .i64 0, .int .i64 0, .int .i64 n] w fun e w' => e = .returned (.tuple #[]) ∧ w' = w := by
  go_enter Yba.func31, Yba.ntmps31
  go_wp2
  refine wp_loop_rounds 1 ?_
  rw [rounds_succ]
  go_wp2_with (go_at_call 45; refine (insertion_nil _).mono ?_; rintro e w' ⟨rfl, rfl⟩)
  (try simp only [Exit.inBlock, Exit.then])
  refine bodyPost_ret (results_none rfl _ _ _) rfl ?_
  exact ⟨rfl, rfl⟩

set_option maxHeartbeats 400000 in
theorem sort_nil (w : World) : Calls Yba.prog 14 #[.slice none 0 0] w fun e w' => e = .returned (.tuple #[]) ∧ w' = w := by
  go_enter Yba.func14, Yba.ntmps14
  go_wp2_with (first | (go_at_call 32; refine (len_zero _).mono ?_; rintro e w' ⟨⟨n, rfl⟩, rfl⟩) | (go_at_call 31; refine (pdq_nil _ _).mono ?_; rintro e w' ⟨rfl, rfl⟩))
  go_end0
  exact ⟨rfl, rfl⟩

set_option maxHeartbeats 400000 in
/-- The leafset of nobody. -/
theorem leafset_nil (x l : Int) (w : World) (h0 : 0 ≤ l) (h1 : l ≤ 1) :
    Calls Yba.prog 21 #[.int .u64 x, .slice none 0 0, .int .i64 l] w fun e w' => e = .returned (.slice none 0 0) ∧ Below w.heap.size w w' := by
  go_enter Yba.func21, Yba.ntmps21
  go_wp2_with (first | (go_at_call 16; refine (bsearch_nil _ _).mono ?_; rintro e w' ⟨rfl, rfl⟩) | go_in)
  go_region
  go_wp2
  go_region
  go_wp2
  go_end0
  go_wp2
  go_ret
  exact ⟨rfl, by repeat (first | exact Below.refl _ _ | refine Below.drew ?_ | refine Below.alloc ?_ (by simp only [World.size_alloc]; omega) _ | refine Below.alloc ?_ (Nat.le_refl _) _)⟩
end Go.Proofs.Ybulkcfyi
