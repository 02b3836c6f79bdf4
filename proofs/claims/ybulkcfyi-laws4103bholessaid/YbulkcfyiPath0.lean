/-
  The small functions under pathTold: IndexFunc over one sweep, clockwise, sweepWait, the clocks, back, along.
-/
import Derived.Test.YbulkcfyiNode
namespace Go.Proofs.Ybulkcfyi
open Go.RowKit

set_option maxHeartbeats 400000 in
theorem idx_hit (sb mb : Nat) (sd at' tg un tm : Int) (p1 p2 : Addr) (l1 c1 l2 c2 : Nat) (w : World)
    (h0 : w.cell? ⟨sb, 0, none⟩ = some (.int .i64 sd)) (h1 : w.cell? ⟨sb, 1, none⟩ = some (.int .u64 at')) (h2 : w.cell? ⟨sb, 2, none⟩ = some (.int .u64 tg)) (h3 : w.cell? ⟨sb, 3, none⟩ = some (.int .u64 un))
    (h4 : w.cell? ⟨sb, 4, none⟩ = some (.slice (some p1) l1 c1)) (h5 : w.cell? ⟨sb, 5, none⟩ = some (.slice (some p2) l2 c2)) (hm : w.cell? ⟨mb, 5, none⟩ = some (.int .u64 tm)) (hmb : mb < w.heap.size) (ht : (tg == tm) = true) :
    Calls Yba.prog 22 #[.slice (some ⟨sb, 0, none⟩) 1 1, .func (.func 23) #[] #[.pointer (some ⟨mb, 0, none⟩)]] w fun e w' => e = .returned (.int .i64 0) ∧ Below w.heap.size w w' := by
  go_enter Yba.func22, Yba.ntmps22
  go_wp2
  refine wp_loop_rounds 1 ?_
  rw [rounds_succ]
  go_wp2
  go_ret
  exact ⟨rfl, (Below.refl _ w).alloc (Nat.le_refl _) _⟩

set_option maxHeartbeats 400000 in
theorem idx_miss (sb mb : Nat) (sd at' tg un tm : Int) (p1 p2 : Addr) (l1 c1 l2 c2 : Nat) (w : World)
    (h0 : w.cell? ⟨sb, 0, none⟩ = some (.int .i64 sd)) (h1 : w.cell? ⟨sb, 1, none⟩ = some (.int .u64 at')) (h2 : w.cell? ⟨sb, 2, none⟩ = some (.int .u64 tg)) (h3 : w.cell? ⟨sb, 3, none⟩ = some (.int .u64 un))
    (h4 : w.cell? ⟨sb, 4, none⟩ = some (.slice (some p1) l1 c1)) (h5 : w.cell? ⟨sb, 5, none⟩ = some (.slice (some p2) l2 c2)) (hm : w.cell? ⟨mb, 5, none⟩ = some (.int .u64 tm)) (hmb : mb < w.heap.size) (ht : (tg == tm) = false) :
    Calls Yba.prog 22 #[.slice (some ⟨sb, 0, none⟩) 1 1, .func (.func 23) #[] #[.pointer (some ⟨mb, 0, none⟩)]] w fun e w' => e = .returned (.int .i64 (-1)) ∧ Below w.heap.size w w' := by
  go_enter Yba.func22, Yba.ntmps22
  go_wp2
  refine wp_loop_rounds 2 ?_
  rw [rounds_succ]
  go_wp2
  rw [rounds_succ]
  go_wp2
  go_ret
  exact ⟨rfl, (Below.refl _ w).alloc (Nat.le_refl _) _⟩

set_option maxHeartbeats 400000 in
theorem cw_any (a b : Int) (w : World) : Calls Yba.prog 24 #[.int .u64 a, .int .u64 b] w fun e w' => e = .returned (.int .u64 (IntKind.u64.wrap (b - a))) ∧ w' = w := by
  go_enter Yba.func24, Yba.ntmps24
  go_wp2
  go_ret
  exact ⟨rfl, rfl⟩

set_option maxHeartbeats 400000 in
theorem wait_any (b : Nat) (t : Int) (w : World) (h : w.cell? ⟨b, 2, none⟩ = some (.int .u64 t)) : Calls Yba.prog 25 #[.pointer (some ⟨b, 0, none⟩)] w fun e w' => e = .returned (.int .u64 (IntKind.u64.wrap (2 * t))) ∧ w' = w := by
  go_enter Yba.func25, Yba.ntmps25
  go_wp2
  go_ret
  exact ⟨rfl, rfl⟩

set_option maxHeartbeats 400000 in
theorem nowB_any (c : Nat) (n : Int) (w : World) (h : w.cell? ⟨c, 0, none⟩ = some (.int .u64 n)) : Calls Yba.prog 88 #[.pointer (some ⟨c, 0, none⟩)] w fun e w' => e = .returned (.int .u64 n) ∧ w' = w := by
  go_enter Yba.func88, Yba.ntmps88
  go_wp2
  go_ret
  exact ⟨rfl, rfl⟩

set_option maxHeartbeats 400000 in
theorem nowC_any (c : Nat) (n : Int) (w : World) (h : w.cell? ⟨c, 0, none⟩ = some (.int .u64 n)) : Calls Yba.prog 95 #[.pointer (some ⟨c, 0, none⟩)] w fun e w' => e = .returned (.int .u64 n) ∧ w' = w := by
  go_enter Yba.func95, Yba.ntmps95
  go_wp2
  go_ret
  exact ⟨rfl, rfl⟩

set_option maxHeartbeats 400000 in
theorem back_any (s : Nat) (sd : Int) (w : World) (h : w.cell? ⟨s, 0, none⟩ = some (.int .i64 sd)) : Calls Yba.prog 27 #[.pointer (some ⟨s, 0, none⟩)] w fun e w' => e = .returned (.bool (sd == 1)) ∧ w' = w := by
  go_enter Yba.func27, Yba.ntmps27
  go_wp2
  go_ret
  exact ⟨rfl, rfl⟩

/-! The clock, through the interface -/
theorem nilAheadB (a : Addr) (w : World) : (nilAhead 300 27 (.pointer (some a)) "Now").run Yba.prog w = .ok (some false) w := by kernel_rfl
theorem methodB (a : Addr) (w : World) : (Go.method 300 27 (.pointer (some a)) "Now").run Yba.prog w = .ok (88, .pointer (some a)) w := by kernel_rfl
theorem nilAheadC (a : Addr) (w : World) : (nilAhead 300 90 (.pointer (some a)) "Now").run Yba.prog w = .ok (some false) w := by kernel_rfl
theorem methodC (a : Addr) (w : World) : (Go.method 300 90 (.pointer (some a)) "Now").run Yba.prog w = .ok (95, .pointer (some a)) w := by kernel_rfl
end Go.Proofs.Ybulkcfyi
