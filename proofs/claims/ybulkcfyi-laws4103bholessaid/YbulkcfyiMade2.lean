/-
  The made sweep's own row; zzs4103bwait.
-/
import Derived.Test.YbulkcfyiMade
namespace Go.Proofs.Ybulkcfyi
open Go.RowKit Go.Stop

theorem addr_ne {a c : Nat} {b d : Nat} (h : b ≠ d ∨ a ≠ c) : (⟨a, b, none⟩ : Addr) ≠ ⟨c, d, none⟩ := by
  intro e
  cases e
  simp at h

theorem made_row (w : World) (B : Nat) (id st en sd at' tg un : Int) (hB : B < w.heap.size) :
    (made w B id st en sd at' tg un).heap[w.heap.size + 2]? = some (.cells #[.int .i64 sd, .int .u64 at', .int .u64 tg, .int .u64 un, .slice (some ⟨w.heap.size, 0, none⟩) 2 2, .slice (some ⟨w.heap.size + 1, 0, none⟩) 1 1] 49) := by
  have b2 : (made0 w id st en sd at' tg un).heap[w.heap.size + 2]? = some (.cells #[.int .i64 sd, .int .u64 at', .int .u64 tg, .int .u64 un, .slice (some ⟨w.heap.size, 0, none⟩) 2 2, .slice (some ⟨w.heap.size + 1, 0, none⟩) 1 1] 49) := heap_new (by simp)
  have keep : (made w B id st en sd at' tg un).heap[w.heap.size + 2]? = (made0 w id st en sd at' tg un).heap[w.heap.size + 2]? := Below.heap_setCell _ _ _ _ (by show w.heap.size + 2 ≠ B; omega)
  exact keep.trans b2

set_option maxHeartbeats 400000 in
theorem bwait_any (now tmo : Int) (w : World) : Calls Yba.prog 9 #[.int .u64 now, .int .u64 tmo] w fun e w' => e = .returned (.int .u64 (IntKind.u64.wrap (now + IntKind.u64.wrap (2 * orT tmo 2)))) ∧ w' = w := by
  by_cases h : tmo = 0
  · subst h
    have e : IntKind.u64.wrap (2 * orT 0 2) = 4 := rfl
    rw [e]
    go_enter Yba.func9, Yba.ntmps9
    go_wp2
    go_ret
    exact ⟨rfl, rfl⟩
  · have e : orT tmo 2 = tmo := if_neg h
    have h' : (tmo == 0) = false := by simp [h]
    rw [e]
    go_enter Yba.func9, Yba.ntmps9
    go_wp2
    go_ret
    exact ⟨rfl, rfl⟩
end Go.Proofs.Ybulkcfyi
