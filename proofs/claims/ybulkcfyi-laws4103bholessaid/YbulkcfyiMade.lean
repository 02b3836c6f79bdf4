/-
  The one sweep of one stretch that the laws lay into the node.
-/
import Derived.Test.YbulkcfyiTold
import Derived.Deep.WholeRow
namespace Go.Proofs.Ybulkcfyi
open Go.RowKit Go.Stop

theorem heap_new {w : World} {o : Obj} {k : Nat} (h : k = w.heap.size) : (w.alloc o).heap[k]? = some o := by
  subst h
  exact heap_alloc_last w o
theorem heap_old {w : World} {o : Obj} {k : Nat} {x : Obj} (h : w.heap[k]? = some x) : (w.alloc o).heap[k]? = some x := by
  have hk : k < w.heap.size := (Array.getElem?_eq_some_iff.1 h).1
  rw [Below.heap_alloc w o k hk, h]

/-- The world behind 'n.sweeps = []sweep{{..}}', ahead of the store. -/
def made0 (w : World) (id st en sd at' tg un : Int) : World :=
  ((w.alloc (.cells #[.int .u64 id, .int .u64 en] 36)).alloc (.cells #[.int .u64 st, .int .u64 en, .slice none 0 0, .slice none 0 0, .map none] 47)).alloc
    (.cells #[.int .i64 sd, .int .u64 at', .int .u64 tg, .int .u64 un, .slice (some ⟨w.heap.size, 0, none⟩) 2 2, .slice (some ⟨w.heap.size + 1, 0, none⟩) 1 1] 49)
def made (w : World) (B : Nat) (id st en sd at' tg un : Int) : World := (made0 w id st en sd at' tg un).setCell ⟨B, 73, none⟩ (.slice (some ⟨w.heap.size + 2, 0, none⟩) 1 1)

theorem made_ready (w : World) (B : Nat) (id st en sd at' tg un : Int) (hB : B < w.heap.size) (k73 : w.cell? ⟨B, 73, none⟩ = some (.slice none 0 0)) (f73 : w.frozen? ⟨B, 73, none⟩ = false) :
    (made0 w id st en sd at' tg un).cell? ⟨B, 73, none⟩ = some (.slice none 0 0) ∧ (made0 w id st en sd at' tg un).frozen? ⟨B, 73, none⟩ = false := by
  unfold made0
  constructor
  · exact cell?_alloc_old _ (cell?_alloc_old _ (cell?_alloc_old _ k73))
  · rw [World.frozen?_alloc_old _ _ _ (by simp; omega), World.frozen?_alloc_old _ _ _ (by simp; omega), World.frozen?_alloc_old _ _ _ (by simp; omega)]
    exact f73

theorem made_laid (w : World) (B : Nat) (id st en sd at' tg un : Int) (hB : B < w.heap.size) (k73 : w.cell? ⟨B, 73, none⟩ = some (.slice none 0 0)) (f73 : w.frozen? ⟨B, 73, none⟩ = false) :
    SwN (made w B id st en sd at' tg un) B (w.heap.size + 2) (w.heap.size + 1) 1 sd at' tg un ⟨w.heap.size, 0, none⟩ 2 2 (fun _ => st) (fun _ => en) (fun _ => .slice none 0 0) (fun _ => .slice none 0 0) ∧
      (made w B id st en sd at' tg un).heap.size = w.heap.size + 3 ∧ Turned [B] w (made w B id st en sd at' tg un) ∧ (∀ a : Addr, a.block < w.heap.size → a ≠ ⟨B, 73, none⟩ → (made w B id st en sd at' tg un).cell? a = w.cell? a) ∧
      (made w B id st en sd at' tg un).heap[w.heap.size]? = some (.cells #[.int .u64 id, .int .u64 en] 36) := by
  have r := made_ready w B id st en sd at' tg un hB k73 f73
  have b0 : (made0 w id st en sd at' tg un).heap[w.heap.size]? = some (.cells #[.int .u64 id, .int .u64 en] 36) := heap_old (heap_old (heap_new rfl))
  have b1 : (made0 w id st en sd at' tg un).heap[w.heap.size + 1]? = some (.cells #[.int .u64 st, .int .u64 en, .slice none 0 0, .slice none 0 0, .map none] 47) := heap_old (heap_new (by simp))
  have b2 : (made0 w id st en sd at' tg un).heap[w.heap.size + 2]? = some (.cells #[.int .i64 sd, .int .u64 at', .int .u64 tg, .int .u64 un, .slice (some ⟨w.heap.size, 0, none⟩) 2 2, .slice (some ⟨w.heap.size + 1, 0, none⟩) 1 1] 49) := heap_new (by simp)
  have keep : ∀ k, k ≠ B → (made w B id st en sd at' tg un).heap[k]? = (made0 w id st en sd at' tg un).heap[k]? := fun k hk => Below.heap_setCell _ _ _ _ (by simpa using hk)
  have c0 := (keep _ (by omega)).trans b0
  have c1 := (keep _ (by omega)).trans b1
  have c2 := (keep _ (by omega)).trans b2
  have hz : (made w B id st en sd at' tg un).heap.size = w.heap.size + 3 := by simp [made, made0, World.setCell]
  have ht : Turned [B] w (made w B id st en sd at' tg un) := ((((Turned.refl [B] w).alloc _).alloc _).alloc _).setCell _ (.inr (by simp)) _
  refine ⟨⟨World.cell?_setCell_same _ _ _ r.1, ?_, ?_, ?_, ?_, ?_, ?_, ?_, ?_, ?_, ?_, ?_, ?_, ?_, ?_⟩, hz, ht, ?_, c0⟩
  · rw [cell_of_row _ _ _ _ _ _ c2]; rfl
  · rw [cell_of_row _ _ _ _ _ _ c2]; rfl
  · rw [cell_of_row _ _ _ _ _ _ c2]; rfl
  · rw [cell_of_row _ _ _ _ _ _ c2]; rfl
  · rw [cell_of_row _ _ _ _ _ _ c2]; rfl
  · rw [cell_of_row _ _ _ _ _ _ c2]; rfl
  · intro i hi; obtain rfl : i = 0 := by omega
    rw [cell_of_row _ _ _ _ _ _ c1]; rfl
  · intro i hi; obtain rfl : i = 0 := by omega
    rw [cell_of_row _ _ _ _ _ _ c1]; rfl
  · intro i hi; obtain rfl : i = 0 := by omega
    rw [cell_of_row _ _ _ _ _ _ c1]; rfl
  · intro i hi; obtain rfl : i = 0 := by omega
    rw [cell_of_row _ _ _ _ _ _ c1]; rfl
  · intro i hi; obtain rfl : i = 0 := by omega
    rw [cell_of_row _ _ _ _ _ _ c1]; rfl
  · simp [World.frozen?, c2]
  · intro o; simp [World.frozen?, c1]
  · unfold made; rw [World.frozen?_setCell]; exact r.2
  · intro a ha hne
    unfold made
    rw [World.cell?_setCell_other _ _ _ _ (Ne.symm hne)]
    unfold made0
    rw [World.cell?_alloc_lt _ _ _ (by simp; omega), World.cell?_alloc_lt _ _ _ (by simp; omega), World.cell?_alloc_lt _ _ _ ha]
end Go.Proofs.Ybulkcfyi
