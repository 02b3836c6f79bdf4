/-
  The leaves under addLink at a stretch without runs: along, firstRun, slices.Insert, slices.Replace.
-/
import Derived.Test.YbulkcfyiTold
namespace Go.Proofs.Ybulkcfyi
open Go.RowKit Go.Stop

set_option maxHeartbeats 400000 in
theorem along_any (tb o : Nat) (st c : Int) (w : World) (h : w.cell? ⟨tb, o, none⟩ = some (.int .u64 st)) : Calls Yba.prog 37 #[.pointer (some ⟨tb, o, none⟩), .int .u64 c] w fun e w' => e = .returned (.int .u64 (far st c)) ∧ w' = w := by
  go_enter Yba.func37, Yba.ntmps37
  go_wp2_with fail
  refine (cw_far st c w).mono ?_
  rintro e w' ⟨rfl, rfl⟩
  go_wp2
  go_ret
  exact ⟨rfl, rfl⟩

set_option maxHeartbeats 400000 in
theorem search_zero (f : Value) (w : World) : Calls Yba.prog 57 #[.int .i64 0, f] w fun e w' => e = .returned (.int .i64 0) ∧ w' = w := by
  go_enter Yba.func57, Yba.ntmps57
  go_wp2
  refine wp_loop_rounds 1 ?_
  rw [rounds_succ]
  go_wp2
  go_ret
  exact ⟨rfl, rfl⟩

set_option maxHeartbeats 400000 in
theorem firstRun_nil (tb o : Nat) (off : Int) (by' : Bool) (w : World) (h : w.cell? ⟨tb, o + 2, none⟩ = some (.slice none 0 0)) : Calls Yba.prog 38 #[.pointer (some ⟨tb, o, none⟩), .int .u64 off, .bool by'] w fun e w' => e = .returned (.int .i64 0) ∧ Below w.heap.size w w' := by
  have hmf : ∀ (fn : Fn) (first cap : Array Value) (w : World), (Instr.makeFunc fn first cap).run Yba.prog w = .ok (.func fn first cap) w := fun _ _ _ _ => rfl
  have hc : ∀ o1 o2 o3, (((w.alloc o1).alloc o2).alloc o3).cell? ⟨tb, o + 2, none⟩ = some (.slice none 0 0) := fun o1 o2 o3 => cell?_alloc_old _ (cell?_alloc_old _ (cell?_alloc_old _ h))
  clear h
  go_enter Yba.func38, Yba.ntmps38
  go_wp2_with fail
  refine (search_zero _ _).mono ?_
  rintro e w' ⟨rfl, rfl⟩
  go_wp2
  go_ret
  exact ⟨rfl, (((Below.refl _ w).alloc (Nat.le_refl _) _).alloc (by simp) _).alloc (by simp; omega) _⟩

set_option maxHeartbeats 400000 in
/-- slices.Insert of one piece into nil. -/
theorem insert_nil (x y : Int) (b : Nat) (w : World) (hb : w.heap[b]? = some (.cells #[.int .u64 x, .int .u64 y] 44)) :
    Calls Yba.prog 59 #[.slice none 0 0, .int .i64 0, .slice (some ⟨b, 0, none⟩) 1 1] w fun e w' => ∃ g cap, e = .returned (.slice (some ⟨g, 0, none⟩) 1 cap) ∧ w.heap.size ≤ g ∧ PcAt w' (.slice (some ⟨g, 0, none⟩) 1 cap) [(x, y)] ∧ w.grownBy w' none := by
  obtain ⟨v', w7, hrun, hpc7, hnew7, hgr7⟩ := append_pc (.slice none 0 0) [] x y w b (.inl ⟨rfl, rfl⟩) (.inl rfl) (by simp) hb
  obtain ⟨g7, c7, rfl⟩ : ∃ g7 c7, v' = .slice (some ⟨g7, 0, none⟩) 1 c7 := by
    rcases hpc7 with ⟨_, h⟩ | ⟨g, cap, e, _, _⟩
    · simp at h
    · exact ⟨g, cap, by simpa using e⟩
  have HR : Hid ((Builtin.append_ #[41, 41] 41 #[.slice none 0 0, .slice (some ⟨b, 0, none⟩) 1 1]).run Yba.prog w = .ok (.slice (some ⟨g7, 0, none⟩) 1 c7) w7) := hrun
  have H7 : Hid (w.heap.size ≤ g7 ∧ PcAt w7 (.slice (some ⟨g7, 0, none⟩) 1 c7) [(x, y)] ∧ w.grownBy w7 none) := ⟨hnew7 _ _ _ rfl, hpc7, hgr7⟩
  clear hrun hpc7 hnew7 hgr7 hb
  go_enter Yba.func59, Yba.ntmps59
  go_wp2_with (at_builtin; refine wpList_append_run rfl (.tmp 23) (.tmp 24) 41 rfl _ _ _ rfl rfl HR.out ?_)
  go_ret
  exact ⟨g7, c7, rfl, H7.out.1, H7.out.2.1, H7.out.2.2⟩

set_option maxHeartbeats 400000 in
set_option maxRecDepth 100000 in
theorem replace_nil (x y : Int) (b : Nat) (w : World) (hb : w.heap[b]? = some (.cells #[.int .u64 x, .int .u64 y] 44)) :
    Calls Yba.prog 39 #[.slice none 0 0, .int .i64 0, .int .i64 0, .slice (some ⟨b, 0, none⟩) 1 1] w fun e w' => ∃ g cap, e = .returned (.slice (some ⟨g, 0, none⟩) 1 cap) ∧ w.heap.size ≤ g ∧ PcAt w' (.slice (some ⟨g, 0, none⟩) 1 cap) [(x, y)] ∧ w.grownBy w' none := by
  have HB : Hid (w.heap[b]? = some (.cells #[.int .u64 x, .int .u64 y] 44)) := hb
  clear hb
  go_enter Yba.func39, Yba.ntmps39
  go_wp2_with fail
  refine (insert_nil x y b w HB.out).mono ?_
  rintro e w' ⟨g, cap, rfl, h1, h2, h3⟩
  have H : Hid (w.heap.size ≤ g ∧ PcAt w' (.slice (some ⟨g, 0, none⟩) 1 cap) [(x, y)] ∧ w.grownBy w' none) := ⟨h1, h2, h3⟩
  clear h1 h2 h3
  go_wp2
  go_ret
  exact ⟨g, cap, rfl, H.out.1, H.out.2.1, H.out.2.2⟩
end Go.Proofs.Ybulkcfyi
