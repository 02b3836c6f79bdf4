/-
  What zzs4102bcheck's copy leaves, and bytes.Equal of two slices with the same bytes.
-/
import Derived.Test.YbulkcfxuFmtVer
import Derived.Laws.CopyOwn
import Derived.Deep.OwnRows
namespace Go.Proofs.YbulkcfxuFmt
open Go.RowKit Go.Extern.Stop Go.Stop Go.Extern

theorem Ybaf.info5 : (Ybaf.prog.info? 5).map (fun i => (i.zero, i.size, i.bytes)) = some (some (.int .u8 0), 1, 1) := by kernel_rfl
theorem Ybaf.size5 : (Ybaf.prog.info? 5).map (·.size) = some 1 := by kernel_rfl

set_option maxHeartbeats 400000 in
theorem equal_same (v1 v2 : Value) (t : ByteArray) (w : World) (h1 : (convert 22 9 v1).run Ybaf.prog w = .ok (.string t) w) (h2 : (convert 22 9 v2).run Ybaf.prog w = .ok (.string t) w) :
    Calls Ybaf.prog 7 #[v1, v2] w fun e w' => e = .returned (.bool true) ∧ w' = w := by
  go_enter Ybaf.func7, Ybaf.ntmps7
  go_wp2
  go_ret
  exact ⟨rfl, rfl⟩

/-- The copy of a slice's bytes into a row just made. -/
theorem copy_made (g o n c : Nat) (zs : List Int) (w : World) (hl : zs.length = n) (hz : ∀ i, i < n → w.cell? ⟨g, o + i, none⟩ = some (.int .u8 (zs.getD i 0))) :
    ∃ w1, (Builtin.copy_ #[22, 22] 3 #[.slice (some ⟨w.heap.size, 0, none⟩) n n, .slice (some ⟨g, o, none⟩) n c]).run Ybaf.prog (w.alloc (.cells (madeCells #[.int .u8 0] n) 5)) = .ok (.int .i64 n) w1 ∧
      Below w.heap.size w w1 ∧ w1.heap.size = w.heap.size + 1 ∧ ∀ i, i < n → w1.cell? ⟨w.heap.size, 0 + i, none⟩ = some (.int .u8 (zs.getD i 0)) := by
  have hg : (w.alloc (.cells (madeCells #[.int .u8 0] n) 5)).heap[w.heap.size]? = some (.cells (madeCells #[.int .u8 0] n) 5 (0, 0)) := by
    show (w.heap.push _)[w.heap.size]? = _
    simp
  have hr := run_copy_row (P := Ybaf.prog) (w.alloc (.cells (madeCells #[.int .u8 0] n) 5)) 22 22 3 5 w.heap.size 0 n n ⟨g, o, none⟩ n c _ 5 (zs.map (Value.int .u8)) Ybaf.underlying22 Ybaf.size5 hg
    (by simp [hl]) (fun j v hj => by
      have hjl : j < zs.length := by
        rcases Nat.lt_or_ge j zs.length with h | h
        · exact h
        · simp [List.getElem?_eq_none (show (zs.map (Value.int .u8)).length ≤ j by simpa using h)] at hj
      have hplain : (⟨g, o, none⟩ : Addr).add j = ⟨g, o + j, none⟩ := by unfold Addr.add; split <;> simp_all
      have e := cell?_alloc_old (.cells (madeCells #[.int .u8 0] n) 5) (hz j (by omega))
      rw [hplain, e]
      simp [List.getElem?_eq_getElem hjl] at hj
      subst hj
      simp [List.getD, List.getElem?_eq_getElem hjl])
    (by simp [hl, size_madeCells]) (by intro v hv; obtain ⟨z, _, rfl⟩ := List.mem_map.1 hv; rfl)
  have ed : List.drop (0 + (zs.map (Value.int .u8)).length) (madeCells #[.int .u8 0] n).toList = [] := by
    apply List.drop_eq_nil_of_le
    simp [hl, size_madeCells]
  rw [ed] at hr
  simp only [List.take_zero, List.nil_append, List.append_nil, List.length_map, hl] at hr
  refine ⟨_, hr, below_setRow ((Below.refl _ w).alloc (Nat.le_refl _) _) (Nat.le_refl _) _, by simp, fun i hi => ?_⟩
  rw [Nat.zero_add, cell_setRow_same _ _ _ _ _ _ _ hg]
  have hil : i < zs.length := by omega
  simp [List.getElem?_eq_getElem hil]

theorem conv_at (g o n c : Nat) (zs : List Int) (w : World) (hl : zs.length = n) (hz : ∀ i, i < n → w.cell? ⟨g, o + i, none⟩ = some (.int .u8 (zs.getD i 0))) :
    (convert 22 9 (.slice (some ⟨g, o, none⟩) n c)).run Ybaf.prog w = .ok (.string (strOfNums zs)) w :=
  run_convert_bytes_arg (P := Ybaf.prog) w 22 5 Ybaf.underlying22 Ybaf.underlying5 g o n c zs hl hz 9 Ybaf.underlying9
end Go.Proofs.YbulkcfxuFmt
