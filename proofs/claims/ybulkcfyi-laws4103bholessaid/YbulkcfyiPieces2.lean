/-
  A piece appended to a full slice of pieces.
-/
import Derived.Test.YbulkcfyiPieces
import Derived.ArgAppend
namespace Go.Proofs.Ybulkcfyi
open Go.RowKit Go.Stop

theorem PcAt.turned {ks : List Nat} {w w' : World} {v : Value} {ps : List (Int × Int)} (h : PcAt w v ps) (ht : Turned ks w w') (hk : ∀ a l c, v = .slice (some a) l c → a.block ∉ ks) : PcAt w' v ps := by
  rcases h with h | ⟨g, cap, e, hg, hc⟩
  · exact .inl h
  · have hg' := hk _ _ _ e
    exact .inr ⟨g, cap, e, Nat.lt_of_lt_of_le hg ht.size, fun i hi => ⟨(ht.cell (p := ⟨g, i * 2, none⟩) hg hg').trans (hc i hi).1, (ht.cell (p := ⟨g, i * 2 + 1, none⟩) hg hg').trans (hc i hi).2⟩⟩

def pcCells (ps : List (Int × Int)) : List Value := ps.flatMap fun p => [.int .u64 p.1, .int .u64 p.2]
theorem pcCells_len : ∀ ps : List (Int × Int), (pcCells ps).length = ps.length * 2
  | [] => rfl
  | p :: ps => by
    have := pcCells_len ps
    simp [pcCells] at this ⊢
    omega
theorem pcCells_get : ∀ (ps : List (Int × Int)) (i : Nat), i < ps.length → (pcCells ps)[i * 2]? = some (.int .u64 (ps.getD i (0, 0)).1) ∧ (pcCells ps)[i * 2 + 1]? = some (.int .u64 (ps.getD i (0, 0)).2)
  | [], i, h => by simp at h
  | p :: ps, 0, _ => by simp [pcCells]
  | p :: ps, i + 1, h => by
    have := pcCells_get ps i (by simpa using h)
    have e1 : (i + 1) * 2 = i * 2 + 2 := by omega
    have e2 : (i + 1) * 2 + 1 = i * 2 + 1 + 2 := by omega
    rw [e1, show i * 2 + 2 + 1 = i * 2 + 1 + 2 by omega]
    simpa [pcCells] using this
theorem pcCells_append (ps qs : List (Int × Int)) : pcCells (ps ++ qs) = pcCells ps ++ pcCells qs := by simp [pcCells]
theorem pcCells_one (u : Value) (ps : List (Int × Int)) (h : u ∈ pcCells ps) : u.oneCell' = true := by
  simp only [pcCells, List.mem_flatMap, List.mem_cons, List.not_mem_nil, or_false] at h
  obtain ⟨p, _, rfl | rfl⟩ := h <;> rfl

theorem Yba.info44 : (Yba.prog.info? 44).map (fun i => (i.zero, i.size, i.bytes)) = some (some (.agg #[.int .u64 0, .int .u64 0]), 2, 16) := by kernel_rfl

/-- The cells of a full slice, one by one. -/
theorem pc_cells {w : World} {g : Nat} {ps : List (Int × Int)} (hc : ∀ i, i < ps.length → w.cell? ⟨g, i * 2, none⟩ = some (.int .u64 (ps.getD i (0, 0)).1) ∧ w.cell? ⟨g, i * 2 + 1, none⟩ = some (.int .u64 (ps.getD i (0, 0)).2)) :
    ∀ j u, (pcCells ps)[j]? = some u → w.cell? ((⟨g, 0, none⟩ : Addr).add j) = some u := by
  intro j u hu
  have hj : j < ps.length * 2 := by rw [← pcCells_len]; exact (List.getElem?_eq_some_iff.1 hu).1
  rw [Addr.add_lit, Nat.zero_add]
  have hq := hc (j / 2) (by omega)
  have hp := pcCells_get ps (j / 2) (by omega)
  rcases Nat.mod_two_eq_zero_or_one j with h | h
  · have e : j = j / 2 * 2 := by omega
    rw [e] at hu ⊢
    rw [hp.1] at hu
    rw [hq.1]; exact hu
  · have e : j = j / 2 * 2 + 1 := by omega
    rw [e] at hu ⊢
    rw [hp.2] at hu
    rw [hq.2]; exact hu

theorem pc_of_row {w : World} {base : Nat} {v : Value} {m : Nat} {ps : List (Int × Int)} (h : w.ownsRow base 44 2 v m (pcCells ps)) (hm : m = ps.length) : PcAt w v ps ∧ (∀ a l c, v = .slice (some a) l c → base ≤ a.block) := by
  subst hm
  rcases h.2 with ⟨rfl, h0⟩ | ⟨g, cap, cur, rfl, hb, hg, hcap, hmax, hsz, htk⟩
  · refine ⟨.inl ⟨rfl, List.eq_nil_of_length_eq_zero h0⟩, fun a l c e => by cases e⟩
  · refine ⟨.inr ⟨g, cap, rfl, (Array.getElem?_eq_some_iff.1 hg).1, fun i hi => ?_⟩, fun a l c e => by cases e; exact hb⟩
    have key : ∀ j, j < ps.length * 2 → w.cell? ⟨g, j, none⟩ = (pcCells ps)[j]? := by
      intro j hj
      rw [cell_of_row w g j cur 44 (0, 0) hg]
      have e1 : (cur.toList.take (ps.length * 2))[j]? = (pcCells ps)[j]? := by rw [htk]
      rw [List.getElem?_take_of_lt hj] at e1
      rw [← Array.getElem?_toList, e1]
    have hp := pcCells_get ps i hi
    exact ⟨by rw [key _ (by omega), hp.1], by rw [key _ (by omega), hp.2]⟩

/-- append of one piece to a slice that has no room. -/
theorem append_pc (v : Value) (ps : List (Int × Int)) (x y : Int) (w : World) (b : Nat) (h : PcAt w v ps) (hf : v = .slice none 0 0 ∨ ∃ g, v = .slice (some ⟨g, 0, none⟩) ps.length ps.length) (hl : ps.length ≤ 1024)
    (hb : w.heap[b]? = some (.cells #[.int .u64 x, .int .u64 y] 44)) :
    ∃ v' w', (Builtin.append_ #[41, 41] 41 #[v, .slice (some ⟨b, 0, none⟩) 1 1]).run Yba.prog w = .ok v' w' ∧ PcAt w' v' (ps ++ [(x, y)]) ∧ (∀ a l c, v' = .slice (some a) l c → w.heap.size ≤ a.block) ∧ w.grownBy w' none := by
  obtain ⟨i0, hi, hz0, hz1, hz2⟩ := info_parts Yba.info44
  have hnews := World.news_of_block hb
  have hml : maxLen = 9223372036854775807 := rfl
  rcases h with ⟨rfl, rfl⟩ | ⟨g, cap, rfl, hg, hc⟩
  · obtain ⟨v', w', hr, hown, hgr, _⟩ := run_append_own (P := Yba.prog) w w.heap.size 41 41 44 i0 _ 2 16 Yba.underlying41 hi hz0 hz1 hz2 rfl (by decide) (.slice none 0 0) 0 [] (World.ownsRow_nil _ _ _ _) ⟨b, 0, none⟩ 1 1 _ rfl hnews
      (by intro u hu; simp at hu; rcases hu with rfl | rfl <;> rfl) (by rw [hml]; omega) (by omega) (Nat.le_refl _)
    have := pc_of_row (ps := [(x, y)]) hown rfl
    exact ⟨v', w', hr, this.1, this.2, hgr⟩
  · have hcap : cap = ps.length := by
      rcases hf with h | ⟨g', h⟩
      · cases h
      · simp only [Value.slice.injEq] at h; exact h.2.2
    subst hcap
    obtain ⟨v', w', hr, hown, hgr⟩ := run_append_arg_grows (P := Yba.prog) w 41 41 44 i0 _ 2 16 Yba.underlying41 hi hz0 hz1 hz2 rfl (by decide) ⟨g, 0, none⟩ ps.length ps.length (pcCells ps) (pcCells_len ps) (pc_cells hc) ⟨b, 0, none⟩ 1 1 _ rfl hnews (by omega) (by rw [hml]; omega) (by omega)
    have e : pcCells ps ++ (#[.int .u64 x, .int .u64 y] : Array Value).toList = pcCells (ps ++ [(x, y)]) := by rw [pcCells_append]; rfl
    rw [e] at hown
    have := pc_of_row hown (by simp)
    exact ⟨v', w', hr, this.1, this.2, hgr⟩
end Go.Proofs.Ybulkcfyi
