/-
  A slice of pieces, as it lies; slices.Contains of it.
-/
import Derived.Test.YbulkcfyiSend
namespace Go.Proofs.Ybulkcfyi
open Go.RowKit Go.Stop

/-- The slice's elements are the pieces ps. -/
def PcAt (w : World) (v : Value) (ps : List (Int × Int)) : Prop :=
  (v = .slice none 0 0 ∧ ps = []) ∨ ∃ g cap, v = .slice (some ⟨g, 0, none⟩) ps.length cap ∧ g < w.heap.size ∧ ∀ i, i < ps.length → w.cell? ⟨g, i * 2, none⟩ = some (.int .u64 (ps.getD i (0, 0)).1) ∧ w.cell? ⟨g, i * 2 + 1, none⟩ = some (.int .u64 (ps.getD i (0, 0)).2)

theorem PcAt.below {w w' : World} {v : Value} {ps : List (Int × Int)} (h : PcAt w v ps) (hb : Below w.heap.size w w') : PcAt w' v ps := by
  rcases h with h | ⟨g, cap, e, hg, hc⟩
  · exact .inl h
  · exact .inr ⟨g, cap, e, Nat.lt_of_lt_of_le hg hb.size, fun i hi => ⟨(hb.cell (p := ⟨g, i * 2, none⟩) hg).trans (hc i hi).1, (hb.cell (p := ⟨g, i * 2 + 1, none⟩) hg).trans (hc i hi).2⟩⟩

theorem mem_getD {ps : List (Int × Int)} {p : Int × Int} : p ∈ ps ↔ ∃ i, i < ps.length ∧ ps.getD i (0, 0) = p := by
  constructor
  · intro h
    obtain ⟨i, hi, e⟩ := List.getElem_of_mem h
    exact ⟨i, hi, by simp [List.getD_eq_getElem?_getD, hi, e]⟩
  · rintro ⟨i, hi, rfl⟩
    simp [List.getD_eq_getElem?_getD, hi]

set_option maxHeartbeats 1000000 in
theorem index_any (v : Value) (ps : List (Int × Int)) (pa pb : Int) (w : World) (h : PcAt w v ps) (hl : ps.length ≤ 1024) :
    Calls Yba.prog 36 #[v, .agg #[.int .u64 pa, .int .u64 pb]] w fun e w' => ∃ x : Int, e = .returned (.int .i64 x) ∧ (0 ≤ x ↔ (pa, pb) ∈ ps) ∧ Below w.heap.size w w' := by
  rcases h with ⟨rfl, rfl⟩ | ⟨g, cap, rfl, hg, hc⟩
  · go_enter Yba.func36, Yba.ntmps36
    go_wp2
    refine wp_loop_rounds 1 ?_
    rw [rounds_succ]
    go_wp2
    go_ret
    exact ⟨-1, rfl, by simp, (Below.refl _ w).alloc (Nat.le_refl _) _⟩
  · have HC : Hid (∀ i, i < ps.length → w.cell? ⟨g, i * 2, none⟩ = some (.int .u64 (ps.getD i (0, 0)).1) ∧ w.cell? ⟨g, i * 2 + 1, none⟩ = some (.int .u64 (ps.getD i (0, 0)).2)) := hc
    have HM : Hid ((pa, pb) ∈ ps ↔ ∃ i, i < ps.length ∧ ps.getD i (0, 0) = (pa, pb)) := mem_getD
    clear hc
    generalize ps.length = L at *
    go_enter Yba.func36, Yba.ntmps36
    go_wp2
    go_loopw [8] (fun iv wq => ∃ j : Nat, iv = .int .i64 j ∧ j ≤ L ∧ Below w.heap.size w wq ∧ (wq.cell? ⟨w.heap.size, 0, none⟩ = some (.int .u64 pa) ∧ wq.cell? ⟨w.heap.size, 1, none⟩ = some (.int .u64 pb)) ∧ Hid (∀ i, i < j → ps.getD i (0, 0) ≠ (pa, pb)))
      (fun iv _ => L - (intOf iv).toNat)
    case atStart => exact ⟨0, rfl, by omega, (Below.refl _ w).alloc (Nat.le_refl _) _, ⟨by go_simp, by go_simp⟩, fun i hi => by omega⟩
    case round =>
      obtain ⟨j, rfl, hj, hb, ⟨k0, k1⟩, HU⟩ := hrel
      have HB : Hid (Below w.heap.size w wr) := hb
      by_cases hlt : j < L
      · have x0 := (hb.cell (p := ⟨g, j * 2, none⟩) hg).trans (HC.out j hlt).1
        have x1 := (hb.cell (p := ⟨g, j * 2 + 1, none⟩) hg).trans (HC.out j hlt).2
        have HJ : Hid (ps.getD j (0, 0) = ((ps.getD j (0, 0)).1, (ps.getD j (0, 0)).2)) := rfl
        generalize (ps.getD j (0, 0)).1 = x at *
        generalize (ps.getD j (0, 0)).2 = y at *
        have hji : (j : Int) < L := by omega
        clear hb
        by_cases he : pa = x ∧ pb = y
        · obtain ⟨rfl, rfl⟩ := he
          go_wp2
          go_quiet (fail)
          go_wp2
          go_ret
          exact ⟨j, rfl, ⟨fun _ => HM.out.2 ⟨j, hlt, HJ.out⟩, fun _ => Int.natCast_nonneg _⟩, below_drewN HB.out _⟩
        · have HE : Hid (¬ (pa = x ∧ pb = y)) := he
          clear he
          by_cases hx : (pa == x) = true
          · obtain rfl : pa = x := by simpa using hx
            have hy : (pb == y) = false := beq_eq_false_iff_ne.2 (fun h' => HE.out ⟨rfl, h'⟩)
            clear hx
            go_wp2
            go_quiet (fail)
            go_wp2
            go_roundw
            case rel =>
              refine ⟨j + 1, by go_num, by omega, below_drewN HB.out _, ⟨by simpa using k0, by simpa using k1⟩, fun i hi => ?_⟩
              rcases Nat.lt_or_ge i j with h' | h'
              · exact HU.out i h'
              · obtain rfl : i = j := by omega
                rw [HJ.out]
                intro h2
                have := congrArg Prod.fst h2
                have := congrArg Prod.snd h2
                exact HE.out ⟨by simp_all, by simp_all⟩
            case measure => simp [intOf]; omega
          · have hx' : (pa == x) = false := by simpa using hx
            clear hx
            go_wp2
            go_quiet (fail)
            go_wp2
            go_roundw
            case rel =>
              refine ⟨j + 1, by go_num, by omega, below_drewN HB.out _, ⟨by simpa using k0, by simpa using k1⟩, fun i hi => ?_⟩
              rcases Nat.lt_or_ge i j with h' | h'
              · exact HU.out i h'
              · obtain rfl : i = j := by omega
                rw [HJ.out]
                intro h2
                have := congrArg Prod.fst h2
                have := congrArg Prod.snd h2
                exact HE.out ⟨by simp_all, by simp_all⟩
            case measure => simp [intOf]; omega
      · have hji : ¬ (j : Int) < L := by omega
        clear hb
        go_wp2
        go_ret
        refine ⟨-1, rfl, ⟨fun h => by omega, fun h => ?_⟩, HB.out⟩
        obtain ⟨i, hi, e⟩ := HM.out.1 h
        exact absurd e (HU.out i (by omega))

set_option maxHeartbeats 400000 in
theorem contains_any (v : Value) (ps : List (Int × Int)) (pa pb : Int) (w : World) (h : PcAt w v ps) (hl : ps.length ≤ 1024) :
    Calls Yba.prog 26 #[v, .agg #[.int .u64 pa, .int .u64 pb]] w fun e w' => e = .returned (.bool (decide ((pa, pb) ∈ ps))) ∧ Below w.heap.size w w' := by
  have H : Hid (PcAt w v ps) := h
  clear h
  go_enter Yba.func26, Yba.ntmps26
  go_wp2_with fail
  refine (index_any v ps pa pb _ (H.out.below ((Below.refl _ w).alloc (Nat.le_refl _) _)) hl).mono ?_
  rintro e w1 ⟨x, rfl, hx, hb⟩
  have HX : Hid ((0 ≤ x ↔ (pa, pb) ∈ ps) ∧ Below w.heap.size w w1) := ⟨hx, ((Below.refl _ w).alloc (Nat.le_refl _) _).trans (hb.mono (by simp))⟩
  clear hx hb
  go_wp2
  go_ret
  refine ⟨?_, HX.out.2⟩
  by_cases h0 : 0 ≤ x
  · have := HX.out.1.1 h0
    simp [h0, this]
  · have : ¬ (pa, pb) ∈ ps := fun h => h0 (HX.out.1.2 h)
    simp [h0, this]
end Go.Proofs.Ybulkcfyi
