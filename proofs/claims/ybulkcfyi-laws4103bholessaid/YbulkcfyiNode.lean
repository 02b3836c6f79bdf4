/-
  NewNode with no neighbour, by a contract. Its last statement leaves the order of 44 operations open: by the rule of YbulkcfyiSlots, an operation at a time.
-/
import Derived.Test.YbulkcfyiNodeT
namespace Go.Proofs.Ybulkcfyi
open Go.RowKit

theorem ev (a : Act) (k : Tmp) : a.eval (.tmp k) = a.tmps[k]?.getD undef := by simp [Act.eval]
theorem two_new (w : World) (x y : Int) : TwoAt (.slice (some ⟨w.heap.size, 0, none⟩) 2 2) (w.alloc (.cells #[.int .u64 x, .int .u64 y] 28)) :=
  ⟨w.heap.size, x, y, rfl, by simp, by go_simp, by go_simp⟩

set_option maxRecDepth 100000 in
set_option maxHeartbeats 2000000 in
theorem new_node (id l to : Int) (tn tc : TypeId) (an ac : Addr) (w : World) (hl0 : 0 ≤ l) (hl1 : l ≤ 1) :
    Calls Yba.prog 7 #[.int .u64 id, .agg #[.int .i64 l, .int .u64 to, .int .u64 0, .int .u64 0, .int .u64 0, .int .u64 0, .int .u64 0], .iface tn (.pointer (some an)), .iface tc (.pointer (some ac)), .slice none 0 0] w fun e w' =>
      ∃ b, e = .returned (.pointer (some ⟨b, 0, none⟩)) ∧ w.heap.size ≤ b ∧ b < w'.heap.size ∧ NodeAt w' b id (orT to 2) (.iface tn (.pointer (some an))) (.iface tc (.pointer (some ac))) ∧ Below w.heap.size w w' := by
  have hmk := make_links
  go_enter Yba.func7, Yba.ntmps7
  go_wp2_with (first | (go_at_call 11; refine (clone_nil _).mono ?_; rintro e w' ⟨rfl, rfl⟩) | (go_at_call 14; refine (sort_nil _).mono ?_; rintro e w' ⟨rfl, rfl⟩) | (go_at_call 15; refine (compact_nil _).mono ?_; rintro e w' ⟨rfl, rfl⟩) | (go_at_call 16; refine (bsearch_nil _ _).mono ?_; rintro e w' ⟨rfl, rfl⟩))
  refine wp_loop_rounds 1 ?_
  rw [rounds_succ]
  go_wp2_with fail
  refine (or_any (w.heap.size + 1 + 1) to 2 _ (by go_simp) (by go_simp)).mono ?_
  rintro e w' ⟨rfl, rfl⟩
  go_wp2_with fail
  refine wp_region_slots [0, 2, 3, 6, 11, 14, 16] (nodeT id l (orT to 2) (.iface tn (.pointer (some an))) (.iface tc (.pointer (some ac))) w.heap.size (w.heap.size + 1) w.heap.size) (by kernel_rfl) (by kernel_rfl) (nodeT_mono _ _ _ _ _ _ _ _) ?start ?steps ?done
  case start =>
    intro k hk
    simp only [List.mem_cons, List.not_mem_nil, or_false] at hk
    rcases hk with rfl | rfl | rfl | rfl | rfl | rfl | rfl <;> rfl
  case done =>
    intro a w' _ hd hb hT
    have h10 := hT 10 (Or.inl (by kernel_rfl))
    go_wp2
    obtain ⟨b, e10, h1, h2, h3⟩ := h10
    refine bodyPost_ret (results_tmp rfl _ _ _) hd ?_
    refine ⟨b, ?_, h1, h2, h3, ?_⟩
    · rw [← e10]; rfl
    · refine Below.trans ?_ (hb.mono (by simp only [World.size_alloc]; omega))
      repeat (first | exact Below.refl _ _ | refine Below.drew ?_ | refine Below.alloc ?_ (by simp only [World.size_alloc]; omega) _ | refine Below.alloc ?_ (Nat.le_refl _) _)
  case steps =>
    rw [List.forall_mem_cons]; refine ⟨?_, ?_⟩
    · intro a w1 hb hk
      have h0 : a.tmps[0]?.getD undef = .int .u64 id := (ev a 0).symm.trans (hk 0 (by decide) : a.eval (.tmp 0) = .int .u64 id)
      clear hk
      go_simp
      exact ⟨_, rfl, Below.refl _ _, rfl⟩
    rw [List.forall_mem_cons]; refine ⟨?_, ?_⟩
    · intro a w1 hb hk
      have h6 : a.tmps[6]?.getD undef = .pointer (some ⟨w.heap.size, 0, none⟩) := (ev a 6).symm.trans (hk 6 (by decide) : a.eval (.tmp 6) = .pointer (some ⟨w.heap.size, 0, none⟩))
      clear hk
      go_simp
      exact ⟨_, rfl, Below.refl _ _, rfl⟩
    rw [List.forall_mem_cons]; refine ⟨?_, ?_⟩
    · intro a w1 hb hk
      have h59 : a.tmps[59]?.getD undef = .pointer (some ⟨w.heap.size, 0, none⟩) := (ev a 59).symm.trans (hk 59 (by decide) : a.eval (.tmp 59) = .pointer (some ⟨w.heap.size, 0, none⟩))
      clear hk
      have hc : w1.cell? ⟨w.heap.size, 0, none⟩ = some (.int .i64 l) := (hb.cell (p := ⟨w.heap.size, 0, none⟩) (by simp only [World.size_alloc]; omega)).trans (by go_simp)
      go_simp
      exact ⟨_, rfl, Below.refl _ _, rfl⟩
    rw [List.forall_mem_cons]; refine ⟨?_, ?_⟩
    · intro a w1 hb hk
      have h16 : a.tmps[16]?.getD undef = .int .u64 (orT to 2) := (ev a 16).symm.trans (hk 16 (by decide) : a.eval (.tmp 16) = .int .u64 (orT to 2))
      clear hk
      go_simp
      exact ⟨_, rfl, Below.refl _ _, rfl⟩
    rw [List.forall_mem_cons]; refine ⟨?_, ?_⟩
    · intro a w1 hb hk
      have h6 : a.tmps[6]?.getD undef = .pointer (some ⟨w.heap.size, 0, none⟩) := (ev a 6).symm.trans (hk 6 (by decide) : a.eval (.tmp 6) = .pointer (some ⟨w.heap.size, 0, none⟩))
      clear hk
      go_simp
      exact ⟨_, rfl, Below.refl _ _, rfl⟩
    rw [List.forall_mem_cons]; refine ⟨?_, ?_⟩
    · intro a w1 hb hk
      have h62 : a.tmps[62]?.getD undef = .pointer (some ⟨w.heap.size, 2, none⟩) := (ev a 62).symm.trans (hk 62 (by decide) : a.eval (.tmp 62) = .pointer (some ⟨w.heap.size, 2, none⟩))
      clear hk
      have hc : w1.cell? ⟨w.heap.size, 2, none⟩ = some (.int .u64 0) := (hb.cell (p := ⟨w.heap.size, 2, none⟩) (by simp only [World.size_alloc]; omega)).trans (by go_simp)
      go_simp
      exact ⟨_, rfl, Below.refl _ _, rfl⟩
    rw [List.forall_mem_cons]; refine ⟨?_, ?_⟩
    · intro a w1 hb hk
      have h16 : a.tmps[16]?.getD undef = .int .u64 (orT to 2) := (ev a 16).symm.trans (hk 16 (by decide) : a.eval (.tmp 16) = .int .u64 (orT to 2))
      clear hk
      go_simp
      exact ⟨_, rfl, Below.refl _ _, rfl⟩
    rw [List.forall_mem_cons]; refine ⟨?_, ?_⟩
    · intro a w1 hb hk
      have h64 : a.tmps[64]?.getD undef = .int .u64 (orT to 2) := (ev a 64).symm.trans (hk 64 (by decide) : a.eval (.tmp 64) = .int .u64 (orT to 2))
      clear hk
      go_simp
      exact ⟨_, rfl, Below.refl _ _, _, rfl⟩
    rw [List.forall_mem_cons]; refine ⟨?_, ?_⟩
    · intro a w1 hb hk
      have h63 : a.tmps[63]?.getD undef = .int .u64 0 := (ev a 63).symm.trans (hk 63 (by decide) : a.eval (.tmp 63) = .int .u64 0)
      obtain ⟨n65, g65⟩ : ∃ n : Int, a.eval (.tmp 65) = .int .u64 n := hk 65 (by decide)
      have h65 := (ev a 65).symm.trans g65
      clear hk
      go_simp
      exact ⟨_, rfl, (Below.refl _ _).alloc (Nat.le_refl _) _, two_new _ _ _⟩
    rw [List.forall_mem_cons]; refine ⟨?_, ?_⟩
    · intro a w1 hb hk
      obtain ⟨g66, x66, y66, e66, l66, p66, q66⟩ : TwoAt (a.eval (.tmp 66)) w1 := hk 66 (by decide)
      have h66 := (ev a 66).symm.trans e66
      clear hk
      go_simp
      refine (or_any g66 x66 y66 _ p66 q66).mono ?_
      rintro e w2 ⟨rfl, rfl⟩
      exact ⟨_, rfl, Below.refl _ _, _, rfl⟩
    rw [List.forall_mem_cons]; refine ⟨?_, ?_⟩
    · intro a w1 hb hk
      have h6 : a.tmps[6]?.getD undef = .pointer (some ⟨w.heap.size, 0, none⟩) := (ev a 6).symm.trans (hk 6 (by decide) : a.eval (.tmp 6) = .pointer (some ⟨w.heap.size, 0, none⟩))
      clear hk
      go_simp
      exact ⟨_, rfl, Below.refl _ _, rfl⟩
    rw [List.forall_mem_cons]; refine ⟨?_, ?_⟩
    · intro a w1 hb hk
      have h68 : a.tmps[68]?.getD undef = .pointer (some ⟨w.heap.size, 3, none⟩) := (ev a 68).symm.trans (hk 68 (by decide) : a.eval (.tmp 68) = .pointer (some ⟨w.heap.size, 3, none⟩))
      clear hk
      have hc : w1.cell? ⟨w.heap.size, 3, none⟩ = some (.int .u64 0) := (hb.cell (p := ⟨w.heap.size, 3, none⟩) (by simp only [World.size_alloc]; omega)).trans (by go_simp)
      go_simp
      exact ⟨_, rfl, Below.refl _ _, rfl⟩
    rw [List.forall_mem_cons]; refine ⟨?_, ?_⟩
    · intro a w1 hb hk
      have h69 : a.tmps[69]?.getD undef = .int .u64 0 := (ev a 69).symm.trans (hk 69 (by decide) : a.eval (.tmp 69) = .int .u64 0)
      clear hk
      go_simp
      exact ⟨_, rfl, (Below.refl _ _).alloc (Nat.le_refl _) _, two_new _ _ _⟩
    rw [List.forall_mem_cons]; refine ⟨?_, ?_⟩
    · intro a w1 hb hk
      obtain ⟨g70, x70, y70, e70, l70, p70, q70⟩ : TwoAt (a.eval (.tmp 70)) w1 := hk 70 (by decide)
      have h70 := (ev a 70).symm.trans e70
      clear hk
      go_simp
      refine (or_any g70 x70 y70 _ p70 q70).mono ?_
      rintro e w2 ⟨rfl, rfl⟩
      exact ⟨_, rfl, Below.refl _ _, _, rfl⟩
    rw [List.forall_mem_cons]; refine ⟨?_, ?_⟩
    · intro a w1 hb hk
      obtain ⟨n71, g71⟩ : ∃ n : Int, a.eval (.tmp 71) = .int .u64 n := hk 71 (by decide)
      have h71 := (ev a 71).symm.trans g71
      clear hk
      go_simp
      exact ⟨_, rfl, Below.refl _ _, _, _, rfl⟩
    rw [List.forall_mem_cons]; refine ⟨?_, ?_⟩
    · intro a w1 hb hk
      have h6 : a.tmps[6]?.getD undef = .pointer (some ⟨w.heap.size, 0, none⟩) := (ev a 6).symm.trans (hk 6 (by decide) : a.eval (.tmp 6) = .pointer (some ⟨w.heap.size, 0, none⟩))
      clear hk
      go_simp
      exact ⟨_, rfl, Below.refl _ _, rfl⟩
    rw [List.forall_mem_cons]; refine ⟨?_, ?_⟩
    · intro a w1 hb hk
      have h73 : a.tmps[73]?.getD undef = .pointer (some ⟨w.heap.size, 4, none⟩) := (ev a 73).symm.trans (hk 73 (by decide) : a.eval (.tmp 73) = .pointer (some ⟨w.heap.size, 4, none⟩))
      clear hk
      have hc : w1.cell? ⟨w.heap.size, 4, none⟩ = some (.int .u64 0) := (hb.cell (p := ⟨w.heap.size, 4, none⟩) (by simp only [World.size_alloc]; omega)).trans (by go_simp)
      go_simp
      exact ⟨_, rfl, Below.refl _ _, rfl⟩
    rw [List.forall_mem_cons]; refine ⟨?_, ?_⟩
    · intro a w1 hb hk
      have h74 : a.tmps[74]?.getD undef = .int .u64 0 := (ev a 74).symm.trans (hk 74 (by decide) : a.eval (.tmp 74) = .int .u64 0)
      clear hk
      go_simp
      exact ⟨_, rfl, (Below.refl _ _).alloc (Nat.le_refl _) _, two_new _ _ _⟩
    rw [List.forall_mem_cons]; refine ⟨?_, ?_⟩
    · intro a w1 hb hk
      obtain ⟨g75, x75, y75, e75, l75, p75, q75⟩ : TwoAt (a.eval (.tmp 75)) w1 := hk 75 (by decide)
      have h75 := (ev a 75).symm.trans e75
      clear hk
      go_simp
      refine (or_any g75 x75 y75 _ p75 q75).mono ?_
      rintro e w2 ⟨rfl, rfl⟩
      exact ⟨_, rfl, Below.refl _ _, _, rfl⟩
    rw [List.forall_mem_cons]; refine ⟨?_, ?_⟩
    · intro a w1 hb hk
      obtain ⟨n76, g76⟩ : ∃ n : Int, a.eval (.tmp 76) = .int .u64 n := hk 76 (by decide)
      have h76 := (ev a 76).symm.trans g76
      clear hk
      go_simp
      exact ⟨_, rfl, Below.refl _ _, _, _, rfl⟩
    rw [List.forall_mem_cons]; refine ⟨?_, ?_⟩
    · intro a w1 hb hk
      clear hk
      go_simp
      exact ⟨_, rfl, Below.refl _ _, rfl⟩
    rw [List.forall_mem_cons]; refine ⟨?_, ?_⟩
    · intro a w1 hb hk
      have h6 : a.tmps[6]?.getD undef = .pointer (some ⟨w.heap.size, 0, none⟩) := (ev a 6).symm.trans (hk 6 (by decide) : a.eval (.tmp 6) = .pointer (some ⟨w.heap.size, 0, none⟩))
      clear hk
      go_simp
      exact ⟨_, rfl, Below.refl _ _, rfl⟩
    rw [List.forall_mem_cons]; refine ⟨?_, ?_⟩
    · intro a w1 hb hk
      have h79 : a.tmps[79]?.getD undef = .pointer (some ⟨w.heap.size, 5, none⟩) := (ev a 79).symm.trans (hk 79 (by decide) : a.eval (.tmp 79) = .pointer (some ⟨w.heap.size, 5, none⟩))
      clear hk
      have hc : w1.cell? ⟨w.heap.size, 5, none⟩ = some (.int .u64 0) := (hb.cell (p := ⟨w.heap.size, 5, none⟩) (by simp only [World.size_alloc]; omega)).trans (by go_simp)
      go_simp
      exact ⟨_, rfl, Below.refl _ _, rfl⟩
    rw [List.forall_mem_cons]; refine ⟨?_, ?_⟩
    · intro a w1 hb hk
      have h0 : a.tmps[0]?.getD undef = .int .u64 id := (ev a 0).symm.trans (hk 0 (by decide) : a.eval (.tmp 0) = .int .u64 id)
      clear hk
      go_simp
      exact ⟨_, rfl, Below.refl _ _, rfl⟩
    rw [List.forall_mem_cons]; refine ⟨?_, ?_⟩
    · intro a w1 hb hk
      have h80 : a.tmps[80]?.getD undef = .int .u64 0 := (ev a 80).symm.trans (hk 80 (by decide) : a.eval (.tmp 80) = .int .u64 0)
      have h81 : a.tmps[81]?.getD undef = .int .u64 id := (ev a 81).symm.trans (hk 81 (by decide) : a.eval (.tmp 81) = .int .u64 id)
      clear hk
      go_simp
      refine (pcg_any _ _ _).mono ?_
      rintro e w2 ⟨⟨g, rfl⟩, hb2⟩
      exact ⟨_, rfl, hb2, _, rfl⟩
    rw [List.forall_mem_cons]; refine ⟨?_, ?_⟩
    · intro a w1 hb hk
      obtain ⟨g82, e82⟩ : ∃ g : Nat, a.eval (.tmp 82) = .pointer (some ⟨g, 0, none⟩) := hk 82 (by decide)
      have h82 := (ev a 82).symm.trans e82
      clear hk
      go_simp
      exact ⟨_, rfl, Below.refl _ _, _, rfl⟩
    rw [List.forall_mem_cons]; refine ⟨?_, ?_⟩
    · intro a w1 hb hk
      obtain ⟨g83, e83⟩ : ∃ g : Nat, a.eval (.tmp 83) = .iface 106 (.pointer (some ⟨g, 0, none⟩)) := hk 83 (by decide)
      have h83 := (ev a 83).symm.trans e83
      clear hk
      go_simp
      refine (rand_any _ _).mono ?_
      rintro e w2 ⟨⟨g, rfl⟩, hb2⟩
      exact ⟨_, rfl, hb2, _, rfl⟩
    rw [List.forall_mem_cons]; refine ⟨?_, ?_⟩
    · intro a w1 hb hk
      have h6 : a.tmps[6]?.getD undef = .pointer (some ⟨w.heap.size, 0, none⟩) := (ev a 6).symm.trans (hk 6 (by decide) : a.eval (.tmp 6) = .pointer (some ⟨w.heap.size, 0, none⟩))
      clear hk
      go_simp
      exact ⟨_, rfl, Below.refl _ _, rfl⟩
    rw [List.forall_mem_cons]; refine ⟨?_, ?_⟩
    · intro a w1 hb hk
      have h85 : a.tmps[85]?.getD undef = .pointer (some ⟨w.heap.size, 6, none⟩) := (ev a 85).symm.trans (hk 85 (by decide) : a.eval (.tmp 85) = .pointer (some ⟨w.heap.size, 6, none⟩))
      clear hk
      have hc : w1.cell? ⟨w.heap.size, 6, none⟩ = some (.int .u64 0) := (hb.cell (p := ⟨w.heap.size, 6, none⟩) (by simp only [World.size_alloc]; omega)).trans (by go_simp)
      go_simp
      exact ⟨_, rfl, Below.refl _ _, rfl⟩
    rw [List.forall_mem_cons]; refine ⟨?_, ?_⟩
    · intro a w1 hb hk
      have h16 : a.tmps[16]?.getD undef = .int .u64 (orT to 2) := (ev a 16).symm.trans (hk 16 (by decide) : a.eval (.tmp 16) = .int .u64 (orT to 2))
      clear hk
      go_simp
      exact ⟨_, rfl, Below.refl _ _, rfl⟩
    rw [List.forall_mem_cons]; refine ⟨?_, ?_⟩
    · intro a w1 hb hk
      have h86 : a.tmps[86]?.getD undef = .int .u64 0 := (ev a 86).symm.trans (hk 86 (by decide) : a.eval (.tmp 86) = .int .u64 0)
      have h87 : a.tmps[87]?.getD undef = .int .u64 (orT to 2) := (ev a 87).symm.trans (hk 87 (by decide) : a.eval (.tmp 87) = .int .u64 (orT to 2))
      clear hk
      go_simp
      exact ⟨_, rfl, (Below.refl _ _).alloc (Nat.le_refl _) _, two_new _ _ _⟩
    rw [List.forall_mem_cons]; refine ⟨?_, ?_⟩
    · intro a w1 hb hk
      obtain ⟨g88, x88, y88, e88, l88, p88, q88⟩ : TwoAt (a.eval (.tmp 88)) w1 := hk 88 (by decide)
      have h88 := (ev a 88).symm.trans e88
      clear hk
      go_simp
      refine (or_any g88 x88 y88 _ p88 q88).mono ?_
      rintro e w2 ⟨rfl, rfl⟩
      exact ⟨_, rfl, Below.refl _ _, _, rfl⟩
    rw [List.forall_mem_cons]; refine ⟨?_, ?_⟩
    · intro a w1 hb hk
      have h2 : a.tmps[2]?.getD undef = .iface tn (.pointer (some an)) := (ev a 2).symm.trans (hk 2 (by decide) : a.eval (.tmp 2) = .iface tn (.pointer (some an)))
      clear hk
      go_simp
      exact ⟨_, rfl, Below.refl _ _, rfl⟩
    rw [List.forall_mem_cons]; refine ⟨?_, ?_⟩
    · intro a w1 hb hk
      have h3 : a.tmps[3]?.getD undef = .iface tc (.pointer (some ac)) := (ev a 3).symm.trans (hk 3 (by decide) : a.eval (.tmp 3) = .iface tc (.pointer (some ac)))
      clear hk
      go_simp
      exact ⟨_, rfl, Below.refl _ _, rfl⟩
    rw [List.forall_mem_cons]; refine ⟨?_, ?_⟩
    · intro a w1 hb hk
      have h11 : a.tmps[11]?.getD undef = .slice none 0 0 := (ev a 11).symm.trans (hk 11 (by decide) : a.eval (.tmp 11) = .slice none 0 0)
      clear hk
      go_simp
      exact ⟨_, rfl, Below.refl _ _, rfl⟩
    rw [List.forall_mem_cons]; refine ⟨?_, ?_⟩
    · intro a w1 hb hk
      have h14 : a.tmps[14]?.getD undef = .slice (some ⟨w.heap.size + 1, 0, none⟩) 0 0 := (ev a 14).symm.trans (hk 14 (by decide) : a.eval (.tmp 14) = .slice (some ⟨w.heap.size + 1, 0, none⟩) 0 0)
      clear hk
      go_simp
      exact ⟨_, rfl, Below.refl _ _, rfl⟩
    rw [List.forall_mem_cons]; refine ⟨?_, ?_⟩
    · intro a w1 hb hk
      have h0 : a.tmps[0]?.getD undef = .int .u64 id := (ev a 0).symm.trans (hk 0 (by decide) : a.eval (.tmp 0) = .int .u64 id)
      clear hk
      go_simp
      exact ⟨_, rfl, Below.refl _ _, rfl⟩
    rw [List.forall_mem_cons]; refine ⟨?_, ?_⟩
    · intro a w1 hb hk
      have h11 : a.tmps[11]?.getD undef = .slice none 0 0 := (ev a 11).symm.trans (hk 11 (by decide) : a.eval (.tmp 11) = .slice none 0 0)
      clear hk
      go_simp
      exact ⟨_, rfl, Below.refl _ _, rfl⟩
    rw [List.forall_mem_cons]; refine ⟨?_, ?_⟩
    · intro a w1 hb hk
      have h6 : a.tmps[6]?.getD undef = .pointer (some ⟨w.heap.size, 0, none⟩) := (ev a 6).symm.trans (hk 6 (by decide) : a.eval (.tmp 6) = .pointer (some ⟨w.heap.size, 0, none⟩))
      clear hk
      go_simp
      exact ⟨_, rfl, Below.refl _ _, rfl⟩
    rw [List.forall_mem_cons]; refine ⟨?_, ?_⟩
    · intro a w1 hb hk
      have h96 : a.tmps[96]?.getD undef = .pointer (some ⟨w.heap.size, 0, none⟩) := (ev a 96).symm.trans (hk 96 (by decide) : a.eval (.tmp 96) = .pointer (some ⟨w.heap.size, 0, none⟩))
      clear hk
      have hc : w1.cell? ⟨w.heap.size, 0, none⟩ = some (.int .i64 l) := (hb.cell (p := ⟨w.heap.size, 0, none⟩) (by simp only [World.size_alloc]; omega)).trans (by go_simp)
      go_simp
      exact ⟨_, rfl, Below.refl _ _, rfl⟩
    rw [List.forall_mem_cons]; refine ⟨?_, ?_⟩
    · intro a w1 hb hk
      have h94 : a.tmps[94]?.getD undef = .int .u64 id := (ev a 94).symm.trans (hk 94 (by decide) : a.eval (.tmp 94) = .int .u64 id)
      have h95 : a.tmps[95]?.getD undef = .slice none 0 0 := (ev a 95).symm.trans (hk 95 (by decide) : a.eval (.tmp 95) = .slice none 0 0)
      have h97 : a.tmps[97]?.getD undef = .int .i64 l := (ev a 97).symm.trans (hk 97 (by decide) : a.eval (.tmp 97) = .int .i64 l)
      clear hk
      go_simp
      refine (leafset_nil _ _ _ hl0 hl1).mono ?_
      rintro e w2 ⟨rfl, hb2⟩
      exact ⟨_, rfl, hb2, rfl⟩
    rw [List.forall_mem_cons]; refine ⟨?_, ?_⟩
    · intro a w1 hb hk
      have h58 : a.tmps[58]?.getD undef = .int .u64 id := (ev a 58).symm.trans (hk 58 (by decide) : a.eval (.tmp 58) = .int .u64 id)
      have h60 : a.tmps[60]?.getD undef = .int .i64 l := (ev a 60).symm.trans (hk 60 (by decide) : a.eval (.tmp 60) = .int .i64 l)
      have h61 : a.tmps[61]?.getD undef = .int .u64 (orT to 2) := (ev a 61).symm.trans (hk 61 (by decide) : a.eval (.tmp 61) = .int .u64 (orT to 2))
      obtain ⟨n67, g67⟩ : ∃ n : Int, a.eval (.tmp 67) = .int .u64 n := hk 67 (by decide)
      have h67 := (ev a 67).symm.trans g67
      obtain ⟨n72, m72, g72⟩ : ∃ n m : Int, a.eval (.tmp 72) = .agg #[.int .u64 n, .int .u64 m] := hk 72 (by decide)
      have h72 := (ev a 72).symm.trans g72
      obtain ⟨n77, m77, g77⟩ : ∃ n m : Int, a.eval (.tmp 77) = .agg #[.int .u64 n, .int .u64 m] := hk 77 (by decide)
      have h77 := (ev a 77).symm.trans g77
      have h78 : a.tmps[78]?.getD undef = .agg ringArr := (ev a 78).symm.trans (hk 78 (by decide) : a.eval (.tmp 78) = .agg ringArr)
      obtain ⟨g84, e84⟩ : ∃ g : Nat, a.eval (.tmp 84) = .pointer (some ⟨g, 0, none⟩) := hk 84 (by decide)
      have h84 := (ev a 84).symm.trans e84
      obtain ⟨n89, g89⟩ : ∃ n : Int, a.eval (.tmp 89) = .int .u64 n := hk 89 (by decide)
      have h89 := (ev a 89).symm.trans g89
      have h90 : a.tmps[90]?.getD undef = .iface tn (.pointer (some an)) := (ev a 90).symm.trans (hk 90 (by decide) : a.eval (.tmp 90) = .iface tn (.pointer (some an)))
      have h91 : a.tmps[91]?.getD undef = .iface tc (.pointer (some ac)) := (ev a 91).symm.trans (hk 91 (by decide) : a.eval (.tmp 91) = .iface tc (.pointer (some ac)))
      have h92 : a.tmps[92]?.getD undef = .slice none 0 0 := (ev a 92).symm.trans (hk 92 (by decide) : a.eval (.tmp 92) = .slice none 0 0)
      have h93 : a.tmps[93]?.getD undef = .slice (some ⟨w.heap.size + 1, 0, none⟩) 0 0 := (ev a 93).symm.trans (hk 93 (by decide) : a.eval (.tmp 93) = .slice (some ⟨w.heap.size + 1, 0, none⟩) 0 0)
      have h98 : a.tmps[98]?.getD undef = .slice none 0 0 := (ev a 98).symm.trans (hk 98 (by decide) : a.eval (.tmp 98) = .slice none 0 0)
      clear hk
      unfold Oper.wp
      simp [execOp, ev, h58, h60, h61, h67, h72, h77, h78, h84, h89, h90, h91, h92, h93, h98, build_node, Oper.upon]
      exact ⟨_, rfl, Below.refl _ _, _, _, _, _, _, _, _, rfl⟩
    rw [List.forall_mem_cons]; refine ⟨?_, ?_⟩
    · intro a w1 hb hk
      obtain ⟨gr, n3, n16, m16, n18, m18, n72, e99⟩ : ∃ (gr : Nat) (n3 n16 m16 n18 m18 n72 : Int), a.eval (.tmp 99) = .agg (nodeArr id l (orT to 2) (.iface tn (.pointer (some an))) (.iface tc (.pointer (some ac))) (w.heap.size + 1) gr n3 n16 m16 n18 m18 n72) := hk 99 (by decide)
      have h99 := (ev a 99).symm.trans e99
      clear hk
      unfold Oper.wp
      simp [execOp, ev, h99, box_node, Oper.upon]
      exact ⟨_, rfl, (Below.refl _ _).alloc (Nat.le_refl _) _, w1.heap.size, rfl, Nat.le_trans (by simp only [World.size_alloc]; omega) hb.size, by simp, node_new _ _ _ _ _ _ _ _ _ _ _ _ _ _⟩
    rw [List.forall_mem_cons]; refine ⟨?_, ?_⟩
    · intro a w1 hb hk
      obtain ⟨b, e100, r100⟩ : ∃ b : Nat, a.eval (.tmp 100) = .pointer (some ⟨b, 0, none⟩) ∧ w.heap.size ≤ b ∧ b < w1.heap.size ∧ NodeAt w1 b id (orT to 2) (.iface tn (.pointer (some an))) (.iface tc (.pointer (some ac))) := hk 100 (by decide)
      have h100 := (ev a 100).symm.trans e100
      clear hk
      go_simp
      exact ⟨_, rfl, Below.refl _ _, b, rfl, r100⟩
    intro o ho
    cases ho
end Go.Proofs.Ybulkcfyi
