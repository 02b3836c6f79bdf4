/-
  LawS4103CSendsOut, walked.
-/
import Derived.Test.YbulkcfyiTell
namespace Go.Proofs.Ybulkcfyi
open Go.RowKit Go.Stop

set_option maxHeartbeats 400000 in
theorem out_long (id fr to sj k tm sr pr : Int) (p : Option Addr) (n c : Nat) (w : World) (h : 1024 < n) :
    Calls Yba.prog 5 #[.int .u64 id, .int .u64 fr, .int .u64 to, .int .u64 sj, .int .u8 k, .int .u64 tm, .int .u64 sr, .int .u64 pr, .slice p n c] w fun e w' => e = .returned (.bool true) ∧ Below w.heap.size w w' := by
  go_enter Yba.func5, Yba.ntmps5
  go_wp2
  go_ret
  exact ⟨rfl, Below.refl _ _⟩

set_option maxHeartbeats 800000 in
theorem out_short (id fr to sj k tm sr pr to' : Int) (p : Option Addr) (n c : Nat) (zs : List Int) (w : World) (h : n ≤ 1024) (hp : p = none → n = 0 ∧ c = 0) (hB : IdsAt w p n zs) (hk : 0 ≤ k ∧ k ≤ 255)
    (ht : ((to == id) = true ∧ to' = bits .xor .u64 id 1) ∨ ((to == id) = false ∧ to' = to)) (hto : (to' == id) = false) :
    Calls Yba.prog 5 #[.int .u64 id, .int .u64 fr, .int .u64 to, .int .u64 sj, .int .u8 k, .int .u64 tm, .int .u64 sr, .int .u64 pr, .slice p n c] w fun e w' => e = .returned (.bool true) ∧ Below w.heap.size w w' := by
  have HK := kindOf_two k
  have hck := ckind_any k
  generalize (kindOf k).1 = kd at *
  generalize (kindOf k).2 = once at *
  have HX : Hid ((p = none → n = 0 ∧ c = 0) ∧ IdsAt w p n zs) := ⟨hp, hB⟩
  have HCK : Hid (∀ w, 0 ≤ k ∧ k ≤ 255 → Calls Yba.prog 10 #[.int .u8 k] w fun e w' => e = .returned (.tuple #[.int .u8 kd, .bool once]) ∧ w' = w) := hck
  have HKK : Hid ((once = false ∧ (kd = 20 ∨ kd = 21)) ∨ (once = true ∧ (kd = 19 ∨ kd = 3))) := HK
  have HTO : Hid ((to' == id) = false) := hto
  clear hp hB hck HK hto
  have hni : (n : Int) ≤ 1024 := by omega
  rcases ht with ⟨ht, rfl⟩ | ⟨ht, rfl⟩
  · go_enter Yba.func5, Yba.ntmps5
    go_wp2_with fail
    refine (HCK.out _ hk).mono ?_
    rintro e w' ⟨rfl, rfl⟩
    go_wp2_with fail
    refine (new_node id 1 0 86 90 ⟨w'.heap.size, 0, none⟩ ⟨w'.heap.size + 1, 0, none⟩ _ (by decide) (by decide)).mono ?_
    rintro e w2 ⟨B, rfl, hB1, hB2, hN, hb2⟩
    have hB3 : w'.heap.size + 2 ≤ B := by simpa using hB1
    have bw2 : Below w'.heap.size w' w2 := (((Below.refl _ w').alloc (Nat.le_refl _) _).alloc (by simp) _).trans (hb2.mono (by simp; omega))
    have hnc : w2.heap[w'.heap.size]? = some (.cells #[.slice none 0 0] 89) := by
      rw [hb2.block _ (by simp; omega), Below.heap_alloc _ _ _ (by simp), heap_alloc_last]
    have k20 := hN.c20
    have f20 := hN.f20
    have HN : Hid (NodeAt w2 B id (orT 0 2) (.iface 86 (.pointer (some ⟨w'.heap.size, 0, none⟩))) (.iface 90 (.pointer (some ⟨w'.heap.size + 1, 0, none⟩))) ∧ Below w'.heap.size w' w2 ∧ w2.heap[w'.heap.size]? = some (.cells #[.slice none 0 0] 89)) := ⟨hN, bw2, hnc⟩
    clear hN hb2 hB1 bw2 hnc
    go_wp2_with fail
    obtain ⟨w3, e3⟩ : ∃ w3, w3 = w2.setCell ⟨B, 20, none⟩ (.int .u64 pr) := ⟨_, rfl⟩
    rw [← e3]
    obtain ⟨hN, bw2, hnc⟩ := HN.out
    have oth : ∀ a : Addr, a ≠ ⟨B, 20, none⟩ → w3.cell? a = w2.cell? a := fun a ha => by rw [e3]; exact World.cell?_setCell_other _ _ _ _ (Ne.symm ha)
    have a0 : w3.cell? ⟨B, 0, none⟩ = some (.int .u64 id) := (oth _ (by simp)).trans hN.c0
    have a4 : w3.cell? ⟨B, 4, none⟩ = some (.iface 86 (.pointer (some ⟨w'.heap.size, 0, none⟩))) := (oth _ (by simp)).trans hN.c4
    have a73 : w3.cell? ⟨B, 73, none⟩ = some (.slice none 0 0) := (oth _ (by simp)).trans hN.c73
    have a20 : w3.cell? ⟨B, 20, none⟩ = some (.int .u64 pr) := by rw [e3]; exact World.cell?_setCell_same _ _ _ k20
    have g20 : w3.frozen? ⟨B, 20, none⟩ = false := by rw [e3, World.frozen?_setCell]; exact f20
    have z3 : w3.heap.size = w2.heap.size := by rw [e3]; simp [World.setCell]
    have t3 : Turned [B] w2 w3 := by rw [e3]; exact (Turned.refl [B] w2).setCell _ (.inr (by simp)) _
    have bw3 : Below w'.heap.size w' w3 := bw2.trans (t3.below (by omega) (by intro k hk; simp at hk; omega))
    have nc3 : w3.heap[w'.heap.size]? = some (.cells #[.slice none 0 0] 89) := (t3.block _ (by omega) (by simp; omega)).trans hnc
    refine (clone_any p n c zs w3 HX.out.1 (HX.out.2.below bw3) h).mono ?_
    rintro e w4 ⟨p1, c1, rfl, hp1, hi1, hnew1, hb4⟩
    have hBw3 : B < w3.heap.size := by omega
    have d0 : w4.cell? ⟨B, 0, none⟩ = some (.int .u64 id) := (hb4.cell (p := ⟨B, 0, none⟩) hBw3).trans a0
    have d4 : w4.cell? ⟨B, 4, none⟩ = some (.iface 86 (.pointer (some ⟨w'.heap.size, 0, none⟩))) := (hb4.cell (p := ⟨B, 4, none⟩) hBw3).trans a4
    have d73 : w4.cell? ⟨B, 73, none⟩ = some (.slice none 0 0) := (hb4.cell (p := ⟨B, 73, none⟩) hBw3).trans a73
    have d20 : w4.cell? ⟨B, 20, none⟩ = some (.int .u64 pr) := (hb4.cell (p := ⟨B, 20, none⟩) hBw3).trans a20
    have e20 : w4.frozen? ⟨B, 20, none⟩ = false := (hb4.frozen (p := ⟨B, 20, none⟩) hBw3).trans g20
    have nc4 : w4.heap[w'.heap.size]? = some (.cells #[.slice none 0 0] 89) := (hb4.block _ (by omega)).trans nc3
    have bw4 : Below w'.heap.size w' w4 := bw3.trans (hb4.mono bw3.size)
    have H4 : Hid (w4.cell? ⟨B, 0, none⟩ = some (.int .u64 id) ∧ w4.cell? ⟨B, 4, none⟩ = some (.iface 86 (.pointer (some ⟨w'.heap.size, 0, none⟩))) ∧ w4.cell? ⟨B, 73, none⟩ = some (.slice none 0 0) ∧ w4.cell? ⟨B, 20, none⟩ = some (.int .u64 pr) ∧ w4.frozen? ⟨B, 20, none⟩ = false ∧ w4.heap[w'.heap.size]? = some (.cells #[.slice none 0 0] 89) ∧ Below w'.heap.size w' w4 ∧ IdsAt w4 p1 n zs ∧ (p1 = none → n = 0 ∧ c1 = 0) ∧ (∀ a, p1 = some a → B < a.block) ∧ B < w4.heap.size) :=
      ⟨d0, d4, d73, d20, e20, nc4, bw4, hi1, hp1, fun a ha => by have := hnew1 a ha; omega, Nat.lt_of_lt_of_le hBw3 hb4.size⟩
    clear d0 d4 d73 d20 e20 nc4 bw4 hi1 hp1 hnew1 hb4 nc3 bw3 t3 z3 g20 a20 a73 a4 a0 oth hN bw2 hnc e3 HN k20 f20
    go_wp2_with fail
    obtain ⟨d0, d4, d73, d20, e20, nc4, bw4, hi1, hp1, hnew1, hBw4⟩ := H4.out
    have hne : B ≠ w'.heap.size := by omega
    have hsend : ∃ sr' pr', ((once = false ∧ sr' = sr ∧ pr' = pr) ∨ (once = true ∧ sr' = IntKind.u64.wrap (pr + 1) ∧ pr' = IntKind.u64.wrap (pr + 1))) ∧ ∀ v, Below w4.heap.size w4 v → Calls Yba.prog 30 #[.pointer (some ⟨B, 0, none⟩), .agg (msgCells kd fr (bits .xor .u64 id 1) p1 n c1 sj tm sr)] v fun e u => e = .returned (.tuple #[]) ∧ Went v u B w'.heap.size kd id (bits .xor .u64 id 1) n zs sj tm sr' pr' := by
      rcases HKK.out with ⟨ho, hk2⟩ | ⟨ho, hk2⟩
      · refine ⟨sr, pr, .inl ⟨ho, rfl, rfl⟩, fun v hv => ?_⟩
        have nv := (hv.block _ (Nat.lt_of_lt_of_le (by omega) (Nat.le_refl w4.heap.size))).trans nc4
        exact send_plain B w'.heap.size kd id fr (bits .xor .u64 id 1) sj tm sr pr p1 n c1 zs v hk2 hp1 (hi1.below hv) h ((hv.cell (p := ⟨B, 0, none⟩) hBw4).trans d0) ((hv.cell (p := ⟨B, 4, none⟩) hBw4).trans d4) ((hv.cell (p := ⟨B, 20, none⟩) hBw4).trans d20) ((hv.cell (p := ⟨B, 73, none⟩) hBw4).trans d73)
          (by rw [cell_of_row _ _ _ _ _ _ nv]; rfl) (by simp [World.frozen?, nv]) hne
      · refine ⟨IntKind.u64.wrap (pr + 1), IntKind.u64.wrap (pr + 1), .inr ⟨ho, rfl, rfl⟩, fun v hv => ?_⟩
        have nv := (hv.block _ (Nat.lt_of_lt_of_le (by omega) (Nat.le_refl w4.heap.size))).trans nc4
        exact send_once B w'.heap.size kd id fr (bits .xor .u64 id 1) sj tm sr pr p1 n c1 zs v hk2 hp1 (hi1.below hv) (fun a ha => by have := hnew1 a ha; omega) h ((hv.cell (p := ⟨B, 0, none⟩) hBw4).trans d0) ((hv.cell (p := ⟨B, 4, none⟩) hBw4).trans d4) ((hv.cell (p := ⟨B, 20, none⟩) hBw4).trans d20) ((hv.cell (p := ⟨B, 73, none⟩) hBw4).trans d73) ((hv.frozen (p := ⟨B, 20, none⟩) hBw4).trans e20)
          (by rw [cell_of_row _ _ _ _ _ _ nv]; rfl) (by simp [World.frozen?, nv]) hne
    obtain ⟨sr', pr', hcase, hsend⟩ := hsend
    refine (tell_out B w'.heap.size kd id fr (bits .xor .u64 id 1) sj tm sr sr' pr' p1 n c1 zs w4 HTO.out hsend d0).mono ?_
    rintro e w5 ⟨rfl, g, cap, p2, c2, m1, m2, m3, m4, m5, m6, m7⟩
    have bw5 : Below w'.heap.size w' w5 := bw4.trans (m7.below bw4.size (by intro k hk; simp at hk; omega))
    have i5 : IdsAt w5 p n zs := HX.out.2.below bw5
    have i1 : IdsAt w5 p1 n zs := hi1.turned m7 (fun a ha => by have := hnew1 a ha; simp; omega)
    have hB5 : B < w5.heap.size := Nat.lt_of_lt_of_le hBw4 m7.size
    have hg5 : g < w5.heap.size := World.block_lt_of_cell? _ _ m3.c0
    have q0 := m3.c0
    have q1 := m3.c1
    have q2 := m3.c2
    have q3 := m3.c3
    have q4 := m3.c4
    have q5 := m3.c5
    have q6 := m3.c6
    have H5 : Hid (Below w'.heap.size w' w5 ∧ IdsAt w5 p n zs ∧ IdsAt w5 p1 n zs ∧ IdsAt w5 p2 n zs ∧ w5.cell? ⟨B, 20, none⟩ = some (.int .u64 pr') ∧ w5.cell? ⟨B, 73, none⟩ = some (.slice none 0 0) ∧ B < w5.heap.size) := ⟨bw5, i5, i1, m4, m5, m6, hB5⟩
    clear hsend d0 d4 d73 d20 e20 nc4 bw4 hi1 hp1 hnew1 hBw4 hne bw5 i5 i1 m2 m3 m4 m5 m6 m7 H4 HX
    rcases hcase with ⟨rfl, rfl, rfl⟩ | ⟨rfl, rfl, rfl⟩
    all_goals
      go_wp2_with fail
      refine (equal_any p2 p n c2 c zs _ (H5.out.2.2.2.1.below ?_) (H5.out.2.1.below ?_) h).mono ?_
      · exact (Below.refl _ w5).alloc (Nat.le_refl _) _
      · exact (Below.refl _ w5).alloc (Nat.le_refl _) _
      rintro e w7 ⟨rfl, hb7⟩
      have b7 : Below w5.heap.size w5 w7 := ((Below.refl _ w5).alloc (Nat.le_refl _) _).trans (hb7.mono (by simp))
      have r20 := (b7.cell (p := ⟨B, 20, none⟩) H5.out.2.2.2.2.2.2).trans H5.out.2.2.2.2.1
      have r73 := (b7.cell (p := ⟨B, 73, none⟩) H5.out.2.2.2.2.2.2).trans H5.out.2.2.2.2.2.1
      have H7 : Hid (Below w5.heap.size w5 w7) := b7
      clear hb7 b7
      go_wp2_with fail
      refine (equal_any p1 p n c1 c zs _ (H5.out.2.2.1.below H7.out) (H5.out.2.1.below H7.out) h).mono ?_
      rintro e w8 ⟨rfl, hb8⟩
      go_wp2
      go_ret
      exact ⟨rfl, H5.out.1.trans ((H7.out.trans (hb8.mono H7.out.size)).mono H5.out.1.size)⟩
  · go_enter Yba.func5, Yba.ntmps5
    go_wp2_with fail
    refine (HCK.out _ hk).mono ?_
    rintro e w' ⟨rfl, rfl⟩
    go_wp2_with fail
    refine (new_node id 1 0 86 90 ⟨w'.heap.size, 0, none⟩ ⟨w'.heap.size + 1, 0, none⟩ _ (by decide) (by decide)).mono ?_
    rintro e w2 ⟨B, rfl, hB1, hB2, hN, hb2⟩
    have hB3 : w'.heap.size + 2 ≤ B := by simpa using hB1
    have bw2 : Below w'.heap.size w' w2 := (((Below.refl _ w').alloc (Nat.le_refl _) _).alloc (by simp) _).trans (hb2.mono (by simp; omega))
    have hnc : w2.heap[w'.heap.size]? = some (.cells #[.slice none 0 0] 89) := by
      rw [hb2.block _ (by simp; omega), Below.heap_alloc _ _ _ (by simp), heap_alloc_last]
    have k20 := hN.c20
    have f20 := hN.f20
    have HN : Hid (NodeAt w2 B id (orT 0 2) (.iface 86 (.pointer (some ⟨w'.heap.size, 0, none⟩))) (.iface 90 (.pointer (some ⟨w'.heap.size + 1, 0, none⟩))) ∧ Below w'.heap.size w' w2 ∧ w2.heap[w'.heap.size]? = some (.cells #[.slice none 0 0] 89)) := ⟨hN, bw2, hnc⟩
    clear hN hb2 hB1 bw2 hnc
    go_wp2_with fail
    obtain ⟨w3, e3⟩ : ∃ w3, w3 = w2.setCell ⟨B, 20, none⟩ (.int .u64 pr) := ⟨_, rfl⟩
    rw [← e3]
    obtain ⟨hN, bw2, hnc⟩ := HN.out
    have oth : ∀ a : Addr, a ≠ ⟨B, 20, none⟩ → w3.cell? a = w2.cell? a := fun a ha => by rw [e3]; exact World.cell?_setCell_other _ _ _ _ (Ne.symm ha)
    have a0 : w3.cell? ⟨B, 0, none⟩ = some (.int .u64 id) := (oth _ (by simp)).trans hN.c0
    have a4 : w3.cell? ⟨B, 4, none⟩ = some (.iface 86 (.pointer (some ⟨w'.heap.size, 0, none⟩))) := (oth _ (by simp)).trans hN.c4
    have a73 : w3.cell? ⟨B, 73, none⟩ = some (.slice none 0 0) := (oth _ (by simp)).trans hN.c73
    have a20 : w3.cell? ⟨B, 20, none⟩ = some (.int .u64 pr) := by rw [e3]; exact World.cell?_setCell_same _ _ _ k20
    have g20 : w3.frozen? ⟨B, 20, none⟩ = false := by rw [e3, World.frozen?_setCell]; exact f20
    have z3 : w3.heap.size = w2.heap.size := by rw [e3]; simp [World.setCell]
    have t3 : Turned [B] w2 w3 := by rw [e3]; exact (Turned.refl [B] w2).setCell _ (.inr (by simp)) _
    have bw3 : Below w'.heap.size w' w3 := bw2.trans (t3.below (by omega) (by intro k hk; simp at hk; omega))
    have nc3 : w3.heap[w'.heap.size]? = some (.cells #[.slice none 0 0] 89) := (t3.block _ (by omega) (by simp; omega)).trans hnc
    refine (clone_any p n c zs w3 HX.out.1 (HX.out.2.below bw3) h).mono ?_
    rintro e w4 ⟨p1, c1, rfl, hp1, hi1, hnew1, hb4⟩
    have hBw3 : B < w3.heap.size := by omega
    have d0 : w4.cell? ⟨B, 0, none⟩ = some (.int .u64 id) := (hb4.cell (p := ⟨B, 0, none⟩) hBw3).trans a0
    have d4 : w4.cell? ⟨B, 4, none⟩ = some (.iface 86 (.pointer (some ⟨w'.heap.size, 0, none⟩))) := (hb4.cell (p := ⟨B, 4, none⟩) hBw3).trans a4
    have d73 : w4.cell? ⟨B, 73, none⟩ = some (.slice none 0 0) := (hb4.cell (p := ⟨B, 73, none⟩) hBw3).trans a73
    have d20 : w4.cell? ⟨B, 20, none⟩ = some (.int .u64 pr) := (hb4.cell (p := ⟨B, 20, none⟩) hBw3).trans a20
    have e20 : w4.frozen? ⟨B, 20, none⟩ = false := (hb4.frozen (p := ⟨B, 20, none⟩) hBw3).trans g20
    have nc4 : w4.heap[w'.heap.size]? = some (.cells #[.slice none 0 0] 89) := (hb4.block _ (by omega)).trans nc3
    have bw4 : Below w'.heap.size w' w4 := bw3.trans (hb4.mono bw3.size)
    have H4 : Hid (w4.cell? ⟨B, 0, none⟩ = some (.int .u64 id) ∧ w4.cell? ⟨B, 4, none⟩ = some (.iface 86 (.pointer (some ⟨w'.heap.size, 0, none⟩))) ∧ w4.cell? ⟨B, 73, none⟩ = some (.slice none 0 0) ∧ w4.cell? ⟨B, 20, none⟩ = some (.int .u64 pr) ∧ w4.frozen? ⟨B, 20, none⟩ = false ∧ w4.heap[w'.heap.size]? = some (.cells #[.slice none 0 0] 89) ∧ Below w'.heap.size w' w4 ∧ IdsAt w4 p1 n zs ∧ (p1 = none → n = 0 ∧ c1 = 0) ∧ (∀ a, p1 = some a → B < a.block) ∧ B < w4.heap.size) :=
      ⟨d0, d4, d73, d20, e20, nc4, bw4, hi1, hp1, fun a ha => by have := hnew1 a ha; omega, Nat.lt_of_lt_of_le hBw3 hb4.size⟩
    clear d0 d4 d73 d20 e20 nc4 bw4 hi1 hp1 hnew1 hb4 nc3 bw3 t3 z3 g20 a20 a73 a4 a0 oth hN bw2 hnc e3 HN k20 f20
    go_wp2_with fail
    obtain ⟨d0, d4, d73, d20, e20, nc4, bw4, hi1, hp1, hnew1, hBw4⟩ := H4.out
    have hne : B ≠ w'.heap.size := by omega
    have hsend : ∃ sr' pr', ((once = false ∧ sr' = sr ∧ pr' = pr) ∨ (once = true ∧ sr' = IntKind.u64.wrap (pr + 1) ∧ pr' = IntKind.u64.wrap (pr + 1))) ∧ ∀ v, Below w4.heap.size w4 v → Calls Yba.prog 30 #[.pointer (some ⟨B, 0, none⟩), .agg (msgCells kd fr to' p1 n c1 sj tm sr)] v fun e u => e = .returned (.tuple #[]) ∧ Went v u B w'.heap.size kd id to' n zs sj tm sr' pr' := by
      rcases HKK.out with ⟨ho, hk2⟩ | ⟨ho, hk2⟩
      · refine ⟨sr, pr, .inl ⟨ho, rfl, rfl⟩, fun v hv => ?_⟩
        have nv := (hv.block _ (Nat.lt_of_lt_of_le (by omega) (Nat.le_refl w4.heap.size))).trans nc4
        exact send_plain B w'.heap.size kd id fr to' sj tm sr pr p1 n c1 zs v hk2 hp1 (hi1.below hv) h ((hv.cell (p := ⟨B, 0, none⟩) hBw4).trans d0) ((hv.cell (p := ⟨B, 4, none⟩) hBw4).trans d4) ((hv.cell (p := ⟨B, 20, none⟩) hBw4).trans d20) ((hv.cell (p := ⟨B, 73, none⟩) hBw4).trans d73)
          (by rw [cell_of_row _ _ _ _ _ _ nv]; rfl) (by simp [World.frozen?, nv]) hne
      · refine ⟨IntKind.u64.wrap (pr + 1), IntKind.u64.wrap (pr + 1), .inr ⟨ho, rfl, rfl⟩, fun v hv => ?_⟩
        have nv := (hv.block _ (Nat.lt_of_lt_of_le (by omega) (Nat.le_refl w4.heap.size))).trans nc4
        exact send_once B w'.heap.size kd id fr to' sj tm sr pr p1 n c1 zs v hk2 hp1 (hi1.below hv) (fun a ha => by have := hnew1 a ha; omega) h ((hv.cell (p := ⟨B, 0, none⟩) hBw4).trans d0) ((hv.cell (p := ⟨B, 4, none⟩) hBw4).trans d4) ((hv.cell (p := ⟨B, 20, none⟩) hBw4).trans d20) ((hv.cell (p := ⟨B, 73, none⟩) hBw4).trans d73) ((hv.frozen (p := ⟨B, 20, none⟩) hBw4).trans e20)
          (by rw [cell_of_row _ _ _ _ _ _ nv]; rfl) (by simp [World.frozen?, nv]) hne
    obtain ⟨sr', pr', hcase, hsend⟩ := hsend
    refine (tell_out B w'.heap.size kd id fr to' sj tm sr sr' pr' p1 n c1 zs w4 HTO.out hsend d0).mono ?_
    rintro e w5 ⟨rfl, g, cap, p2, c2, m1, m2, m3, m4, m5, m6, m7⟩
    have bw5 : Below w'.heap.size w' w5 := bw4.trans (m7.below bw4.size (by intro k hk; simp at hk; omega))
    have i5 : IdsAt w5 p n zs := HX.out.2.below bw5
    have i1 : IdsAt w5 p1 n zs := hi1.turned m7 (fun a ha => by have := hnew1 a ha; simp; omega)
    have hB5 : B < w5.heap.size := Nat.lt_of_lt_of_le hBw4 m7.size
    have hg5 : g < w5.heap.size := World.block_lt_of_cell? _ _ m3.c0
    have q0 := m3.c0
    have q1 := m3.c1
    have q2 := m3.c2
    have q3 := m3.c3
    have q4 := m3.c4
    have q5 := m3.c5
    have q6 := m3.c6
    have H5 : Hid (Below w'.heap.size w' w5 ∧ IdsAt w5 p n zs ∧ IdsAt w5 p1 n zs ∧ IdsAt w5 p2 n zs ∧ w5.cell? ⟨B, 20, none⟩ = some (.int .u64 pr') ∧ w5.cell? ⟨B, 73, none⟩ = some (.slice none 0 0) ∧ B < w5.heap.size) := ⟨bw5, i5, i1, m4, m5, m6, hB5⟩
    clear hsend d0 d4 d73 d20 e20 nc4 bw4 hi1 hp1 hnew1 hBw4 hne bw5 i5 i1 m2 m3 m4 m5 m6 m7 H4 HX
    rcases hcase with ⟨rfl, rfl, rfl⟩ | ⟨rfl, rfl, rfl⟩
    all_goals
      go_wp2_with fail
      refine (equal_any p2 p n c2 c zs _ (H5.out.2.2.2.1.below ?_) (H5.out.2.1.below ?_) h).mono ?_
      · exact (Below.refl _ w5).alloc (Nat.le_refl _) _
      · exact (Below.refl _ w5).alloc (Nat.le_refl _) _
      rintro e w7 ⟨rfl, hb7⟩
      have b7 : Below w5.heap.size w5 w7 := ((Below.refl _ w5).alloc (Nat.le_refl _) _).trans (hb7.mono (by simp))
      have r20 := (b7.cell (p := ⟨B, 20, none⟩) H5.out.2.2.2.2.2.2).trans H5.out.2.2.2.2.1
      have r73 := (b7.cell (p := ⟨B, 73, none⟩) H5.out.2.2.2.2.2.2).trans H5.out.2.2.2.2.2.1
      have H7 : Hid (Below w5.heap.size w5 w7) := b7
      clear hb7 b7
      go_wp2_with fail
      refine (equal_any p1 p n c1 c zs _ (H5.out.2.2.1.below H7.out) (H5.out.2.1.below H7.out) h).mono ?_
      rintro e w8 ⟨rfl, hb8⟩
      go_wp2
      go_ret
      exact ⟨rfl, H5.out.1.trans ((H7.out.trans (hb8.mono H7.out.size)).mono H5.out.1.size)⟩
end Go.Proofs.Ybulkcfyi
