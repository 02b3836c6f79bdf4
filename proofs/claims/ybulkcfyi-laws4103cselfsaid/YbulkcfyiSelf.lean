/-
  LawS4103CSelf, walked.
-/
import Derived.Test.YbulkcfyiTell
import Derived.Test.YbulkcfyiMade
import Derived.Test.YbulkcfyiTold21C
namespace Go.Proofs.Ybulkcfyi
open Go.RowKit Go.Stop

set_option maxHeartbeats 800000 in
/-- tellPath: to the node itself. -/
theorem tell_self (B : Nat) (kd id fr sj tm sr : Int) (p : Option Addr) (n c : Nat) (w : World) (R : World → World → Prop)
    (hs : ∀ v, Below w.heap.size w v → Calls Yba.prog 8 #[.pointer (some ⟨B, 0, none⟩), .agg #[.int .u8 kd, .int .u64 id, .int .u64 id, .slice p n c, .int .u64 sj, .int .u64 tm, .int .u64 sr]] v fun e w' => e = .returned (.tuple #[]) ∧ R v w')
    (n0 : w.cell? ⟨B, 0, none⟩ = some (.int .u64 id)) :
    Calls Yba.prog 12 #[.pointer (some ⟨B, 0, none⟩), .agg #[.int .u8 kd, .int .u64 fr, .int .u64 id, .slice p n c, .int .u64 sj, .int .u64 tm, .int .u64 sr]] w fun e w' => e = .returned (.tuple #[]) ∧ ∃ v, Below w.heap.size w v ∧ R v w' := by
  have hBl := World.block_lt_of_cell? _ _ n0
  have HS : Hid (∀ v, Below w.heap.size w v → Calls Yba.prog 8 #[.pointer (some ⟨B, 0, none⟩), .agg #[.int .u8 kd, .int .u64 id, .int .u64 id, .slice p n c, .int .u64 sj, .int .u64 tm, .int .u64 sr]] v fun e w' => e = .returned (.tuple #[]) ∧ R v w') := hs
  clear hs
  go_enter Yba.func12, Yba.ntmps12
  go_wp2
  go_quiet (fail)
  go_wp2_with fail
  have bw : Below w.heap.size w _ := (below_drewN ((Below.refl _ w).alloc (Nat.le_refl _) (.cells #[.int .u8 kd, .int .u64 fr, .int .u64 id, .slice p n c, .int .u64 sj, .int .u64 tm, .int .u64 sr] 67)) nq).setCell (p := ⟨w.heap.size, 1, none⟩) (Nat.le_refl _) (.int .u64 id)
  refine (HS.out _ bw).mono ?_
  rintro e w' ⟨rfl, hr⟩
  go_wp2
  (try simp only [Exit.inBlock, Exit.then])
  refine bodyPost_ret (results_none rfl _ _ _) rfl ?_
  exact ⟨rfl, _, bw, hr⟩

theorem far_self (a : Int) : far a a = 0 := by
  unfold far
  rw [Int.sub_self]
  rfl
theorem far_off (a o : Int) (h : 0 ≤ o ∧ o < 18446744073709551616) : far a (IntKind.u64.wrap (a + o)) = o := by
  unfold far
  rw [IntKind.wrap_u64, IntKind.wrap_u64]
  omega

set_option maxHeartbeats 4000000 in
set_option maxRecDepth 100000 in
theorem self_any (id fr d x tg un now tmo d' : Int) (hit : Bool) (w : World) (bx : 0 ≤ x ∧ x < 18446744073709551616) (bd : 1 ≤ d' ∧ d' < 18446744073709551616) (hd : ((d == 0) = true ∧ d' = 1) ∨ ((d == 0) = false ∧ d' = d)) (ht : (tg == IntKind.u64.wrap (tg + 1)) = false) :
    Calls Yba.prog 6 #[.int .u64 id, .int .u64 fr, .int .u64 d, .int .u64 x, .int .u64 tg, .int .u64 un, .int .u64 now, .int .u64 tmo, .bool hit] w fun e w' => e = .returned (.bool true) ∧ Below w.heap.size w w' := by
  have hd0 : ¬ d' = 0 := by omega
  have hd0' : (d' == 0) = false := by simp [hd0]
  have HT : Hid ((tg == IntKind.u64.wrap (tg + 1)) = false) := ht
  clear ht
  have hxm : 0 ≤ x % d' ∧ x % d' < d' := ⟨Int.emod_nonneg _ hd0, Int.emod_lt_of_pos _ (by omega)⟩
  have ew : IntKind.u64.wrap (1 + x % d') = 1 + x % d' := by rw [IntKind.wrap_u64]; omega
  have HF : Hid (far id (IntKind.u64.wrap (id + d')) = d' ∧ far id (IntKind.u64.wrap (id + IntKind.u64.wrap (1 + x % d'))) = 1 + x % d') := ⟨far_off id d' (by omega), by rw [ew]; exact far_off id _ (by omega)⟩
  clear ew hxm
  rcases hd with ⟨hd, rfl⟩ | ⟨hd, rfl⟩
  · have e1 : IntKind.u64.wrap (id + IntKind.u64.wrap (1 + x % 1)) = IntKind.u64.wrap (id + 1) := by rw [Int.emod_one]; rfl
    have hf := HF.out
    rw [e1, Int.emod_one] at hf
    have HF1 : Hid (far id (IntKind.u64.wrap (id + 1)) = 1 ∧ far id (IntKind.u64.wrap (id + 1)) = 1 + 0) := hf
    clear HF hf e1
    go_enter Yba.func6, Yba.ntmps6
    go_wp2_with fail
    refine (new_node id 1 tmo 86 90 ⟨w.heap.size, 0, none⟩ ⟨w.heap.size + 1, 0, none⟩ _ (by decide) (by decide)).mono ?_
    rintro e w2 ⟨B, rfl, hB1, hB2, hN, hb2⟩
    have hB3 : w.heap.size + 2 ≤ B := by simpa using hB1
    have bw2 : Below w.heap.size w w2 := (((Below.refl _ w).alloc (Nat.le_refl _) _).alloc (by simp) _).trans (hb2.mono (by simp; omega))
    have hnc : w2.heap[w.heap.size]? = some (.cells #[.slice none 0 0] 89) := by
      rw [hb2.block _ (by simp; omega), Below.heap_alloc _ _ _ (by simp), heap_alloc_last]
    have hcc : w2.heap[w.heap.size + 1]? = some (.cells #[.int .u64 now] 91) := by
      rw [hb2.block _ (by simp)]
      exact heap_new (by simp)
    have k73 := hN.c73
    have f73 := hN.f73
    have HN : Hid (NodeAt w2 B id (orT tmo 2) (.iface 86 (.pointer (some ⟨w.heap.size, 0, none⟩))) (.iface 90 (.pointer (some ⟨w.heap.size + 1, 0, none⟩))) ∧ Below w.heap.size w w2 ∧ w2.heap[w.heap.size]? = some (.cells #[.slice none 0 0] 89) ∧ w2.heap[w.heap.size + 1]? = some (.cells #[.int .u64 now] 91)) := ⟨hN, bw2, hnc, hcc⟩
    clear hN hb2 hB1 bw2 hnc hcc
    generalize IntKind.u64.wrap (id + 1) = en at *
    have rdy := made_ready w2 B id id en 0 0 tg un hB2 k73 f73
    unfold made0 at rdy
    obtain ⟨ry1, ry2⟩ := rdy
    cases hit
    · go_wp2_with fail
      clear ry1 ry2
      obtain ⟨SW, z3, t3, c3, p3⟩ := made_laid w2 B id id en 0 0 tg un hB2 k73 f73
      obtain ⟨hN, bw2, hnc, hcc⟩ := HN.out
      have n0 := (c3 ⟨B, 0, none⟩ hB2 (by simp)).trans hN.c0
      have n2 := (c3 ⟨B, 2, none⟩ hB2 (by simp)).trans hN.c2
      have n5 := (c3 ⟨B, 5, none⟩ hB2 (by simp)).trans hN.c5
      have n20 := (c3 ⟨B, 20, none⟩ hB2 (by simp)).trans hN.c20
      have nn : (made w2 B id id en 0 0 tg un).cell? ⟨w.heap.size, 0, none⟩ = some (.slice none 0 0) := (c3 ⟨w.heap.size, 0, none⟩ (show w.heap.size < w2.heap.size by omega) (by intro h; have := congrArg Addr.block h; simp at this; omega)).trans (by rw [cell_of_row _ _ _ _ _ _ hnc]; rfl)
      have nc : (made w2 B id id en 0 0 tg un).cell? ⟨w.heap.size + 1, 0, none⟩ = some (.int .u64 now) := (c3 ⟨w.heap.size + 1, 0, none⟩ (show w.heap.size + 1 < w2.heap.size by omega) (by intro h; have := congrArg Addr.block h; simp at this; omega)).trans (by rw [cell_of_row _ _ _ _ _ _ hcc]; rfl)
      have bw3 : Below w.heap.size w (made w2 B id id en 0 0 tg un) := bw2.trans (t3.below bw2.size (by intro k hk; simp at hk; omega))
      have hb3 : B < (made w2 B id id en 0 0 tg un).heap.size := by omega
      clear t3 c3 p3 hN bw2 hnc hcc HN k73 f73
      change Calls _ _ _ (made w2 B id id en 0 0 tg un) _
      generalize made w2 B id id en 0 0 tg un = w3 at *
      refine (tell_self B 21 id fr en (IntKind.u64.wrap (tg + 1)) 0 none 0 0 w3 (fun v w' => Below v.heap.size v w') ?_ n0).mono ?_
      · intro v hv
        have S := SW.later hv hb3 (by omega) (by omega)
        exact told_miss B (w2.heap.size + 2) (w2.heap.size + 1) 1 0 0 tg un ⟨w2.heap.size, 0, none⟩ 2 2 (fun _ => id) (fun _ => en) (fun _ => .slice none 0 0) (fun _ => .slice none 0 0) 21 id id en (IntKind.u64.wrap (tg + 1)) 0 none 0 0 v S
          (Nat.lt_of_lt_of_le hb3 hv.size) (Nat.lt_of_lt_of_le (by omega) hv.size) (Nat.lt_of_lt_of_le (by omega) hv.size) HT.out
      rintro e w5 ⟨rfl, v, hv, T⟩
      have vw : Below w3.heap.size w3 w5 := hv.trans (T.mono hv.size)
      have old : ∀ a : Addr, a.block < w3.heap.size → w5.cell? a = w3.cell? a := fun a ha => vw.cell ha
      have q0 := (old ⟨w.heap.size, 0, none⟩ (show w.heap.size < w3.heap.size by omega)).trans nn
      have q20 := (old ⟨B, 20, none⟩ hb3).trans n20
      have q73 := (old ⟨B, 73, none⟩ hb3).trans SW.n73
      have s0 := (old ⟨w2.heap.size + 2, 0, none⟩ (show w2.heap.size + 2 < w3.heap.size by omega)).trans SW.s0
      have s1 := (old ⟨w2.heap.size + 2, 1, none⟩ (show w2.heap.size + 2 < w3.heap.size by omega)).trans SW.s1
      have s2 := (old ⟨w2.heap.size + 2, 2, none⟩ (show w2.heap.size + 2 < w3.heap.size by omega)).trans SW.s2
      have s3 := (old ⟨w2.heap.size + 2, 3, none⟩ (show w2.heap.size + 2 < w3.heap.size by omega)).trans SW.s3
      have s4 := (old ⟨w2.heap.size + 2, 4, none⟩ (show w2.heap.size + 2 < w3.heap.size by omega)).trans SW.s4
      have s5 := (old ⟨w2.heap.size + 2, 5, none⟩ (show w2.heap.size + 2 < w3.heap.size by omega)).trans SW.s5
      have r0 : w5.cell? ⟨w2.heap.size + 1, 0, none⟩ = some (.int .u64 id) := (old ⟨w2.heap.size + 1, 0, none⟩ (show w2.heap.size + 1 < w3.heap.size by omega)).trans (SW.t0 0 (by decide))
      have r1 : w5.cell? ⟨w2.heap.size + 1, 1, none⟩ = some (.int .u64 en) := (old ⟨w2.heap.size + 1, 1, none⟩ (show w2.heap.size + 1 < w3.heap.size by omega)).trans (SW.t1 0 (by decide))
      have r2 : w5.cell? ⟨w2.heap.size + 1, 2, none⟩ = some (.slice none 0 0) := (old ⟨w2.heap.size + 1, 2, none⟩ (show w2.heap.size + 1 < w3.heap.size by omega)).trans (SW.t2 0 (by decide))
      have r4 : w5.cell? ⟨w2.heap.size + 1, 4, none⟩ = some (.map none) := (old ⟨w2.heap.size + 1, 4, none⟩ (show w2.heap.size + 1 < w3.heap.size by omega)).trans (SW.t4 0 (by decide))
      have r3 : w5.cell? ⟨w2.heap.size + 1, 3, none⟩ = some (.slice none 0 0) := (old ⟨w2.heap.size + 1, 3, none⟩ (show w2.heap.size + 1 < w3.heap.size by omega)).trans (SW.t3 0 (by decide))
      have B5 : Below w.heap.size w w5 := bw3.trans (vw.mono bw3.size)
      have z5 : w3.heap.size ≤ w5.heap.size := vw.size
      have HB5 : Hid (Below w.heap.size w w5) := B5
      have l1 : w2.heap.size + 1 < w5.heap.size := by omega
      have l2 : w2.heap.size + 2 < w5.heap.size := by omega
      have lb : B < w5.heap.size := by omega
      have lw : w.heap.size < w5.heap.size := by omega
      clear old T hv SW B5 n0 n2 n5 n20 nn nc bw3 vw
      go_wp2
      go_ret
      exact ⟨rfl, (HB5.out.alloc (by omega) _).alloc (by simp; omega) _⟩
    · go_wp2_with fail
      clear ry1 ry2
      obtain ⟨SW, z3, t3, c3, p3⟩ := made_laid w2 B id id en 0 0 tg un hB2 k73 f73
      obtain ⟨hN, bw2, hnc, hcc⟩ := HN.out
      have n0 := (c3 ⟨B, 0, none⟩ hB2 (by simp)).trans hN.c0
      have n2 := (c3 ⟨B, 2, none⟩ hB2 (by simp)).trans hN.c2
      have n5 := (c3 ⟨B, 5, none⟩ hB2 (by simp)).trans hN.c5
      have n20 := (c3 ⟨B, 20, none⟩ hB2 (by simp)).trans hN.c20
      have nn : (made w2 B id id en 0 0 tg un).cell? ⟨w.heap.size, 0, none⟩ = some (.slice none 0 0) := (c3 ⟨w.heap.size, 0, none⟩ (show w.heap.size < w2.heap.size by omega) (by intro h; have := congrArg Addr.block h; simp at this; omega)).trans (by rw [cell_of_row _ _ _ _ _ _ hnc]; rfl)
      have nc : (made w2 B id id en 0 0 tg un).cell? ⟨w.heap.size + 1, 0, none⟩ = some (.int .u64 now) := (c3 ⟨w.heap.size + 1, 0, none⟩ (show w.heap.size + 1 < w2.heap.size by omega) (by intro h; have := congrArg Addr.block h; simp at this; omega)).trans (by rw [cell_of_row _ _ _ _ _ _ hcc]; rfl)
      have bw3 : Below w.heap.size w (made w2 B id id en 0 0 tg un) := bw2.trans (t3.below bw2.size (by intro k hk; simp at hk; omega))
      have hb3 : B < (made w2 B id id en 0 0 tg un).heap.size := by omega
      clear t3 c3 p3 hN bw2 hnc hcc HN k73 f73
      change Calls _ _ _ (made w2 B id id en 0 0 tg un) _
      generalize made w2 B id id en 0 0 tg un = w3 at *
      refine (tell_self B 21 id fr en tg 0 none 0 0 w3 (fun v w' => Told21 v w' (w2.heap.size + 2) (w2.heap.size + 1) 0 (later un now (orT tmo 2)) [] (pieceOf (far id id) (far id en) id en)) ?_ n0).mono ?_
      · intro v hv
        have S := SW.later hv hb3 (by omega) (by omega)
        exact told21C B (w2.heap.size + 2) (w2.heap.size + 1) (w.heap.size + 1) 1 0 0 0 tg un ⟨w2.heap.size, 0, none⟩ 2 2 (fun _ => id) (fun _ => en) (fun _ => .slice none 0 0) (fun _ => .slice none 0 0) id id en 0 now (orT tmo 2) none 0 0 v S
          (Nat.lt_of_lt_of_le hb3 hv.size) (Nat.lt_of_lt_of_le (by omega) hv.size) (Nat.lt_of_lt_of_le (by omega) hv.size) (Nat.lt_of_lt_of_le (by omega) hv.size) (by omega) (by omega)
          ((hv.cell (p := ⟨B, 5, none⟩) hb3).trans n5) ((hv.cell (p := ⟨B, 2, none⟩) hb3).trans n2) ((hv.cell (p := ⟨w.heap.size + 1, 0, none⟩) (show w.heap.size + 1 < w3.heap.size by omega)).trans nc)
          [] (.inl ⟨rfl, rfl⟩) (by simp) (.inl rfl) (fun a l c h => by cases h) (by omega)
          ⟨fun i hi => by omega, by rw [far_self, HF1.out.2]; omega, by rw [far_self, HF1.out.1]; omega, by rw [HF1.out.1]; omega⟩
      rintro e w5 ⟨rfl, v, hv, T⟩
      have ep : pieceOf (far id id) (far id en) id en = (id, en) := by
        unfold pieceOf
        rw [far_self, HF1.out.2]
        exact if_neg (by omega)
      rw [ep] at T
      have old : ∀ a : Addr, a.block < w3.heap.size → a ≠ ⟨w2.heap.size + 2, 3, none⟩ → a ≠ ⟨w2.heap.size + 1, 0 * 5 + 3, none⟩ → w5.cell? a = w3.cell? a := fun a ha h1 h2 => (T.cells a (Nat.lt_of_lt_of_le ha hv.size) h1 h2).trans (hv.cell ha)
      have q0 := (old ⟨w.heap.size, 0, none⟩ (show w.heap.size < w3.heap.size by omega) (by intro h; have := congrArg Addr.block h; simp at this; omega) (by intro h; have := congrArg Addr.block h; simp at this; omega)).trans nn
      have q20 := (old ⟨B, 20, none⟩ hb3 (by intro h; have := congrArg Addr.block h; simp at this; omega) (by intro h; have := congrArg Addr.block h; simp at this; omega)).trans n20
      have q73 := (old ⟨B, 73, none⟩ hb3 (by intro h; have := congrArg Addr.block h; simp at this; omega) (by intro h; have := congrArg Addr.block h; simp at this; omega)).trans SW.n73
      have s0 := (old ⟨w2.heap.size + 2, 0, none⟩ (show w2.heap.size + 2 < w3.heap.size by omega) (by simp) (by simp)).trans SW.s0
      have s1 := (old ⟨w2.heap.size + 2, 1, none⟩ (show w2.heap.size + 2 < w3.heap.size by omega) (by simp) (by simp)).trans SW.s1
      have s2 := (old ⟨w2.heap.size + 2, 2, none⟩ (show w2.heap.size + 2 < w3.heap.size by omega) (by simp) (by simp)).trans SW.s2
      have s3 := T.until'
      have s4 := (old ⟨w2.heap.size + 2, 4, none⟩ (show w2.heap.size + 2 < w3.heap.size by omega) (by simp) (by simp)).trans SW.s4
      have s5 := (old ⟨w2.heap.size + 2, 5, none⟩ (show w2.heap.size + 2 < w3.heap.size by omega) (by simp) (by simp)).trans SW.s5
      have r0 : w5.cell? ⟨w2.heap.size + 1, 0, none⟩ = some (.int .u64 id) := (old ⟨w2.heap.size + 1, 0, none⟩ (show w2.heap.size + 1 < w3.heap.size by omega) (by simp) (by simp)).trans (SW.t0 0 (by decide))
      have r1 : w5.cell? ⟨w2.heap.size + 1, 1, none⟩ = some (.int .u64 en) := (old ⟨w2.heap.size + 1, 1, none⟩ (show w2.heap.size + 1 < w3.heap.size by omega) (by simp) (by simp)).trans (SW.t1 0 (by decide))
      have r2 : w5.cell? ⟨w2.heap.size + 1, 2, none⟩ = some (.slice none 0 0) := (old ⟨w2.heap.size + 1, 2, none⟩ (show w2.heap.size + 1 < w3.heap.size by omega) (by simp) (by simp)).trans (SW.t2 0 (by decide))
      have r4 : w5.cell? ⟨w2.heap.size + 1, 4, none⟩ = some (.map none) := (old ⟨w2.heap.size + 1, 4, none⟩ (show w2.heap.size + 1 < w3.heap.size by omega) (by simp) (by simp)).trans (SW.t4 0 (by decide))
      obtain ⟨g, cap, r3, hg5, g0, g1⟩ : ∃ g cap, w5.cell? ⟨w2.heap.size + 1, 3, none⟩ = some (.slice (some ⟨g, 0, none⟩) 1 cap) ∧ g < w5.heap.size ∧ w5.cell? ⟨g, 0, none⟩ = some (.int .u64 id) ∧ w5.cell? ⟨g, 1, none⟩ = some (.int .u64 en) := by
        obtain ⟨hv', h3, hp⟩ := T.holes
        rcases hp with ⟨_, hp⟩ | ⟨g, cap, rfl, hg, hc⟩
        · simp at hp
        · exact ⟨g, cap, by simpa using h3, hg, by simpa using (hc 0 (by simp)).1, by simpa using (hc 0 (by simp)).2⟩
      have B5 : Below w.heap.size w w5 := bw3.trans ((hv.mono bw3.size).trans (T.turned.below (Nat.le_trans bw3.size hv.size) (by intro k hk; simp at hk; omega)))
      have z5 : w3.heap.size ≤ w5.heap.size := Nat.le_trans hv.size T.turned.size
      have HB5 : Hid (Below w.heap.size w w5) := B5
      have l1 : w2.heap.size + 1 < w5.heap.size := by omega
      have l2 : w2.heap.size + 2 < w5.heap.size := by omega
      have lb : B < w5.heap.size := by omega
      have lw : w.heap.size < w5.heap.size := by omega
      clear old T hv SW B5 n0 n2 n5 n20 nn nc bw3 ep
      have hlat : later un now (orT tmo 2) = later un now (if tmo = 0 then 2 else tmo) := rfl
      have ew : IntKind.u64.wrap (2 * 2) = 4 := rfl
      by_cases ht0 : tmo = 0
      · have ht0' : (tmo == 0) = true := by simp [ht0]
        by_cases hX : un < IntKind.u64.wrap (now + 4)
        · have hl : later un now (orT tmo 2) = IntKind.u64.wrap (now + 4) := by rw [hlat, if_pos ht0]; unfold later; rw [ew, if_pos hX]
          rw [hl] at s3
          clear hlat hl ew
          go_wp2
          go_ret
          exact ⟨rfl, (HB5.out.alloc (by omega) _).alloc (by simp; omega) _⟩
        · have hl : later un now (orT tmo 2) = un := by rw [hlat, if_pos ht0]; unfold later; rw [ew, if_neg hX]
          rw [hl] at s3
          clear hlat hl ew
          go_wp2
          go_ret
          exact ⟨rfl, (HB5.out.alloc (by omega) _).alloc (by simp; omega) _⟩
      · have ht0' : (tmo == 0) = false := by simp [ht0]
        by_cases hX : un < IntKind.u64.wrap (now + IntKind.u64.wrap (2 * tmo))
        · have hl : later un now (orT tmo 2) = IntKind.u64.wrap (now + IntKind.u64.wrap (2 * tmo)) := by rw [hlat, if_neg ht0]; unfold later; rw [if_pos hX]
          rw [hl] at s3
          clear hlat hl ew
          go_wp2
          go_ret
          exact ⟨rfl, (HB5.out.alloc (by omega) _).alloc (by simp; omega) _⟩
        · have hl : later un now (orT tmo 2) = un := by rw [hlat, if_neg ht0]; unfold later; rw [if_neg hX]
          rw [hl] at s3
          clear hlat hl ew
          go_wp2
          go_ret
          exact ⟨rfl, (HB5.out.alloc (by omega) _).alloc (by simp; omega) _⟩
  · go_enter Yba.func6, Yba.ntmps6
    go_wp2_with fail
    refine (new_node id 1 tmo 86 90 ⟨w.heap.size, 0, none⟩ ⟨w.heap.size + 1, 0, none⟩ _ (by decide) (by decide)).mono ?_
    rintro e w2 ⟨B, rfl, hB1, hB2, hN, hb2⟩
    have hB3 : w.heap.size + 2 ≤ B := by simpa using hB1
    have bw2 : Below w.heap.size w w2 := (((Below.refl _ w).alloc (Nat.le_refl _) _).alloc (by simp) _).trans (hb2.mono (by simp; omega))
    have hnc : w2.heap[w.heap.size]? = some (.cells #[.slice none 0 0] 89) := by
      rw [hb2.block _ (by simp; omega), Below.heap_alloc _ _ _ (by simp), heap_alloc_last]
    have hcc : w2.heap[w.heap.size + 1]? = some (.cells #[.int .u64 now] 91) := by
      rw [hb2.block _ (by simp)]
      exact heap_new (by simp)
    have k73 := hN.c73
    have f73 := hN.f73
    have HN : Hid (NodeAt w2 B id (orT tmo 2) (.iface 86 (.pointer (some ⟨w.heap.size, 0, none⟩))) (.iface 90 (.pointer (some ⟨w.heap.size + 1, 0, none⟩))) ∧ Below w.heap.size w w2 ∧ w2.heap[w.heap.size]? = some (.cells #[.slice none 0 0] 89) ∧ w2.heap[w.heap.size + 1]? = some (.cells #[.int .u64 now] 91)) := ⟨hN, bw2, hnc, hcc⟩
    clear hN hb2 hB1 bw2 hnc hcc
    generalize IntKind.u64.wrap (id + IntKind.u64.wrap (1 + x % d')) = sj at *
    generalize IntKind.u64.wrap (id + d') = en at *
    have rdy := made_ready w2 B id id en 0 0 tg un hB2 k73 f73
    unfold made0 at rdy
    obtain ⟨ry1, ry2⟩ := rdy
    cases hit
    · go_wp2_with fail
      clear ry1 ry2
      obtain ⟨SW, z3, t3, c3, p3⟩ := made_laid w2 B id id en 0 0 tg un hB2 k73 f73
      obtain ⟨hN, bw2, hnc, hcc⟩ := HN.out
      have n0 := (c3 ⟨B, 0, none⟩ hB2 (by simp)).trans hN.c0
      have n2 := (c3 ⟨B, 2, none⟩ hB2 (by simp)).trans hN.c2
      have n5 := (c3 ⟨B, 5, none⟩ hB2 (by simp)).trans hN.c5
      have n20 := (c3 ⟨B, 20, none⟩ hB2 (by simp)).trans hN.c20
      have nn : (made w2 B id id en 0 0 tg un).cell? ⟨w.heap.size, 0, none⟩ = some (.slice none 0 0) := (c3 ⟨w.heap.size, 0, none⟩ (show w.heap.size < w2.heap.size by omega) (by intro h; have := congrArg Addr.block h; simp at this; omega)).trans (by rw [cell_of_row _ _ _ _ _ _ hnc]; rfl)
      have nc : (made w2 B id id en 0 0 tg un).cell? ⟨w.heap.size + 1, 0, none⟩ = some (.int .u64 now) := (c3 ⟨w.heap.size + 1, 0, none⟩ (show w.heap.size + 1 < w2.heap.size by omega) (by intro h; have := congrArg Addr.block h; simp at this; omega)).trans (by rw [cell_of_row _ _ _ _ _ _ hcc]; rfl)
      have bw3 : Below w.heap.size w (made w2 B id id en 0 0 tg un) := bw2.trans (t3.below bw2.size (by intro k hk; simp at hk; omega))
      have hb3 : B < (made w2 B id id en 0 0 tg un).heap.size := by omega
      clear t3 c3 p3 hN bw2 hnc hcc HN k73 f73
      change Calls _ _ _ (made w2 B id id en 0 0 tg un) _
      generalize made w2 B id id en 0 0 tg un = w3 at *
      refine (tell_self B 21 id fr sj (IntKind.u64.wrap (tg + 1)) 0 none 0 0 w3 (fun v w' => Below v.heap.size v w') ?_ n0).mono ?_
      · intro v hv
        have S := SW.later hv hb3 (by omega) (by omega)
        exact told_miss B (w2.heap.size + 2) (w2.heap.size + 1) 1 0 0 tg un ⟨w2.heap.size, 0, none⟩ 2 2 (fun _ => id) (fun _ => en) (fun _ => .slice none 0 0) (fun _ => .slice none 0 0) 21 id id sj (IntKind.u64.wrap (tg + 1)) 0 none 0 0 v S
          (Nat.lt_of_lt_of_le hb3 hv.size) (Nat.lt_of_lt_of_le (by omega) hv.size) (Nat.lt_of_lt_of_le (by omega) hv.size) HT.out
      rintro e w5 ⟨rfl, v, hv, T⟩
      have vw : Below w3.heap.size w3 w5 := hv.trans (T.mono hv.size)
      have old : ∀ a : Addr, a.block < w3.heap.size → w5.cell? a = w3.cell? a := fun a ha => vw.cell ha
      have q0 := (old ⟨w.heap.size, 0, none⟩ (show w.heap.size < w3.heap.size by omega)).trans nn
      have q20 := (old ⟨B, 20, none⟩ hb3).trans n20
      have q73 := (old ⟨B, 73, none⟩ hb3).trans SW.n73
      have s0 := (old ⟨w2.heap.size + 2, 0, none⟩ (show w2.heap.size + 2 < w3.heap.size by omega)).trans SW.s0
      have s1 := (old ⟨w2.heap.size + 2, 1, none⟩ (show w2.heap.size + 2 < w3.heap.size by omega)).trans SW.s1
      have s2 := (old ⟨w2.heap.size + 2, 2, none⟩ (show w2.heap.size + 2 < w3.heap.size by omega)).trans SW.s2
      have s3 := (old ⟨w2.heap.size + 2, 3, none⟩ (show w2.heap.size + 2 < w3.heap.size by omega)).trans SW.s3
      have s4 := (old ⟨w2.heap.size + 2, 4, none⟩ (show w2.heap.size + 2 < w3.heap.size by omega)).trans SW.s4
      have s5 := (old ⟨w2.heap.size + 2, 5, none⟩ (show w2.heap.size + 2 < w3.heap.size by omega)).trans SW.s5
      have r0 : w5.cell? ⟨w2.heap.size + 1, 0, none⟩ = some (.int .u64 id) := (old ⟨w2.heap.size + 1, 0, none⟩ (show w2.heap.size + 1 < w3.heap.size by omega)).trans (SW.t0 0 (by decide))
      have r1 : w5.cell? ⟨w2.heap.size + 1, 1, none⟩ = some (.int .u64 en) := (old ⟨w2.heap.size + 1, 1, none⟩ (show w2.heap.size + 1 < w3.heap.size by omega)).trans (SW.t1 0 (by decide))
      have r2 : w5.cell? ⟨w2.heap.size + 1, 2, none⟩ = some (.slice none 0 0) := (old ⟨w2.heap.size + 1, 2, none⟩ (show w2.heap.size + 1 < w3.heap.size by omega)).trans (SW.t2 0 (by decide))
      have r4 : w5.cell? ⟨w2.heap.size + 1, 4, none⟩ = some (.map none) := (old ⟨w2.heap.size + 1, 4, none⟩ (show w2.heap.size + 1 < w3.heap.size by omega)).trans (SW.t4 0 (by decide))
      have r3 : w5.cell? ⟨w2.heap.size + 1, 3, none⟩ = some (.slice none 0 0) := (old ⟨w2.heap.size + 1, 3, none⟩ (show w2.heap.size + 1 < w3.heap.size by omega)).trans (SW.t3 0 (by decide))
      have B5 : Below w.heap.size w w5 := bw3.trans (vw.mono bw3.size)
      have z5 : w3.heap.size ≤ w5.heap.size := vw.size
      have HB5 : Hid (Below w.heap.size w w5) := B5
      have l1 : w2.heap.size + 1 < w5.heap.size := by omega
      have l2 : w2.heap.size + 2 < w5.heap.size := by omega
      have lb : B < w5.heap.size := by omega
      have lw : w.heap.size < w5.heap.size := by omega
      clear old T hv SW B5 n0 n2 n5 n20 nn nc bw3 vw
      go_wp2
      go_ret
      exact ⟨rfl, (HB5.out.alloc (by omega) _).alloc (by simp; omega) _⟩
    · go_wp2_with fail
      clear ry1 ry2
      obtain ⟨SW, z3, t3, c3, p3⟩ := made_laid w2 B id id en 0 0 tg un hB2 k73 f73
      obtain ⟨hN, bw2, hnc, hcc⟩ := HN.out
      have n0 := (c3 ⟨B, 0, none⟩ hB2 (by simp)).trans hN.c0
      have n2 := (c3 ⟨B, 2, none⟩ hB2 (by simp)).trans hN.c2
      have n5 := (c3 ⟨B, 5, none⟩ hB2 (by simp)).trans hN.c5
      have n20 := (c3 ⟨B, 20, none⟩ hB2 (by simp)).trans hN.c20
      have nn : (made w2 B id id en 0 0 tg un).cell? ⟨w.heap.size, 0, none⟩ = some (.slice none 0 0) := (c3 ⟨w.heap.size, 0, none⟩ (show w.heap.size < w2.heap.size by omega) (by intro h; have := congrArg Addr.block h; simp at this; omega)).trans (by rw [cell_of_row _ _ _ _ _ _ hnc]; rfl)
      have nc : (made w2 B id id en 0 0 tg un).cell? ⟨w.heap.size + 1, 0, none⟩ = some (.int .u64 now) := (c3 ⟨w.heap.size + 1, 0, none⟩ (show w.heap.size + 1 < w2.heap.size by omega) (by intro h; have := congrArg Addr.block h; simp at this; omega)).trans (by rw [cell_of_row _ _ _ _ _ _ hcc]; rfl)
      have bw3 : Below w.heap.size w (made w2 B id id en 0 0 tg un) := bw2.trans (t3.below bw2.size (by intro k hk; simp at hk; omega))
      have hb3 : B < (made w2 B id id en 0 0 tg un).heap.size := by omega
      clear t3 c3 p3 hN bw2 hnc hcc HN k73 f73
      change Calls _ _ _ (made w2 B id id en 0 0 tg un) _
      generalize made w2 B id id en 0 0 tg un = w3 at *
      refine (tell_self B 21 id fr sj tg 0 none 0 0 w3 (fun v w' => Told21 v w' (w2.heap.size + 2) (w2.heap.size + 1) 0 (later un now (orT tmo 2)) [] (pieceOf (far id id) (far id sj) id sj)) ?_ n0).mono ?_
      · intro v hv
        have S := SW.later hv hb3 (by omega) (by omega)
        exact told21C B (w2.heap.size + 2) (w2.heap.size + 1) (w.heap.size + 1) 1 0 0 0 tg un ⟨w2.heap.size, 0, none⟩ 2 2 (fun _ => id) (fun _ => en) (fun _ => .slice none 0 0) (fun _ => .slice none 0 0) id id sj 0 now (orT tmo 2) none 0 0 v S
          (Nat.lt_of_lt_of_le hb3 hv.size) (Nat.lt_of_lt_of_le (by omega) hv.size) (Nat.lt_of_lt_of_le (by omega) hv.size) (Nat.lt_of_lt_of_le (by omega) hv.size) (by omega) (by omega)
          ((hv.cell (p := ⟨B, 5, none⟩) hb3).trans n5) ((hv.cell (p := ⟨B, 2, none⟩) hb3).trans n2) ((hv.cell (p := ⟨w.heap.size + 1, 0, none⟩) (show w.heap.size + 1 < w3.heap.size by omega)).trans nc)
          [] (.inl ⟨rfl, rfl⟩) (by simp) (.inl rfl) (fun a l c h => by cases h) (by omega)
          ⟨fun i hi => by omega, by rw [far_self, HF.out.2]; have := Int.emod_nonneg x hd0; omega, by rw [far_self, HF.out.1]; omega, by rw [HF.out.1, HF.out.2]; have := Int.emod_lt_of_pos x (show 0 < d' by omega); omega⟩
      rintro e w5 ⟨rfl, v, hv, T⟩
      have ep : pieceOf (far id id) (far id sj) id sj = (id, sj) := by
        unfold pieceOf
        rw [far_self, HF.out.2]
        have := Int.emod_nonneg x hd0
        exact if_neg (by omega)
      rw [ep] at T
      have old : ∀ a : Addr, a.block < w3.heap.size → a ≠ ⟨w2.heap.size + 2, 3, none⟩ → a ≠ ⟨w2.heap.size + 1, 0 * 5 + 3, none⟩ → w5.cell? a = w3.cell? a := fun a ha h1 h2 => (T.cells a (Nat.lt_of_lt_of_le ha hv.size) h1 h2).trans (hv.cell ha)
      have q0 := (old ⟨w.heap.size, 0, none⟩ (show w.heap.size < w3.heap.size by omega) (by intro h; have := congrArg Addr.block h; simp at this; omega) (by intro h; have := congrArg Addr.block h; simp at this; omega)).trans nn
      have q20 := (old ⟨B, 20, none⟩ hb3 (by intro h; have := congrArg Addr.block h; simp at this; omega) (by intro h; have := congrArg Addr.block h; simp at this; omega)).trans n20
      have q73 := (old ⟨B, 73, none⟩ hb3 (by intro h; have := congrArg Addr.block h; simp at this; omega) (by intro h; have := congrArg Addr.block h; simp at this; omega)).trans SW.n73
      have s0 := (old ⟨w2.heap.size + 2, 0, none⟩ (show w2.heap.size + 2 < w3.heap.size by omega) (by simp) (by simp)).trans SW.s0
      have s1 := (old ⟨w2.heap.size + 2, 1, none⟩ (show w2.heap.size + 2 < w3.heap.size by omega) (by simp) (by simp)).trans SW.s1
      have s2 := (old ⟨w2.heap.size + 2, 2, none⟩ (show w2.heap.size + 2 < w3.heap.size by omega) (by simp) (by simp)).trans SW.s2
      have s3 := T.until'
      have s4 := (old ⟨w2.heap.size + 2, 4, none⟩ (show w2.heap.size + 2 < w3.heap.size by omega) (by simp) (by simp)).trans SW.s4
      have s5 := (old ⟨w2.heap.size + 2, 5, none⟩ (show w2.heap.size + 2 < w3.heap.size by omega) (by simp) (by simp)).trans SW.s5
      have r0 : w5.cell? ⟨w2.heap.size + 1, 0, none⟩ = some (.int .u64 id) := (old ⟨w2.heap.size + 1, 0, none⟩ (show w2.heap.size + 1 < w3.heap.size by omega) (by simp) (by simp)).trans (SW.t0 0 (by decide))
      have r1 : w5.cell? ⟨w2.heap.size + 1, 1, none⟩ = some (.int .u64 en) := (old ⟨w2.heap.size + 1, 1, none⟩ (show w2.heap.size + 1 < w3.heap.size by omega) (by simp) (by simp)).trans (SW.t1 0 (by decide))
      have r2 : w5.cell? ⟨w2.heap.size + 1, 2, none⟩ = some (.slice none 0 0) := (old ⟨w2.heap.size + 1, 2, none⟩ (show w2.heap.size + 1 < w3.heap.size by omega) (by simp) (by simp)).trans (SW.t2 0 (by decide))
      have r4 : w5.cell? ⟨w2.heap.size + 1, 4, none⟩ = some (.map none) := (old ⟨w2.heap.size + 1, 4, none⟩ (show w2.heap.size + 1 < w3.heap.size by omega) (by simp) (by simp)).trans (SW.t4 0 (by decide))
      obtain ⟨g, cap, r3, hg5, g0, g1⟩ : ∃ g cap, w5.cell? ⟨w2.heap.size + 1, 3, none⟩ = some (.slice (some ⟨g, 0, none⟩) 1 cap) ∧ g < w5.heap.size ∧ w5.cell? ⟨g, 0, none⟩ = some (.int .u64 id) ∧ w5.cell? ⟨g, 1, none⟩ = some (.int .u64 sj) := by
        obtain ⟨hv', h3, hp⟩ := T.holes
        rcases hp with ⟨_, hp⟩ | ⟨g, cap, rfl, hg, hc⟩
        · simp at hp
        · exact ⟨g, cap, by simpa using h3, hg, by simpa using (hc 0 (by simp)).1, by simpa using (hc 0 (by simp)).2⟩
      have B5 : Below w.heap.size w w5 := bw3.trans ((hv.mono bw3.size).trans (T.turned.below (Nat.le_trans bw3.size hv.size) (by intro k hk; simp at hk; omega)))
      have z5 : w3.heap.size ≤ w5.heap.size := Nat.le_trans hv.size T.turned.size
      have HB5 : Hid (Below w.heap.size w w5) := B5
      have l1 : w2.heap.size + 1 < w5.heap.size := by omega
      have l2 : w2.heap.size + 2 < w5.heap.size := by omega
      have lb : B < w5.heap.size := by omega
      have lw : w.heap.size < w5.heap.size := by omega
      clear old T hv SW B5 n0 n2 n5 n20 nn nc bw3 ep
      have hlat : later un now (orT tmo 2) = later un now (if tmo = 0 then 2 else tmo) := rfl
      have ew : IntKind.u64.wrap (2 * 2) = 4 := rfl
      by_cases ht0 : tmo = 0
      · have ht0' : (tmo == 0) = true := by simp [ht0]
        by_cases hX : un < IntKind.u64.wrap (now + 4)
        · have hl : later un now (orT tmo 2) = IntKind.u64.wrap (now + 4) := by rw [hlat, if_pos ht0]; unfold later; rw [ew, if_pos hX]
          rw [hl] at s3
          clear hlat hl ew
          go_wp2
          go_ret
          exact ⟨rfl, (HB5.out.alloc (by omega) _).alloc (by simp; omega) _⟩
        · have hl : later un now (orT tmo 2) = un := by rw [hlat, if_pos ht0]; unfold later; rw [ew, if_neg hX]
          rw [hl] at s3
          clear hlat hl ew
          go_wp2
          go_ret
          exact ⟨rfl, (HB5.out.alloc (by omega) _).alloc (by simp; omega) _⟩
      · have ht0' : (tmo == 0) = false := by simp [ht0]
        by_cases hX : un < IntKind.u64.wrap (now + IntKind.u64.wrap (2 * tmo))
        · have hl : later un now (orT tmo 2) = IntKind.u64.wrap (now + IntKind.u64.wrap (2 * tmo)) := by rw [hlat, if_neg ht0]; unfold later; rw [if_pos hX]
          rw [hl] at s3
          clear hlat hl ew
          go_wp2
          go_ret
          exact ⟨rfl, (HB5.out.alloc (by omega) _).alloc (by simp; omega) _⟩
        · have hl : later un now (orT tmo 2) = un := by rw [hlat, if_neg ht0]; unfold later; rw [if_neg hX]
          rw [hl] at s3
          clear hlat hl ew
          go_wp2
          go_ret
          exact ⟨rfl, (HB5.out.alloc (by omega) _).alloc (by simp; omega) _⟩
end Go.Proofs.Ybulkcfyi
