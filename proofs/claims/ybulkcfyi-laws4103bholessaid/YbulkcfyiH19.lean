/-
  LawS4103BHoles, walked.
-/
import Derived.Test.YbulkcfyiH1
import Derived.Test.YbulkcfyiH7
import Derived.Test.YbulkcfyiH21
namespace Go.Proofs.Ybulkcfyi
open Go.RowKit Go.Stop
attribute [local go_sem ↓] Go.wp_at_zero Go.wp_at_succ

set_option maxHeartbeats 4000000 in
set_option maxRecDepth 100000 in
theorem holes_long (id tag mt frm sj tmo now un sd : Int) (mb : Bool) (p : Option Addr) (N C : Nat) (w : World) (h : 1024 < N) :
    Calls Yba.prog 3 #[.int .u64 id, .int .u64 tag, .int .u64 mt, .int .u64 frm, .int .u64 sj, .int .u64 tmo, .int .u64 now, .int .u64 un, .int .u8 sd, .bool mb, .slice p N C] w fun e w' => e = .returned (.bool true) ∧ Below w.heap.size w w' := by
  have h' : (1024 : Int) < N := by omega
  go_enter Yba.func3, Yba.ntmps3
  go_wp2
  go_ret
  exact ⟨rfl, Below.refl _ _⟩

theorem Yba.info47 : (Yba.prog.info? 47).map (fun i => (i.zero, i.size, i.bytes)) = some (some (.agg #[.int .u64 0, .int .u64 0, .slice none 0 0, .slice none 0 0, .map none]), 5, 72) := by kernel_rfl

theorem made47 (N : Nat) (hN : N ≤ 1024) (w : World) : ∃ cs : Array Value, cs.size = N * 5 ∧ (Instr.makeSlice 40 (.int .i64 N) (.int .i64 N)).run Yba.prog w = .ok (.slice (some ⟨w.heap.size, 0, none⟩) N N) (w.alloc (.cells cs 47)) := by
  obtain ⟨i0, hi0, hz0, hz1, hz2⟩ := info_parts Yba.info47
  have hr := run_make (P := Yba.prog) w 40 47 i0 _ Yba.underlying40 hi0 hz0 .i64 .i64 N N (by omega) (Int.le_refl _) (by rw [hz2]; omega) (by omega)
  simp only [Int.toNat_natCast, hz1] at hr
  exact ⟨_, size_madeCells _ _, hr⟩

/-- What the choice of the message's time leaves. -/
def P11 (l0 : List (Nat × Value)) (net nd : Nat) (tm : Int) (w : World) : Exit → Act → World → Prop
  | .normal, a, w' => w' = w ∧ ∃ f, a = fr f ∧ Kn f l0 ∧ Kn f [(25, .pointer (some ⟨net, 0, none⟩)), (26, .pointer (some ⟨nd, 0, none⟩)), (32, .int .u64 tm)]
  | _, _, _ => False

set_option maxHeartbeats 4000000 in
set_option maxRecDepth 100000 in
theorem choice (id tag mt frm sj tmo now un sd : Int) (mb : Bool) (p : Option Addr) (N C : Nat) (net nd : Nat) (w : World) (f : Nat → Value) (hk : Kn f (KB id tag mt frm sj tmo now un sd mb p N C)) (hk1 : Kn f [(25, .pointer (some ⟨net, 0, none⟩)), (26, .pointer (some ⟨nd, 0, none⟩)), (32, .int .u64 mt)]) :
    Code.wp Yba.prog (sq1 (tl 11 (Yba.f3.body.getD .skip))) (P11 (KB id tag mt frm sj tmo now un sd mb p N C) net nd (if mb then tag else mt) w) (fr f) w := by
  conv => arg 2; whnf
  obtain ⟨k0, k1, k2, k3, k4, k5, k6, k7, k8, k9, k10, _⟩ := hk
  obtain ⟨k25, k26, k32, _⟩ := hk1
  rw [fr_lit, k0, k1, k2, k3, k4, k5, k6, k7, k8, k9, k10, k25, k26, k32]
  clear k0 k1 k2 k3 k4 k5 k6 k7 k8 k9 k10 k25 k26 k32
  cases mb
  · go_wp2
    exact ⟨rfl, _, fr_of rfl rfl, ⟨rfl, rfl, rfl, rfl, rfl, rfl, rfl, rfl, rfl, rfl, rfl, trivial⟩, ⟨rfl, rfl, rfl, trivial⟩⟩
  · go_wp2
    exact ⟨rfl, _, fr_of rfl rfl, ⟨rfl, rfl, rfl, rfl, rfl, rfl, rfl, rfl, rfl, rfl, rfl, trivial⟩, ⟨rfl, rfl, rfl, trivial⟩⟩

set_option maxHeartbeats 16000000 in
set_option maxRecDepth 100000 in
theorem holes_short (id tag mt frm sj tmo now un sd : Int) (mb : Bool) (p : Option Addr) (N C : Nat) (st en : Nat → Int) (hp : Nat → Option Addr) (hl hc : Nat → Nat) (hs : Nat → List (Int × Int)) (w : World) (S : Hid (Sts w p N st en hp hl hc hs)) (hN : N ≤ 1024) (bs : 0 ≤ sd ∧ sd ≤ 255) :
    Calls Yba.prog 3 #[.int .u64 id, .int .u64 tag, .int .u64 mt, .int .u64 frm, .int .u64 sj, .int .u64 tmo, .int .u64 now, .int .u64 un, .int .u8 sd, .bool mb, .slice p N C] w fun e w' => e = .returned (.bool true) ∧ Below w.heap.size w w' := by
  have h' : ¬ (1024 : Int) < N := by omega
  go_enter Yba.func3, Yba.ntmps3
  obtain ⟨R, hR⟩ : ∃ R, R = tl 13 (Yba.f3.body.getD .skip) := ⟨_, rfl⟩
  have HR : Hid (R = tl 13 (Yba.f3.body.getD .skip)) := hR
  change Code.wp _ (Code.seq (sq1 (tl 0 (Yba.f3.body.getD .skip))) (Code.seq (sq1 (tl 1 (Yba.f3.body.getD .skip))) (Code.seq (sq1 (tl 2 (Yba.f3.body.getD .skip))) (Code.seq (sq1 (tl 3 (Yba.f3.body.getD .skip))) (Code.seq (sq1 (tl 4 (Yba.f3.body.getD .skip))) (Code.seq (sq1 (tl 5 (Yba.f3.body.getD .skip))) (Code.seq (sq1 (tl 6 (Yba.f3.body.getD .skip))) (Code.seq (sq1 (tl 7 (Yba.f3.body.getD .skip))) (Code.seq (sq1 (tl 8 (Yba.f3.body.getD .skip))) (Code.seq (sq1 (tl 9 (Yba.f3.body.getD .skip))) (Code.seq (sq1 (tl 10 (Yba.f3.body.getD .skip))) (Code.seq (sq1 (tl 11 (Yba.f3.body.getD .skip))) (Code.seq (sq1 (tl 12 (Yba.f3.body.getD .skip))) (tl 13 (Yba.f3.body.getD .skip))))))))))))))) _ _ _
  rw [← hR]
  clear hR
  refine wp_seq ?_
  conv => arg 2; whnf
  go_wp2
  conv => arg 2; whnf
  go_wp2
  conv => arg 2; whnf
  go_wp2
  clear h'
  refine reopen (R := fun a => Code.wp Yba.prog _ _ a _) rfl rfl ?_
  intro f' hf'
  refine loop1 id tag mt frm sj tmo now un sd mb p N C st en hp hl hc hs w S hN f' ⟨hf' 0, hf' 1, hf' 2, hf' 3, hf' 4, hf' 5, hf' 6, hf' 7, hf' 8, hf' 9, hf' 10, trivial⟩ (hf' 53) (hf' 54) _ ?_ ?_
  · rintro a ⟨f2, rfl, h22⟩
    rw [fr_lit, h22]
    clear hf' h22 HR
    go_wp2
    go_ret
    exact ⟨rfl, Below.refl _ _⟩
  rintro a ⟨f2, rfl, hk, hll⟩
  have HLL : Hid (∀ i, i < N → hl i ≤ 1024) := hll
  obtain ⟨k0, k1, k2, k3, k4, k5, k6, k7, k8, k9, k10, _⟩ := hk
  rw [fr_lit, k0, k1, k2, k3, k4, k5, k6, k7, k8, k9, k10]
  clear k0 k1 k2 k3 k4 k5 k6 k7 k8 k9 k10 hll hf' f'
  go_wp2
  conv => arg 2; whnf
  go_wp2
  conv => arg 2; whnf
  go_wp2
  conv => arg 2; whnf
  go_wp2_with fail
  refine (new_node id 0 tmo 31 27 ⟨w.heap.size + 1, 0, none⟩ ⟨w.heap.size, 0, none⟩ _ (by decide) (by decide)).mono ?_
  rintro e w2 ⟨B, rfl, hB1, hB2, hN2, hb2⟩
  have hB3 : w.heap.size + 2 ≤ B := by simpa using hB1
  have bw2 : Below w.heap.size w w2 := (((Below.refl _ w).alloc (Nat.le_refl _) _).alloc (by simp) _).trans (hb2.mono (by simp; omega))
  have hcc : w2.heap[w.heap.size]? = some (.cells #[.int .u64 now] 30) := by
    rw [hb2.block _ (by simp; omega), Below.heap_alloc _ _ _ (by simp), heap_alloc_last]
  have hnc : w2.heap[w.heap.size + 1]? = some (.cells #[.int .i64 0] 33) := by
    rw [hb2.block _ (by simp)]
    exact heap_new (by simp)
  have HN : Hid (NodeAt w2 B id (orT tmo 2) (.iface 31 (.pointer (some ⟨w.heap.size + 1, 0, none⟩))) (.iface 27 (.pointer (some ⟨w.heap.size, 0, none⟩))) ∧ Below w.heap.size w w2 ∧ w2.heap[w.heap.size + 1]? = some (.cells #[.int .i64 0] 33) ∧ w2.heap[w.heap.size]? = some (.cells #[.int .u64 now] 30)) := ⟨hN2, bw2, hnc, hcc⟩
  clear hN2 hb2 hB1 bw2 hnc hcc
  go_wp2
  conv => arg 2; whnf
  go_wp2
  conv => arg 2; whnf
  obtain ⟨cs, hcs, hmk⟩ := made47 N hN (w2.alloc (.cells #[.int .u64 id] 36))
  have HMK : Hid ((Instr.makeSlice 40 (.int .i64 N) (.int .i64 N)).run Yba.prog (w2.alloc (.cells #[.int .u64 id] 36)) = .ok (.slice (some ⟨w2.heap.size + 1, 0, none⟩) N N) ((w2.alloc (.cells #[.int .u64 id] 36)).alloc (.cells cs 47))) := by
    have := hmk
    simp at this
    exact this
  have HCS : Hid (cs.size = N * 5) := hcs
  clear hmk hcs
  obtain ⟨w3, e3⟩ : ∃ w3, w3 = (w2.alloc (.cells #[.int .u64 id] 36)).alloc (.cells cs 47) := ⟨_, rfl⟩
  have E3 : Hid (w3 = (w2.alloc (.cells #[.int .u64 id] 36)).alloc (.cells cs 47)) := e3
  rw [← e3] at HMK
  clear e3
  go_wp2_with (show wpList _ _ _ ({ dst := some 82, op := _, type := _, pos := _, after := _, guard := _ } :: _) _ _; refine wpList_make_run rfl (.tmp 81) (.tmp 81) 40 rfl _ _ _ rfl rfl HMK.out ?_)
  conv => arg 2; whnf
  go_wp2
  clear HMK
  have lay0 : Lay w2 w2.heap.size (w2.heap.size + 1) N 0 1 (.slice (some ⟨w2.heap.size, 0, none⟩) 1 1) (fun _ => .slice none 0 0) st en hs w3 := by
    rw [E3.out]
    refine ⟨((Below.refl _ w2).alloc (Nat.le_refl _) _).alloc (by simp) _, by omega, ⟨cs, heap_new (by simp), HCS.out⟩, ⟨[.int .u64 id], rfl, .inr ⟨w2.heap.size, 1, _, rfl, Nat.le_refl _, heap_old (heap_new rfl), by omega, by decide, rfl, rfl⟩⟩, by simp [Value.ownBlock], fun k hk => by omega, fun k hk => by omega⟩
  refine reopen (R := fun a => Code.wp Yba.prog _ _ a _) rfl rfl ?_
  intro f' hf'
  refine of_onExit (loop2 id tag mt frm sj tmo now un sd mb p N C st en hp hl hc hs w S hN HLL.out w.heap.size (w.heap.size + 1) B (w2.heap.size + 1) w2.heap.size w2 HN.out.2.1 HN.out.2.1.size _ _ w3 lay0 f' ⟨hf' 0, hf' 1, hf' 2, hf' 3, hf' 4, hf' 5, hf' 6, hf' 7, hf' 8, hf' 9, hf' 10, trivial⟩ ⟨hf' 24, hf' 25, hf' 26, hf' 27, hf' 28, hf' 84, hf' 85, trivial⟩) ?_
  rintro a w4 ⟨f4, vP, hv, rfl, hk, hk1, lay4⟩
  clear hf' f' lay0 HCS E3 cs
  obtain ⟨zs, own4⟩ := lay4.pts
  obtain ⟨gp, cp, rfl, hgp1, hgp2⟩ := own4.form (by omega)
  have hsz4 : w2.heap.size ≤ w4.heap.size := lay4.low.size
  have k73 := (lay4.low.cell (p := ⟨B, 73, none⟩) hB2).trans HN.out.1.c73
  have f73 := (lay4.low.frozen (p := ⟨B, 73, none⟩) hB2).trans HN.out.1.f73
  have LD := laid5 (sd := sd % 2) (tag := tag) (un := un) lay4 hB2 k73 f73
  have rdy := pre5_ready (sd := sd % 2) (tag := tag) (un := un) (gp := gp) (M := N + 1) (cp := cp) (tb := w2.heap.size + 1) (N := N) (Nat.lt_of_lt_of_le hB2 hsz4) k73 f73
  unfold pre5 swCells at rdy
  obtain ⟨ry1, ry2⟩ := rdy
  have HLD : Hid (Laid w4 (post5 w4 B (sd % 2) tag un gp (N + 1) cp (w2.heap.size + 1) N) B (w2.heap.size + 1) N (sd % 2) tag un ⟨gp, 0, none⟩ (N + 1) cp hv st en hs w2.heap.size ∧ Below w2.heap.size w2 w4 ∧ w2.heap.size + 1 < w4.heap.size) := ⟨LD, lay4.low, LD.tlt⟩
  obtain ⟨k0, k1, k2, k3, k4, k5, k6, k7, k8, k9, k10, _⟩ := hk
  obtain ⟨k24, k25, k26, k27, k28, k84, k85, _⟩ := hk1
  rw [fr_lit, k0, k1, k2, k3, k4, k5, k6, k7, k8, k9, k10, k24, k25, k26, k27, k28, k84, k85]
  clear k0 k1 k2 k3 k4 k5 k6 k7 k8 k9 k10 k24 k25 k26 k27 k28 k84 k85 k73 f73 LD lay4 own4 zs hgp1 hgp2
  go_wp2
  conv => arg 2; whnf
  go_wp2
  conv => arg 2; whnf
  go_wp2
  clear ry1 ry2
  change Code.wp _ _ _ _ (post5 w4 B (sd % 2) tag un gp (N + 1) cp (w2.heap.size + 1) N)
  obtain ⟨w5, e5⟩ : ∃ w5, w5 = post5 w4 B (sd % 2) tag un gp (N + 1) cp (w2.heap.size + 1) N := ⟨_, rfl⟩
  rw [← e5] at HLD ⊢
  clear e5
  have hwB : w.heap.size + 1 < w2.heap.size := by omega
  have hq0 : w5.cell? ⟨w.heap.size + 1, 0, none⟩ = some (.int .i64 0) := (HLD.out.1.old ⟨w.heap.size + 1, 0, none⟩ (show w.heap.size + 1 < w4.heap.size by omega) (addr_ne (by omega))).trans ((HLD.out.2.1.cell (p := ⟨w.heap.size + 1, 0, none⟩) hwB).trans (by rw [cell_of_row _ _ _ _ _ _ HN.out.2.2.1]; rfl))
  have hcc : w5.cell? ⟨w.heap.size, 0, none⟩ = some (.int .u64 now) := (HLD.out.1.old ⟨w.heap.size, 0, none⟩ (show w.heap.size < w4.heap.size by omega) (addr_ne (by omega))).trans ((HLD.out.2.1.cell (p := ⟨w.heap.size, 0, none⟩) (show w.heap.size < w2.heap.size by omega)).trans (by rw [cell_of_row _ _ _ _ _ _ HN.out.2.2.2]; rfl))
  have hc5 : w5.cell? ⟨B, 5, none⟩ = some (.iface 27 (.pointer (some ⟨w.heap.size, 0, none⟩))) := (HLD.out.1.old ⟨B, 5, none⟩ (show B < w4.heap.size by omega) (addr_ne (by omega))).trans ((HLD.out.2.1.cell (p := ⟨B, 5, none⟩) hB2).trans HN.out.1.c5)
  have hc2 : w5.cell? ⟨B, 2, none⟩ = some (.int .u64 (orT tmo 2)) := (HLD.out.1.old ⟨B, 2, none⟩ (show B < w4.heap.size by omega) (addr_ne (by omega))).trans ((HLD.out.2.1.cell (p := ⟨B, 2, none⟩) hB2).trans HN.out.1.c2)
  have bw4 : Below w.heap.size w w4 := HN.out.2.1.trans (HLD.out.2.1.mono HN.out.2.1.size)
  have B5 : Below w.heap.size w w5 := bw4.trans (HLD.out.1.turned.below bw4.size (by intro k hk; simp at hk; omega))
  refine reopen (R := fun a => Code.wp Yba.prog _ _ a _) rfl rfl ?_
  intro f' hf'
  refine wp_mono (choice id tag mt frm sj tmo now un sd mb p N C (w.heap.size + 1) B w5 f' ⟨hf' 0, hf' 1, hf' 2, hf' 3, hf' 4, hf' 5, hf' 6, hf' 7, hf' 8, hf' 9, hf' 10, trivial⟩ ⟨hf' 25, hf' 26, hf' 32, trivial⟩) ?_
  intro e a w' h
  rename_i K hK
  cases e with
  | normal =>
    obtain ⟨rfl, f6, rfl, hk, hk1⟩ := h
    refine hK (fr f6) w' ?_
    rw [HR.out]
    have hlt4 := HLD.out.2.2
    refine wp_mono (told_part id tag mt frm sj tmo now un sd mb p N C st en hp hl hc hs w S hN HLL bs (w.heap.size + 1) B (w2.heap.size + 1) w.heap.size _ w4 w' _ _ _ _ hv HLD.out.1 B5 (by omega) (by omega) (by omega) (by omega) (by omega) (by omega) hq0 hc5 hc2 hcc f6 hk hk1) ?_
    intro e a w7 h
    cases e with
    | ret =>
      obtain ⟨f7, rfl, h22, hb7⟩ := h
      rw [fr_lit, h22]
      go_ret
      exact ⟨rfl, hb7⟩
    | _ => exact False.elim h
  | _ => exact False.elim h

theorem holes_any (id tag mt frm sj tmo now un sd : Int) (mb : Bool) (p : Option Addr) (N C : Nat) (st en : Nat → Int) (hp : Nat → Option Addr) (hl hc : Nat → Nat) (hs : Nat → List (Int × Int)) (w : World) (S : Sts w p N st en hp hl hc hs) (bs : 0 ≤ sd ∧ sd ≤ 255) :
    Calls Yba.prog 3 #[.int .u64 id, .int .u64 tag, .int .u64 mt, .int .u64 frm, .int .u64 sj, .int .u64 tmo, .int .u64 now, .int .u64 un, .int .u8 sd, .bool mb, .slice p N C] w fun e w' => e = .returned (.bool true) ∧ Below w.heap.size w w' := by
  by_cases h : 1024 < N
  · exact holes_long id tag mt frm sj tmo now un sd mb p N C w h
  · exact holes_short id tag mt frm sj tmo now un sd mb p N C st en hp hl hc hs w S (by omega) bs
end Go.Proofs.Ybulkcfyi
