/-
  LawS4103BHoles: a round of the last loop.
-/
import Derived.Test.YbulkcfyiH11
namespace Go.Proofs.Ybulkcfyi
open Go.RowKit Go.Stop
attribute [local go_sem ↓] Go.wp_at_zero Go.wp_at_succ

set_option maxHeartbeats 16000000 in
set_option maxRecDepth 100000 in
theorem round5_new (id tag mt frm sj tmo now un sd : Int) (mb : Bool) (p : Option Addr) (N C : Nat) (st en : Nat → Int) (hp : Nat → Option Addr) (hl hc : Nat → Nat) (hs : Nat → List (Int × Int)) (w0 : World) (S : Hid (Sts w0 p N st en hp hl hc hs)) (sb tb i : Nat) (kv pa pb : Int) (hi : i < N) (hN : N ≤ 1024) (hli : hl i ≤ 1024) (hki : kv = i) (hmem : (pa, pb) ∉ hs i) (w : World) (B0 : Hid (Below w0.heap.size w0 w)) (hv : Nat → Value) (qs : Nat → List (Int × Int)) (hch : Hid (Chk w sb tb N st en hv qs)) (hqs : qs i = hs i ++ [(pa, pb)])
    (f : Nat → Value) (hk : Kn f (KB id tag mt frm sj tmo now un sd mb p N C)) (hk1 : Kn f (KH sb kv pa pb N i)) :
    Code.wp Yba.prog (inn (inn (sq2 (sq1 (tl 22 (Yba.f3.body.getD .skip)))))) (P12 (KB id tag mt frm sj tmo now un sd mb p N C) sb kv pa pb N i w) (fr f) w := by
  conv => arg 2; whnf
  obtain ⟨k0, k1, k2, k3, k4, k5, k6, k7, k8, k9, k10, _⟩ := hk
  obtain ⟨k33, k34, k35, k36, k294, k295, _⟩ := hk1
  rw [fr_lit, k0, k1, k2, k3, k4, k5, k6, k7, k8, k9, k10, k33, k34, k35, k36, k294, k295]
  clear k0 k1 k2 k3 k4 k5 k6 k7 k8 k9 k10 k33 k34 k35 k36 k294 k295
  have S1 := S.out.later B0.out
  have hlen : (hs i).length = hl i := (S1.inner i hi).1
  rcases S1.outer with h0 | ⟨gs, o, rfl, hcc⟩
  · omega
  have c0 := (hcc i hi).1
  have c1 := (hcc i hi).2.1
  have c2 := (hcc i hi).2.2
  have s5 := hch.out.s5
  have y0 := hch.out.t0 i hi
  have y1 := hch.out.t1 i hi
  have y2 := hch.out.t2 i hi
  have y3 := hch.out.t3 i hi
  have hpc := hch.out.pc i hi
  obtain ⟨pv, cap, ev⟩ := hpc.form
  rw [ev] at y3 hpc
  rw [hqs] at y3 hpc
  have HPC : Hid (PcAt w (.slice pv (hs i ++ [(pa, pb)]).length cap) (hs i ++ [(pa, pb)])) := hpc
  have HY3 : Hid (w.cell? ⟨tb, i * 5 + 3, none⟩ = some (.slice pv (hs i ++ [(pa, pb)]).length cap)) := y3
  have elen : (hs i ++ [(pa, pb)]).length = hl i + 1 := by rw [List.length_append, hlen]; rfl
  rw [elen] at y3 hpc HY3 HPC
  clear hpc hcc S1 ev
  obtain ⟨L, eL⟩ : ∃ L, L = hl i := ⟨_, rfl⟩
  have EL : Hid (L = hl i) := eL
  have HLEN : Hid ((hs i).length = hl i) := hlen
  rw [← eL] at c2 y3 hli
  clear eL hlen elen hqs
  obtain ⟨s, es⟩ : ∃ s, s = st i := ⟨_, rfl⟩
  obtain ⟨e, ee⟩ : ∃ e, e = en i := ⟨_, rfl⟩
  rw [← es] at c0 y0
  rw [← ee] at c1 y1
  clear es ee
  have hiN : (i : Int) < N := by omega
  have n0 : (s != s) = false := by simp
  have n1 : (e != e) = false := by simp
  have TD : Hid (∀ n, Turned [] w (w.drewN n)) := fun n => Turned.of_below (below_drewN (Below.refl _ _) n)
  have HMEM : Hid ((pa, pb) ∉ hs i) := hmem
  clear hmem
  have n2 : ((i : Int) == kv) = true := beq_iff_eq.2 hki.symm
  clear hki
  go_wp2
  go_quiet (fail)
  go_wp2
  refine reopen (R := fun a => Code.wp Yba.prog _ _ a _) rfl rfl ?_
  intro f' hf'
  refine of_onExit (loop6 id tag mt frm sj tmo now un sd mb (some ⟨gs, o, none⟩) N C st en hp hl hc hs w0 S sb tb i kv pa pb L hi (by rw [← EL.out]; exact hli) _ (B0.out.trans ((TD.out _).below B0.out.size (by simp))) f' ⟨hf' 0, hf' 1, hf' 2, hf' 3, hf' 4, hf' 5, hf' 6, hf' 7, hf' 8, hf' 9, hf' 10, trivial⟩ ⟨hf' 33, hf' 34, hf' 35, hf' 36, hf' 43, hf' 44, hf' 45, hf' 294, hf' 295, trivial⟩ ⟨hf' 46, (hf' 348).trans (by rw [← EL.out]; rfl), hf' 349, trivial⟩) ?_
  rintro a' w2 ⟨rfl, f2, b, rfl, hk, hk1, k46, hbm⟩
  obtain rfl : b = true := hbm.2 HMEM.out
  obtain ⟨k0, k1, k2, k3, k4, k5, k6, k7, k8, k9, k10, _⟩ := hk
  obtain ⟨k33, k34, k35, k36, k43, k44, k45, k294, k295, _⟩ := hk1
  rw [fr_lit, k0, k1, k2, k3, k4, k5, k6, k7, k8, k9, k10, k33, k34, k35, k36, k43, k44, k45, k294, k295, k46]
  clear k0 k1 k2 k3 k4 k5 k6 k7 k8 k9 k10 k33 k34 k35 k36 k43 k44 k45 k294 k295 k46 hf' f' hbm
  have n3 : (((L : Int) + 1) != ((L : Int) + 1)) = false := by simp
  go_wp2
  refine reopen (R := fun a => Code.wp Yba.prog _ _ a _) rfl rfl ?_
  intro f' hf'
  refine of_onExit (loop7 id tag mt frm sj tmo now un sd mb (some ⟨gs, o, none⟩) N C st en hp hl hc hs w0 S sb tb i kv pa pb (L + 1) true hi (by rw [← EL.out]; exact hli) _ (B0.out.trans ((TD.out _).below B0.out.size (by simp))) (.slice pv (hl i + 1) cap) (hs i ++ [(pa, pb)]) (((TD.out _).cell (p := ⟨tb, i * 5 + 3, none⟩) (World.block_lt_of_cell? _ _ HY3.out) (by simp)).trans HY3.out) (HPC.out.turned (TD.out _) (by simp)) ⟨by rw [List.length_append, HLEN.out]; simp, fun j hj => by simp [List.getD_eq_getElem?_getD, List.getElem?_append_left (show j < (hs i).length by rw [HLEN.out]; exact hj)]⟩ f' ⟨hf' 0, hf' 1, hf' 2, hf' 3, hf' 4, hf' 5, hf' 6, hf' 7, hf' 8, hf' 9, hf' 10, trivial⟩ ⟨hf' 33, hf' 34, hf' 35, hf' 36, hf' 43, hf' 44, hf' 45, hf' 294, hf' 295, trivial⟩ ⟨hf' 46, (hf' 392).trans (by rw [← EL.out]; rfl), hf' 393, trivial⟩) ?_
  rintro a' w3 ⟨f3, rfl, hk, hk1, k46, ht⟩
  obtain ⟨k0, k1, k2, k3, k4, k5, k6, k7, k8, k9, k10, _⟩ := hk
  obtain ⟨k33, k34, k35, k36, k43, k44, k45, k294, k295, _⟩ := hk1
  rw [fr_lit, k0, k1, k2, k3, k4, k5, k6, k7, k8, k9, k10, k33, k34, k35, k36, k43, k44, k45, k294, k295, k46]
  clear k0 k1 k2 k3 k4 k5 k6 k7 k8 k9 k10 k33 k34 k35 k36 k43 k44 k45 k294 k295 k46 hf' f'
  have HT : Hid (Turned [] w w3) := (TD.out _).trans ht
  clear ht y0 y1 y2 c0 c1 c2 s5 y3
  have y3' := (HT.out.cell (p := ⟨tb, i * 5 + 3, none⟩) (World.block_lt_of_cell? _ _ HY3.out) (by simp)).trans HY3.out
  obtain ⟨g, ep, z0, z1⟩ : ∃ g, pv = some ⟨g, 0, none⟩ ∧ w3.cell? ⟨g, L * 2, none⟩ = some (.int .u64 pa) ∧ w3.cell? ⟨g, L * 2 + 1, none⟩ = some (.int .u64 pb) := by
    rcases HPC.out.turned HT.out (by simp) with ⟨_, h0⟩ | ⟨g, cap', ev, hg, hc'⟩
    · simp at h0
    · simp only [Value.slice.injEq] at ev
      have h1 := hc' L (by rw [List.length_append, HLEN.out, ← EL.out]; simp)
      have h2 : (hs i ++ [(pa, pb)]).getD L (0, 0) = (pa, pb) := by
        have : L = (hs i).length := by rw [HLEN.out, ← EL.out]
        rw [this]; simp [List.getD_eq_getElem?_getD]
      rw [h2] at h1
      exact ⟨g, ev.1, h1.1, h1.2⟩
  subst ep
  rw [← EL.out] at y3'
  have m1 : (pa != pa) = false := by simp
  have m2 : (pb != pb) = false := by simp
  have hLi : (L : Int) < ((L + 1 : Nat) : Int) := by omega
  go_wp2
  exact ⟨_, fr_of rfl rfl, ⟨rfl, rfl, rfl, rfl, rfl, rfl, rfl, rfl, rfl, rfl, rfl, trivial⟩, ⟨rfl, rfl, rfl, rfl, rfl, rfl, trivial⟩, HT.out⟩

end Go.Proofs.Ybulkcfyi
