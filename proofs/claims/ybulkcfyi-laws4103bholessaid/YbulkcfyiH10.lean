/-
  LawS4103BHoles: the loop that compares a stretch's holes.
-/
import Derived.Test.YbulkcfyiH9
import Derived.BigQuiet
namespace Go.Proofs.Ybulkcfyi
open Go.RowKit Go.Stop
attribute [local go_sem ↓] Go.wp_at_zero Go.wp_at_succ

def I10 (l0 l1 : List (Nat × Value)) (b : Bool) (L : Nat) (w : World) (a : Act) (w' : World) : Prop :=
  ∃ f j, a = fr f ∧ Kn f l0 ∧ Kn f l1 ∧ Kn f [(46, .bool b), (392, .int .i64 L), (393, .int .i64 (j : Nat))] ∧ j ≤ L ∧ Turned [] w w'

def X10 (l0 l1 : List (Nat × Value)) (b : Bool) (w : World) (a : Act) (w' : World) : Prop :=
  ∃ f, a = fr f ∧ Kn f l0 ∧ Kn f l1 ∧ f 46 = .bool b ∧ Turned [] w w'

set_option maxHeartbeats 16000000 in
set_option maxRecDepth 100000 in
theorem loop7 (id tag mt frm sj tmo now un sd : Int) (mb : Bool) (p : Option Addr) (N C : Nat) (st en : Nat → Int) (hp : Nat → Option Addr) (hl hc : Nat → Nat) (hs : Nat → List (Int × Int)) (w0 : World) (S : Hid (Sts w0 p N st en hp hl hc hs)) (sb tb i : Nat) (kv pa pb wl : Int) (b : Bool) (hi : i < N) (hli : hl i ≤ 1024) (w : World) (B0 : Hid (Below w0.heap.size w0 w))
    (hv : Value) (qs : List (Int × Int)) (t3 : Hid (w.cell? ⟨tb, i * 5 + 3, none⟩ = some hv)) (hpc : Hid (PcAt w hv qs)) (hpre : Hid (hl i ≤ qs.length ∧ ∀ j, j < hl i → qs.getD j (0, 0) = (hs i).getD j (0, 0)))
    (f : Nat → Value) (hk : Kn f (KB id tag mt frm sj tmo now un sd mb p N C)) (hk1 : Kn f (KG sb tb kv pa pb N i wl)) (hk2 : Kn f [(46, .bool b), (392, .int .i64 (hl i)), (393, .int .i64 (0 : Nat))]) :
    Code.wp Yba.prog (inn (sq2 (sq1 (tl 8 (inn (sq1 (tl 2 (inn (inn (sq2 (sq1 (tl 22 (Yba.f3.body.getD .skip))))))))))))) (onExit 12 (X10 (KB id tag mt frm sj tmo now un sd mb p N C) (KG sb tb kv pa pb N i wl) b w)) (fr f) w := by
  conv => arg 2; whnf
  refine wp_loop (I10 (KB id tag mt frm sj tmo now un sd mb p N C) (KG sb tb kv pa pb N i wl) b (hl i) w) (fun a _ => hl i - (intOf (a.tmps.getD 393 undef)).toNat) ⟨f, 0, rfl, hk, hk1, hk2, Nat.zero_le _, Turned.refl _ _⟩ ?_
  clear hk hk1 hk2 f
  rintro a wr ⟨f, j, rfl, hk, hk1, hk2, hj, ht⟩
  have HT : Hid (Turned [] w wr) := ht
  obtain ⟨k0, k1, k2, k3, k4, k5, k6, k7, k8, k9, k10, _⟩ := hk
  obtain ⟨k33, k34, k35, k36, k43, k44, k45, k294, k295, _⟩ := hk1
  obtain ⟨k46, k392, k393, _⟩ := hk2
  have hm : hl i - (intOf ((fr f).tmps.getD 393 undef)).toNat = hl i - j := by rw [fr_get f 393 (by decide), k393]; simp [intOf]
  rw [hm, fr_lit, k0, k1, k2, k3, k4, k5, k6, k7, k8, k9, k10, k33, k34, k35, k36, k43, k44, k45, k294, k295, k46, k392, k393]
  clear hm k0 k1 k2 k3 k4 k5 k6 k7 k8 k9 k10 k33 k34 k35 k36 k43 k44 k45 k294 k295 k46 k392 k393
  have S1 := S.out.later (B0.out.trans (ht.below B0.out.size (by simp)))
  obtain ⟨L, eL⟩ : ∃ L, L = hl i := ⟨_, rfl⟩
  have EL : Hid (L = hl i) := eL
  rw [← eL] at hj hli hpre ⊢
  by_cases hjn : j < L
  · rcases S1.outer with h0 | ⟨gs, o, rfl, hcc⟩
    · omega
    obtain ⟨_, _, hin⟩ := S1.inner i hi
    rcases hin with h0 | ⟨gi, oi, ep, hci⟩
    · omega
    have c2 := (hcc i hi).2.2
    rw [ep, ← eL] at c2
    have x0 := (hci j (by omega)).1
    have x1 := (hci j (by omega)).2
    have y3 := (ht.cell (p := ⟨tb, i * 5 + 3, none⟩) (World.block_lt_of_cell? _ _ t3.out) (by simp)).trans t3.out
    have hjq : j < qs.length := Nat.lt_of_lt_of_le hjn hpre.out.1
    have hpr := hpre.out.2 j hjn
    rcases hpc.out.turned ht (by simp) with ⟨_, h0⟩ | ⟨g, cap, rfl, hg, hcq⟩
    · rw [h0] at hjq; simp at hjq
    have y0 := (hcq j hjq).1
    have y1 := (hcq j hjq).2
    rw [hpr] at y0 y1
    generalize ((hs i).getD j (0, 0)).1 = x at *
    generalize ((hs i).getD j (0, 0)).2 = y at *
    have hjqi : (j : Int) < qs.length := by omega
    clear hcc hci hcq ep eL S S1 B0 hpr hpre hpc t3 ht hg
    generalize qs.length = M at *
    have hji : (j : Int) < L := by omega
    have hiN : (i : Int) < N := by omega
    have n1 : (x != x) = false := by simp
    have n2 : (y != y) = false := by simp
    go_wp2
    go_quiet (fail)
    go_wp2
    refine ⟨⟨_, j + 1, fr_of rfl rfl, ⟨rfl, rfl, rfl, rfl, rfl, rfl, rfl, rfl, rfl, rfl, rfl, trivial⟩, ⟨rfl, rfl, rfl, rfl, rfl, rfl, rfl, rfl, rfl, trivial⟩, ⟨rfl, rfl, rfl, trivial⟩, by omega, HT.out.trans (Turned.of_below (below_drewN (Below.refl _ _) _))⟩, ?_⟩
    show L - (intOf (.int .i64 ((j : Int) + 1))).toNat < L - j
    simp [intOf]; omega
  · have hji : ¬ (j : Int) < L := by omega
    clear S S1 B0 eL hpre hpc t3 ht
    go_wp2
    exact ⟨rfl, _, fr_of rfl rfl, ⟨rfl, rfl, rfl, rfl, rfl, rfl, rfl, rfl, rfl, rfl, rfl, trivial⟩, ⟨rfl, rfl, rfl, rfl, rfl, rfl, rfl, rfl, rfl, trivial⟩, rfl, HT.out⟩
end Go.Proofs.Ybulkcfyi
