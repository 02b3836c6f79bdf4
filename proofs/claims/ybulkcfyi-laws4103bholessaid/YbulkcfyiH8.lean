/-
  LawS4103BHoles: the loop that looks for the stretch.
-/
import Derived.Test.YbulkcfyiH0
import Derived.BigQuiet
namespace Go.Proofs.Ybulkcfyi
open Go.RowKit Go.Stop
attribute [local go_sem ↓] Go.wp_at_zero Go.wp_at_succ

def I8 (l0 : List (Nat × Value)) (sb N : Nat) (st en : Nat → Int) (frm sj : Int) (w : World) (a : Act) (w' : World) : Prop :=
  ∃ f j, a = fr f ∧ Kn f l0 ∧ Kn f [(33, .pointer (some ⟨sb, 0, none⟩)), (226, .int .i64 N), (227, .int .i64 (j : Nat)), (34, .int .i64 (-1)), (35, .int .u64 0), (36, .int .u64 0)] ∧ j ≤ N ∧ (∀ i, i < j → ¬ Ins (st i) (en i) frm sj) ∧ Turned [] w w'

/-- What is known behind the search. -/
def Found (N : Nat) (st en : Nat → Int) (frm sj : Int) (kv pa pb : Int) : Prop :=
  (kv = -1 ∧ ∀ i, i < N → ¬ Ins (st i) (en i) frm sj) ∨
    ∃ k : Nat, kv = k ∧ k < N ∧ (∀ i, i < k → ¬ Ins (st i) (en i) frm sj) ∧ Ins (st k) (en k) frm sj ∧ (pa, pb) = pieceOf (far (st k) frm) (far (st k) sj) frm sj

def X8 (l0 : List (Nat × Value)) (sb N : Nat) (st en : Nat → Int) (frm sj : Int) (w : World) (a : Act) (w' : World) : Prop :=
  ∃ f kv pa pb, a = fr f ∧ Kn f l0 ∧ Kn f [(33, .pointer (some ⟨sb, 0, none⟩)), (34, .int .i64 kv), (35, .int .u64 pa), (36, .int .u64 pb)] ∧ Found N st en frm sj kv pa pb ∧ Turned [] w w'

set_option maxHeartbeats 16000000 in
set_option maxRecDepth 100000 in
theorem loop4 (id tag mt frm sj tmo now un sd : Int) (mb : Bool) (p : Option Addr) (N C : Nat) (st en : Nat → Int) (hp : Nat → Option Addr) (hl hc : Nat → Nat) (hs : Nat → List (Int × Int)) (w0 : World) (S : Hid (Sts w0 p N st en hp hl hc hs)) (hN : N ≤ 1024) (sb : Nat) (w : World) (B0 : Hid (Below w0.heap.size w0 w))
    (f : Nat → Value) (hk : Kn f (KB id tag mt frm sj tmo now un sd mb p N C)) (hk1 : Kn f [(33, .pointer (some ⟨sb, 0, none⟩)), (226, .int .i64 N), (227, .int .i64 (0 : Nat)), (34, .int .i64 (-1)), (35, .int .u64 0), (36, .int .u64 0)]) :
    Code.wp Yba.prog (inn (sq2 (inn (sq2 (sq1 (tl 18 (Yba.f3.body.getD .skip))))))) (onExit 6 (X8 (KB id tag mt frm sj tmo now un sd mb p N C) sb N st en frm sj w)) (fr f) w := by
  conv => arg 2; whnf
  refine wp_loop (I8 (KB id tag mt frm sj tmo now un sd mb p N C) sb N st en frm sj w) (fun a _ => N - (intOf (a.tmps.getD 227 undef)).toNat) ⟨f, 0, rfl, hk, hk1, Nat.zero_le _, fun i hi => by omega, Turned.refl _ _⟩ ?_
  clear hk hk1 f
  rintro a wr ⟨f, j, rfl, hk, hk1, hj, hno, ht⟩
  have HT : Hid (Turned [] w wr) := ht
  have HNO : Hid (∀ i, i < j → ¬ Ins (st i) (en i) frm sj) := hno
  obtain ⟨k0, k1, k2, k3, k4, k5, k6, k7, k8, k9, k10, _⟩ := hk
  obtain ⟨k33, k226, k227, k34, k35, k36, _⟩ := hk1
  have hm : N - (intOf ((fr f).tmps.getD 227 undef)).toNat = N - j := by rw [fr_get f 227 (by decide), k227]; simp [intOf]
  rw [hm, fr_lit, k0, k1, k2, k3, k4, k5, k6, k7, k8, k9, k10, k33, k226, k227, k34, k35, k36]
  clear hm k0 k1 k2 k3 k4 k5 k6 k7 k8 k9 k10 k33 k226 k227 k34 k35 k36 hno
  by_cases hjn : j < N
  · have S1 := S.out.later (B0.out.trans (ht.below B0.out.size (by simp)))
    rcases S1.outer with h0 | ⟨gs, o, rfl, hcc⟩
    · omega
    have c0 := (hcc j hjn).1
    have c1 := (hcc j hjn).2.1
    obtain ⟨s, es⟩ : ∃ s, s = st j := ⟨_, rfl⟩
    obtain ⟨e, ee⟩ : ∃ e, e = en j := ⟨_, rfl⟩
    have HE : Hid (s = st j ∧ e = en j) := ⟨es, ee⟩
    rw [← es] at c0
    rw [← ee] at c1
    clear es ee hcc S S1 B0 ht
    have hji : (j : Int) < N := by omega
    have nxt : ¬ Ins s e frm sj → ∀ i, i < j + 1 → ¬ Ins (st i) (en i) frm sj := by
      intro hn i hi
      rcases Nat.lt_or_ge i j with h | h
      · exact HNO.out i h
      · obtain rfl : i = j := by omega
        rw [← HE.out.1, ← HE.out.2]; exact hn
    have NXT : Hid (¬ Ins s e frm sj → ∀ i, i < j + 1 → ¬ Ins (st i) (en i) frm sj) := nxt
    clear nxt
    by_cases e1 : IntKind.u64.wrap (frm - s) = IntKind.u64.wrap (sj - s)
    · have n1 : (IntKind.u64.wrap (frm - s) != IntKind.u64.wrap (sj - s)) = false := by simp [e1]
      have HN1 : Hid (¬ Ins s e frm sj) := fun h => h.1 e1
      clear e1
      go_wp2
      go_quiet (fail)
      go_wp2
      refine ⟨⟨_, j + 1, fr_of rfl rfl, ⟨rfl, rfl, rfl, rfl, rfl, rfl, rfl, rfl, rfl, rfl, rfl, trivial⟩, ⟨rfl, rfl, rfl, rfl, rfl, rfl, trivial⟩, by omega, NXT.out HN1.out, HT.out.trans (Turned.of_below (below_drewN (Below.refl _ _) _))⟩, ?_⟩
      show N - (intOf (.int .i64 ((j : Int) + 1))).toNat < N - j
      simp [intOf]; omega
    · have n1 : (IntKind.u64.wrap (frm - s) != IntKind.u64.wrap (sj - s)) = true := by simp [e1]
      by_cases e2 : IntKind.u64.wrap (frm - s) ≤ IntKind.u64.wrap (e - s)
      · by_cases e3 : IntKind.u64.wrap (sj - s) ≤ IntKind.u64.wrap (e - s)
        · have HI : Hid (Ins s e frm sj) := ⟨e1, e2, e3⟩
          clear e1
          by_cases e4 : IntKind.u64.wrap (sj - s) < IntKind.u64.wrap (frm - s)
          · have HP : Hid ((sj, frm) = pieceOf (far s frm) (far s sj) frm sj) := (if_pos e4).symm
            go_wp2
            go_quiet (fail)
            go_wp2
            exact ⟨rfl, _, j, _, _, fr_of rfl rfl, ⟨rfl, rfl, rfl, rfl, rfl, rfl, rfl, rfl, rfl, rfl, rfl, trivial⟩, ⟨rfl, rfl, rfl, rfl, trivial⟩, .inr ⟨j, rfl, hjn, HNO.out, by rw [← HE.out.1, ← HE.out.2]; exact HI.out, by rw [← HE.out.1]; exact HP.out⟩, HT.out.trans (Turned.of_below (below_drewN (Below.refl _ _) _))⟩
          · have HP : Hid ((frm, sj) = pieceOf (far s frm) (far s sj) frm sj) := (if_neg e4).symm
            go_wp2
            go_quiet (fail)
            go_wp2
            exact ⟨rfl, _, j, _, _, fr_of rfl rfl, ⟨rfl, rfl, rfl, rfl, rfl, rfl, rfl, rfl, rfl, rfl, rfl, trivial⟩, ⟨rfl, rfl, rfl, rfl, trivial⟩, .inr ⟨j, rfl, hjn, HNO.out, by rw [← HE.out.1, ← HE.out.2]; exact HI.out, by rw [← HE.out.1]; exact HP.out⟩, HT.out.trans (Turned.of_below (below_drewN (Below.refl _ _) _))⟩
        · have HN1 : Hid (¬ Ins s e frm sj) := fun h => e3 h.2.2
          clear e1
          have e3' : IntKind.u64.wrap (e - s) < IntKind.u64.wrap (sj - s) := by omega
          clear e3
          go_wp2
          go_quiet (fail)
          go_wp2
          refine ⟨⟨_, j + 1, fr_of rfl rfl, ⟨rfl, rfl, rfl, rfl, rfl, rfl, rfl, rfl, rfl, rfl, rfl, trivial⟩, ⟨rfl, rfl, rfl, rfl, rfl, rfl, trivial⟩, by omega, NXT.out HN1.out, HT.out.trans (Turned.of_below (below_drewN (Below.refl _ _) _))⟩, ?_⟩
          show N - (intOf (.int .i64 ((j : Int) + 1))).toNat < N - j
          simp [intOf]; omega
      · have HN1 : Hid (¬ Ins s e frm sj) := fun h => e2 h.2.1
        clear e1
        have e2' : IntKind.u64.wrap (e - s) < IntKind.u64.wrap (frm - s) := by omega
        clear e2
        go_wp2
        go_quiet (fail)
        go_wp2
        refine ⟨⟨_, j + 1, fr_of rfl rfl, ⟨rfl, rfl, rfl, rfl, rfl, rfl, rfl, rfl, rfl, rfl, rfl, trivial⟩, ⟨rfl, rfl, rfl, rfl, rfl, rfl, trivial⟩, by omega, NXT.out HN1.out, HT.out.trans (Turned.of_below (below_drewN (Below.refl _ _) _))⟩, ?_⟩
        show N - (intOf (.int .i64 ((j : Int) + 1))).toNat < N - j
        simp [intOf]; omega
  · have hji : ¬ (j : Int) < N := by omega
    clear S B0 ht
    go_wp2
    exact ⟨rfl, _, -1, 0, 0, fr_of rfl rfl, ⟨rfl, rfl, rfl, rfl, rfl, rfl, rfl, rfl, rfl, rfl, rfl, trivial⟩, ⟨rfl, rfl, rfl, rfl, trivial⟩, .inl ⟨rfl, fun i hi => HNO.out i (by omega)⟩, HT.out⟩
end Go.Proofs.Ybulkcfyi
