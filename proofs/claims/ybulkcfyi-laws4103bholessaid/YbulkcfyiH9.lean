/-
  LawS4103BHoles: the loop that asks whether a stretch holds the piece already.
-/
import Derived.Test.YbulkcfyiH0
namespace Go.Proofs.Ybulkcfyi
open Go.RowKit Go.Stop
attribute [local go_sem ↓] Go.wp_at_zero Go.wp_at_succ

/-- What is known of the frame while a stretch is checked. -/
def KG (sb tb : Nat) (kv pa pb : Int) (N i : Nat) (wl : Int) : List (Nat × Value) :=
  [(33, .pointer (some ⟨sb, 0, none⟩)), (34, .int .i64 kv), (35, .int .u64 pa), (36, .int .u64 pb), (43, .int .i64 i), (44, .pointer (some ⟨tb, i * 5, none⟩)), (45, .int .i64 wl), (294, .int .i64 N), (295, .int .i64 i)]

def I9 (l0 l1 : List (Nat × Value)) (L : Nat) (ps : List (Int × Int)) (p : Int × Int) (w : World) (a : Act) (w' : World) : Prop :=
  w' = w ∧ ∃ f j, a = fr f ∧ Kn f l0 ∧ Kn f l1 ∧ Kn f [(46, .bool true), (348, .int .i64 L), (349, .int .i64 (j : Nat))] ∧ j ≤ L ∧ ∀ i, i < j → ps.getD i (0, 0) ≠ p

def X9 (l0 l1 : List (Nat × Value)) (ps : List (Int × Int)) (p : Int × Int) (w : World) (a : Act) (w' : World) : Prop :=
  w' = w ∧ ∃ f b, a = fr f ∧ Kn f l0 ∧ Kn f l1 ∧ f 46 = .bool b ∧ (b = true ↔ p ∉ ps)

set_option maxHeartbeats 16000000 in
set_option maxRecDepth 100000 in
theorem loop6 (id tag mt frm sj tmo now un sd : Int) (mb : Bool) (p : Option Addr) (N C : Nat) (st en : Nat → Int) (hp : Nat → Option Addr) (hl hc : Nat → Nat) (hs : Nat → List (Int × Int)) (w0 : World) (S : Hid (Sts w0 p N st en hp hl hc hs)) (sb tb i : Nat) (kv pa pb wl : Int) (hi : i < N) (hli : hl i ≤ 1024) (w : World) (B0 : Hid (Below w0.heap.size w0 w))
    (f : Nat → Value) (hk : Kn f (KB id tag mt frm sj tmo now un sd mb p N C)) (hk1 : Kn f (KG sb tb kv pa pb N i wl)) (hk2 : Kn f [(46, .bool true), (348, .int .i64 (hl i)), (349, .int .i64 (0 : Nat))]) :
    Code.wp Yba.prog (inn (sq2 (sq2 (inn (sq2 (sq1 (tl 5 (inn (sq1 (tl 2 (inn (inn (sq2 (sq1 (tl 22 (Yba.f3.body.getD .skip)))))))))))))))) (onExit 10 (X9 (KB id tag mt frm sj tmo now un sd mb p N C) (KG sb tb kv pa pb N i wl) (hs i) (pa, pb) w)) (fr f) w := by
  conv => arg 2; whnf
  refine wp_loop (I9 (KB id tag mt frm sj tmo now un sd mb p N C) (KG sb tb kv pa pb N i wl) (hl i) (hs i) (pa, pb) w) (fun a _ => hl i - (intOf (a.tmps.getD 349 undef)).toNat) ⟨rfl, f, 0, rfl, hk, hk1, hk2, Nat.zero_le _, fun i hi => by omega⟩ ?_
  clear hk hk1 hk2 f
  rintro a wr ⟨rfl, f, j, rfl, hk, hk1, hk2, hj, hno⟩
  have HNO : Hid (∀ i', i' < j → (hs i).getD i' (0, 0) ≠ (pa, pb)) := hno
  obtain ⟨k0, k1, k2, k3, k4, k5, k6, k7, k8, k9, k10, _⟩ := hk
  obtain ⟨k33, k34, k35, k36, k43, k44, k45, k294, k295, _⟩ := hk1
  obtain ⟨k46, k348, k349, _⟩ := hk2
  have hm : hl i - (intOf ((fr f).tmps.getD 349 undef)).toNat = hl i - j := by rw [fr_get f 349 (by decide), k349]; simp [intOf]
  rw [hm, fr_lit, k0, k1, k2, k3, k4, k5, k6, k7, k8, k9, k10, k33, k34, k35, k36, k43, k44, k45, k294, k295, k46, k348, k349]
  clear hm k0 k1 k2 k3 k4 k5 k6 k7 k8 k9 k10 k33 k34 k35 k36 k43 k44 k45 k294 k295 k46 k348 k349 hno
  have S1 := S.out.later B0.out
  have HLEN : Hid ((hs i).length = hl i) := (S1.inner i hi).1
  obtain ⟨L, eL⟩ : ∃ L, L = hl i := ⟨_, rfl⟩
  have EL : Hid (L = hl i) := eL
  rw [← eL] at hj hli ⊢
  by_cases hjn : j < L
  · rcases S1.outer with h0 | ⟨gs, o, rfl, hcc⟩
    · omega
    obtain ⟨_, _, hin⟩ := S1.inner i hi
    rcases hin with h0 | ⟨gi, oi, ep, hci⟩
    · omega
    have c2 := (hcc i hi).2.2
    rw [ep, ← eL] at c2
    have x0 := (hci j (by omega)).1
    have x1 := (hci j (by omega)).2
    have HX : Hid ((hs i).getD j (0, 0) = (((hs i).getD j (0, 0)).1, ((hs i).getD j (0, 0)).2)) := rfl
    generalize ((hs i).getD j (0, 0)).1 = x at *
    generalize ((hs i).getD j (0, 0)).2 = y at *
    clear hcc hci ep eL S S1 B0
    have hji : (j : Int) < L := by omega
    have hiN : (i : Int) < N := by omega
    by_cases e1 : x = pa
    · have n1 : (x == pa) = true := by simp [e1]
      by_cases e2 : y = pb
      · have n2 : (y == pb) = true := by simp [e2]
        have HM : Hid ((pa, pb) ∈ hs i) := mem_getD.2 ⟨j, by rw [HLEN.out, ← EL.out]; exact hjn, by rw [HX.out, e1, e2]⟩
        clear e1 e2
        go_wp2
        exact ⟨rfl, rfl, _, false, fr_of rfl rfl, ⟨rfl, rfl, rfl, rfl, rfl, rfl, rfl, rfl, rfl, rfl, rfl, trivial⟩, ⟨rfl, rfl, rfl, rfl, rfl, rfl, rfl, rfl, rfl, trivial⟩, rfl, by simpa using HM.out⟩
      · have n2 : (y == pb) = false := by simp [e2]
        have HM : Hid ((hs i).getD j (0, 0) ≠ (pa, pb)) := fun h => e2 (congrArg Prod.snd (HX.out.symm.trans h))
        clear e1 e2
        go_wp2
        refine ⟨⟨rfl, _, j + 1, fr_of rfl rfl, ⟨rfl, rfl, rfl, rfl, rfl, rfl, rfl, rfl, rfl, rfl, rfl, trivial⟩, ⟨rfl, rfl, rfl, rfl, rfl, rfl, rfl, rfl, rfl, trivial⟩, ⟨rfl, rfl, rfl, trivial⟩, by omega, fun i' hi' => ?_⟩, ?_⟩
        · rcases Nat.lt_or_ge i' j with h | h
          · exact HNO.out i' h
          · obtain rfl : i' = j := by omega
            exact HM.out
        · show L - (intOf (.int .i64 ((j : Int) + 1))).toNat < L - j
          simp [intOf]; omega
    · have n1 : (x == pa) = false := by simp [e1]
      have HM : Hid ((hs i).getD j (0, 0) ≠ (pa, pb)) := fun h => e1 (congrArg Prod.fst (HX.out.symm.trans h))
      clear e1
      go_wp2
      refine ⟨⟨rfl, _, j + 1, fr_of rfl rfl, ⟨rfl, rfl, rfl, rfl, rfl, rfl, rfl, rfl, rfl, rfl, rfl, trivial⟩, ⟨rfl, rfl, rfl, rfl, rfl, rfl, rfl, rfl, rfl, trivial⟩, ⟨rfl, rfl, rfl, trivial⟩, by omega, fun i' hi' => ?_⟩, ?_⟩
      · rcases Nat.lt_or_ge i' j with h | h
        · exact HNO.out i' h
        · obtain rfl : i' = j := by omega
          exact HM.out
      · show L - (intOf (.int .i64 ((j : Int) + 1))).toNat < L - j
        simp [intOf]; omega
  · have hji : ¬ (j : Int) < L := by omega
    have HM : Hid ((pa, pb) ∉ hs i) := by
      intro h
      obtain ⟨i', hi', e⟩ := mem_getD.1 h
      exact HNO.out i' (by rw [HLEN.out, ← EL.out] at hi'; omega) e
    clear S S1 B0 eL
    go_wp2
    exact ⟨rfl, rfl, _, true, fr_of rfl rfl, ⟨rfl, rfl, rfl, rfl, rfl, rfl, rfl, rfl, rfl, rfl, rfl, trivial⟩, ⟨rfl, rfl, rfl, rfl, rfl, rfl, rfl, rfl, rfl, trivial⟩, rfl, by simpa using HM.out⟩
end Go.Proofs.Ybulkcfyi
