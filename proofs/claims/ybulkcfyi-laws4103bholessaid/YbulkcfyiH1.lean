/-
  LawS4103BHoles: its first loop (the lengths).
-/
import Derived.Test.YbulkcfyiH0
namespace Go.Proofs.Ybulkcfyi
open Go.RowKit Go.Stop

def I1 (l0 : List (Nat × Value)) (N : Nat) (hl : Nat → Nat) (w : World) (a : Act) (w' : World) : Prop :=
  w' = w ∧ ∃ f j, a = fr f ∧ Kn f l0 ∧ f 53 = .int .i64 N ∧ f 54 = .int .i64 (j : Nat) ∧ j ≤ N ∧ ∀ i, i < j → hl i ≤ 1024

def X1 (l0 : List (Nat × Value)) (N : Nat) (hl : Nat → Nat) (a : Act) : Prop := ∃ f, a = fr f ∧ Kn f l0 ∧ ∀ i, i < N → hl i ≤ 1024
def X22 (a : Act) : Prop := ∃ f, a = fr f ∧ f 22 = .bool true

set_option maxHeartbeats 4000000 in
set_option maxRecDepth 100000 in
theorem loop1 (id tag mt frm sj tmo now un sd : Int) (mb : Bool) (p : Option Addr) (N C : Nat) (st en : Nat → Int) (hp : Nat → Option Addr) (hl hc : Nat → Nat) (hs : Nat → List (Int × Int)) (w : World) (S : Hid (Sts w p N st en hp hl hc hs)) (hN : N ≤ 1024)
    (f : Nat → Value) (hk : Hid (Kn f (KB id tag mt frm sj tmo now un sd mb p N C))) (k53 : f 53 = .int .i64 N) (k54 : f 54 = .int .i64 0) (Q : Exit → Act → World → Prop)
    (hret : ∀ a, X22 a → Q .ret a w)
    (hex : ∀ a, X1 (KB id tag mt frm sj tmo now un sd mb p N C) N hl a → Q (.exit 0) a w) :
    Code.wp Yba.prog (inn (sq2 (sq1 (tl 2 (Yba.f3.body.getD .skip))))) Q (fr f) w := by
  conv => arg 2; whnf
  refine wp_loop (I1 (KB id tag mt frm sj tmo now un sd mb p N C) N hl w) (fun a _ => N - (intOf (a.tmps.getD 54 undef)).toNat) ?_ ?_
  · exact ⟨rfl, f, 0, rfl, hk.out, k53, k54, Nat.zero_le _, fun i hi => by omega⟩
  · clear hk k53 k54
    rintro a w' ⟨rfl, f, j, rfl, hk0, k53, k54, hj, hlt0⟩
    have hlt : Hid (∀ i, i < j → hl i ≤ 1024) := hlt0
    obtain ⟨k0, k1, k2, k3, k4, k5, k6, k7, k8, k9, k10, _⟩ := hk0
    have hm : N - (intOf ((fr f).tmps.getD 54 undef)).toNat = N - j := by rw [fr_get f 54 (by decide), k54]; simp [intOf]
    rw [hm, fr_lit, k0, k1, k2, k3, k4, k5, k6, k7, k8, k9, k10, k53, k54]
    clear hlt0 hm k0 k1 k2 k3 k4 k5 k6 k7 k8 k9 k10 k53 k54
    by_cases hjn : j < N
    · rcases S.out.outer with h0 | ⟨g, o, rfl, hc⟩
      · omega
      have c2 := (hc j hjn).2.2
      clear hc S
      obtain ⟨l, el⟩ : ∃ l, l = hl j := ⟨_, rfl⟩
      have HL : Hid (l = hl j) := el
      rw [← el] at c2
      clear el
      have hji : (j : Int) < N := by omega
      by_cases hlj : l ≤ 1024
      · have hlj' : ¬ (1024 : Int) < l := by omega
        go_wp2
        refine ⟨⟨rfl, _, j + 1, fr_of rfl rfl, ⟨rfl, rfl, rfl, rfl, rfl, rfl, rfl, rfl, rfl, rfl, rfl, trivial⟩, rfl, rfl, by omega, ?_⟩, by simp [intOf]; omega⟩
        intro i hi
        rcases Nat.lt_or_ge i j with h | h
        · exact hlt.out i h
        · obtain rfl : i = j := by omega
          rw [← HL.out]; exact hlj
      · have hlj' : (1024 : Int) < l := by omega
        go_wp2
        exact hret _ ⟨_, fr_of rfl rfl, rfl⟩
    · have hji : ¬ (j : Int) < N := by omega
      clear S
      go_wp2
      exact ⟨_, fr_of rfl rfl, ⟨rfl, rfl, rfl, rfl, rfl, rfl, rfl, rfl, rfl, rfl, rfl, trivial⟩, fun i hi => hlt.out i (by omega)⟩
end Go.Proofs.Ybulkcfyi
