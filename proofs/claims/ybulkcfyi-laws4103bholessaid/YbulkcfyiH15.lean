/-
  LawS4103BHoles: its last loop.
-/
import Derived.Test.YbulkcfyiH12
import Derived.Test.YbulkcfyiH13
import Derived.Test.YbulkcfyiH14
namespace Go.Proofs.Ybulkcfyi
open Go.RowKit Go.Stop

def X15 (w : World) (a : Act) (w' : World) : Prop := ∃ f, a = fr f ∧ Turned [] w w'

def I15 (l0 : List (Nat × Value)) (sb : Nat) (kv pa pb : Int) (N : Nat) (w : World) (a : Act) (w' : World) : Prop :=
  ∃ f i, a = fr f ∧ Kn f l0 ∧ Kn f (KH sb kv pa pb N i) ∧ i ≤ N ∧ Turned [] w w'

set_option maxHeartbeats 4000000 in
set_option maxRecDepth 100000 in
theorem loop5 (id tag mt frm sj tmo now un sd : Int) (mb : Bool) (p : Option Addr) (N C : Nat) (st en : Nat → Int) (hp : Nat → Option Addr) (hl hc : Nat → Nat) (hs : Nat → List (Int × Int)) (w0 : World) (S : Hid (Sts w0 p N st en hp hl hc hs)) (hN : N ≤ 1024) (hll : ∀ i, i < N → hl i ≤ 1024) (sb tb : Nat) (kv pa pb : Int) (w : World) (B0 : Hid (Below w0.heap.size w0 w)) (hv : Nat → Value) (qs : Nat → List (Int × Int)) (hch : Hid (Chk w sb tb N st en hv qs))
    (hqs : ∀ i, i < N → qs i = if kv = i ∧ (pa, pb) ∉ hs i then hs i ++ [(pa, pb)] else hs i)
    (f : Nat → Value) (hk : Kn f (KB id tag mt frm sj tmo now un sd mb p N C)) (hk1 : Kn f (KH sb kv pa pb N 0)) :
    Code.wp Yba.prog (inn (sq2 (sq1 (tl 22 (Yba.f3.body.getD .skip))))) (onExit 8 (X15 w)) (fr f) w := by
  refine wp_loop (c := (inn (inn (sq2 (sq1 (tl 22 (Yba.f3.body.getD .skip))))))) (I15 (KB id tag mt frm sj tmo now un sd mb p N C) sb kv pa pb N w) (fun a _ => N - (intOf (a.tmps.getD 295 undef)).toNat) ⟨f, 0, rfl, hk, hk1, Nat.zero_le _, Turned.refl _ _⟩ ?_
  clear hk hk1 f
  rintro a wr ⟨f, i, rfl, hk, hk1, hi, ht⟩
  have hm : N - (intOf ((fr f).tmps.getD 295 undef)).toNat = N - i := by rw [fr_get f 295 (by decide), hk1.2.2.2.2.2.1]; simp [intOf]
  rw [hm]
  by_cases hin : i < N
  · have fin : ∀ e a w', P12 (KB id tag mt frm sj tmo now un sd mb p N C) sb kv pa pb N i wr e a w' → Exit.then (fun a' w' => I15 (KB id tag mt frm sj tmo now un sd mb p N C) sb kv pa pb N w a' w' ∧ N - (intOf (a'.tmps.getD 295 undef)).toNat < N - i) (onExit 8 (X15 w)) e a w' := by
      intro e a w' h
      cases e with
      | normal =>
        obtain ⟨f', rfl, h1, h2, h3⟩ := h
        refine ⟨⟨f', i + 1, rfl, h1, h2, by omega, ht.trans h3⟩, ?_⟩
        rw [fr_get f' 295 (by decide), h2.2.2.2.2.2.1]
        simp [intOf]; omega
      | _ => exact False.elim h
    have B1 : Hid (Below w0.heap.size w0 wr) := B0.out.trans (ht.below B0.out.size (by simp))
    have hc1 : Hid (Chk wr sb tb N st en hv qs) := hch.out.turned ht
    have hq := hqs i hin
    by_cases hki : kv = i
    · by_cases hmem : (pa, pb) ∈ hs i
      · rw [if_neg (fun h => h.2 hmem)] at hq
        exact wp_mono (round5_held id tag mt frm sj tmo now un sd mb p N C st en hp hl hc hs w0 S sb tb i kv pa pb hin hN (hll i hin) hki hmem wr B1 hv qs hc1 hq f hk hk1) fin
      · rw [if_pos ⟨hki, hmem⟩] at hq
        exact wp_mono (round5_new id tag mt frm sj tmo now un sd mb p N C st en hp hl hc hs w0 S sb tb i kv pa pb hin hN (hll i hin) hki hmem wr B1 hv qs hc1 hq f hk hk1) fin
    · rw [if_neg (fun h => hki h.1)] at hq
      exact wp_mono (round5_other id tag mt frm sj tmo now un sd mb p N C st en hp hl hc hs w0 S sb tb i kv pa pb hin hN (hll i hin) hki wr B1 hv qs hc1 hq f hk hk1) fin
  · conv => arg 2; whnf
    have HT : Hid (Turned [] w wr) := ht
    obtain ⟨k0, k1, k2, k3, k4, k5, k6, k7, k8, k9, k10, _⟩ := hk
    obtain ⟨k33, k34, k35, k36, k294, k295, _⟩ := hk1
    rw [fr_lit, k0, k1, k2, k3, k4, k5, k6, k7, k8, k9, k10, k33, k34, k35, k36, k294, k295]
    clear k0 k1 k2 k3 k4 k5 k6 k7 k8 k9 k10 k33 k34 k35 k36 k294 k295 ht hm hqs
    have hji : ¬ (i : Int) < N := by omega
    go_wp2
    exact ⟨rfl, _, fr_of rfl rfl, HT.out⟩
end Go.Proofs.Ybulkcfyi
