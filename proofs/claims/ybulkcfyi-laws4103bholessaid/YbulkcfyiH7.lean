/-
  LawS4103BHoles: the loop that lays the stretches.
-/
import Derived.Test.YbulkcfyiH5
import Derived.Test.YbulkcfyiH6
namespace Go.Proofs.Ybulkcfyi
open Go.RowKit Go.Stop

set_option maxHeartbeats 4000000 in
set_option maxRecDepth 100000 in
theorem loop2 (id tag mt frm sj tmo now un sd : Int) (mb : Bool) (p : Option Addr) (N C : Nat) (st en : Nat → Int) (hp : Nat → Option Addr) (hl hc : Nat → Nat) (hs : Nat → List (Int × Int)) (w0 : World) (S : Hid (Sts w0 p N st en hp hl hc hs)) (hN : N ≤ 1024) (hll : ∀ i, i < N → hl i ≤ 1024)
    (clk net nd tb base : Nat) (wb : World) (B0 : Hid (Below w0.heap.size w0 wb)) (hb : w0.heap.size ≤ base) (vP : Value) (hv : Nat → Value) (w : World) (hlay : Lay wb base tb N 0 1 vP hv st en hs w)
    (f : Nat → Value) (hk : Kn f (KB id tag mt frm sj tmo now un sd mb p N C)) (hk1 : Kn f (KD clk net nd vP tb N 0)) :
    Code.wp Yba.prog (inn (sq2 (sq1 (tl 8 (Yba.f3.body.getD .skip))))) (onExit 2 (X4 (KB id tag mt frm sj tmo now un sd mb p N C) clk net nd wb base tb N st en hs)) (fr f) w := by
  refine wp_loop (c := inn (inn (sq2 (sq1 (tl 8 (Yba.f3.body.getD .skip)))))) (I4 (KB id tag mt frm sj tmo now un sd mb p N C) clk net nd wb base tb N st en hs) (fun a _ => N - (intOf (a.tmps.getD 85 undef)).toNat) ⟨f, 0, vP, hv, rfl, hk, hk1, Nat.zero_le _, hlay⟩ ?_
  clear hk hk1 hlay f vP hv w
  rintro a wr ⟨f, i, vP, hv, rfl, hk, hk1, hi, hlay⟩
  have hm : N - (intOf ((fr f).tmps.getD 85 undef)).toNat = N - i := by rw [fr_get f 85 (by decide), hk1.2.2.2.2.2.2.1]; simp [intOf]
  rw [hm]
  by_cases hin : i < N
  · cases hpi : hp i with
    | none =>
      refine wp_mono (round2_nil id tag mt frm sj tmo now un sd mb p N C st en hp hl hc hs w0 S clk net nd tb i base wb B0 hb hin hN (hll i hin) hpi vP hv wr hlay f hk hk1 (fun _ _ => False)) ?_
      intro e a w' h
      cases e with
      | normal => exact h
      | exit m => exact False.elim h.2
      | _ => exact False.elim h
    | some ai =>
      refine wp_mono (round2_some id tag mt frm sj tmo now un sd mb p N C st en hp hl hc hs w0 S clk net nd tb i base wb B0 hb hin hN (hll i hin) ai hpi vP hv wr hlay f hk hk1 (fun _ _ => False)) ?_
      intro e a w' h
      cases e with
      | normal => exact h
      | exit m => exact False.elim h.2
      | _ => exact False.elim h
  · conv => arg 2; whnf
    obtain rfl : i = N := by omega
    have HL : Hid (Lay wb base tb i i (i + 1) vP hv st en hs wr) := hlay
    obtain ⟨k0, k1, k2, k3, k4, k5, k6, k7, k8, k9, k10, _⟩ := hk
    obtain ⟨k24, k25, k26, k27, k28, k84, k85, _⟩ := hk1
    rw [fr_lit, k0, k1, k2, k3, k4, k5, k6, k7, k8, k9, k10, k24, k25, k26, k27, k28, k84, k85]
    clear k0 k1 k2 k3 k4 k5 k6 k7 k8 k9 k10 k24 k25 k26 k27 k28 k84 k85 hlay hm hi
    have hji : ¬ (i : Int) < i := by omega
    go_wp2
    exact ⟨rfl, _, _, _, fr_of rfl rfl, ⟨rfl, rfl, rfl, rfl, rfl, rfl, rfl, rfl, rfl, rfl, rfl, trivial⟩, ⟨rfl, rfl, rfl, rfl, rfl, rfl, rfl, trivial⟩, HL.out⟩
end Go.Proofs.Ybulkcfyi
