/-
  LawS4103BHoles: behind pathTold.
-/
import Derived.Test.YbulkcfyiH8
import Derived.Test.YbulkcfyiH16
namespace Go.Proofs.Ybulkcfyi
open Go.RowKit Go.Stop
attribute [local go_sem ↓] Go.wp_at_zero Go.wp_at_succ

/-- What pathTold has left, in the stretches and in the sweep's end. -/
def Left (tm tag frm sj un now tmo un' : Int) (N : Nat) (st en : Nat → Int) (hs qs : Nat → List (Int × Int)) : Prop :=
  (un' = un ∧ (∀ i, i < N → qs i = hs i) ∧ (tm = tag → ∀ i, i < N → ¬ Ins (st i) (en i) frm sj)) ∨
    (tm = tag ∧ ∃ k, k < N ∧ (∀ i, i < k → ¬ Ins (st i) (en i) frm sj) ∧ Ins (st k) (en k) frm sj ∧ un' = later un now (orT tmo 2) ∧
      ∀ i, i < N → qs i = if i = k ∧ pieceOf (far (st k) frm) (far (st k) sj) frm sj ∉ hs i then hs i ++ [pieceOf (far (st k) frm) (far (st k) sj) frm sj] else hs i)

theorem Left.found {tm tag frm sj un now tmo un' : Int} {N : Nat} {st en : Nat → Int} {hs qs : Nat → List (Int × Int)} (h : Left tm tag frm sj un now tmo un' N st en hs qs) {kv pa pb : Int} (ht : tm = tag) (hf : Found N st en frm sj kv pa pb) :
    ((kv < 0 ∧ un' = un) ∨ (0 ≤ kv ∧ un' = later un now (orT tmo 2))) ∧ ∀ i, i < N → qs i = if kv = i ∧ (pa, pb) ∉ hs i then hs i ++ [(pa, pb)] else hs i := by
  rcases h with ⟨hu, hq, hn⟩ | ⟨_, k, hk, hn, hi, hu, hq⟩
  · rcases hf with ⟨rfl, _⟩ | ⟨k, rfl, hk, _, hi, _⟩
    · refine ⟨.inl ⟨by decide, hu⟩, fun i hi => ?_⟩
      rw [if_neg (by rintro ⟨h, _⟩; omega)]
      exact hq i hi
    · exact absurd hi (hn ht k hk)
  · rcases hf with ⟨_, hno⟩ | ⟨k', rfl, hk', hn', hi', hp⟩
    · exact absurd hi (hno k hk)
    · obtain rfl : k' = k := by
        rcases Nat.lt_trichotomy k' k with h | h | h
        · exact absurd hi' (hn k' h)
        · exact h
        · exact absurd hi (hn' k h)
      refine ⟨.inr ⟨by omega, hu⟩, fun i hi => ?_⟩
      rw [hq i hi, hp]
      by_cases e : i = k'
      · subst e; simp
      · rw [if_neg (fun h => e h.1), if_neg (by rintro ⟨h, _⟩; omega)]

theorem Left.none {tm tag frm sj un now tmo un' : Int} {N : Nat} {st en : Nat → Int} {hs qs : Nat → List (Int × Int)} (h : Left tm tag frm sj un now tmo un' N st en hs qs) (ht : tm ≠ tag) :
    ((-1 : Int) < 0 ∧ un' = un) ∧ ∀ i, i < N → qs i = if (-1 : Int) = (i : Nat) ∧ ((0 : Int), (0 : Int)) ∉ hs i then hs i ++ [(0, 0)] else hs i := by
  rcases h with ⟨hu, hq, _⟩ | ⟨h, _⟩
  · refine ⟨⟨by decide, hu⟩, fun i hi => ?_⟩
    rw [if_neg (by rintro ⟨h, _⟩; omega)]
    exact hq i hi
  · exact absurd h ht

set_option maxHeartbeats 16000000 in
set_option maxRecDepth 100000 in
theorem tailA (id tag mt frm sj tmo now un sd : Int) (mb : Bool) (p : Option Addr) (N C : Nat) (st en : Nat → Int) (hp : Nat → Option Addr) (hl hc : Nat → Nat) (hs : Nat → List (Int × Int)) (w0 : World) (S : Hid (Sts w0 p N st en hp hl hc hs)) (hN : N ≤ 1024) (hll : ∀ i, i < N → hl i ≤ 1024) (bs : 0 ≤ sd ∧ sd ≤ 255) (net nd sb tb : Nat) (un' tm : Int) (w : World) (B0 : Hid (Below w0.heap.size w0 w)) (hv : Nat → Value) (qs : Nat → List (Int × Int)) (hch : Hid (Chk w sb tb N st en hv qs))
    (hleft : Hid (Left tm tag frm sj un now tmo un' N st en hs qs)) (q0 : w.cell? ⟨net, 0, none⟩ = some (.int .i64 0)) (q73 : w.cell? ⟨nd, 73, none⟩ = some (.slice (some ⟨sb, 0, none⟩) 1 1)) (s0 : w.cell? ⟨sb, 0, none⟩ = some (.int .i64 (sd % 2))) (s2 : w.cell? ⟨sb, 2, none⟩ = some (.int .u64 tag)) (s3 : w.cell? ⟨sb, 3, none⟩ = some (.int .u64 un'))
    (f : Nat → Value) (hk : Kn f (KB id tag mt frm sj tmo now un sd mb p N C)) (hk1 : Kn f [(25, .pointer (some ⟨net, 0, none⟩)), (26, .pointer (some ⟨nd, 0, none⟩)), (32, .int .u64 tm)]) :
    Code.wp Yba.prog (tl 13 (Yba.f3.body.getD .skip)) (Yes w) (fr f) w := by
  obtain ⟨R, hR⟩ : ∃ R, R = tl 19 (Yba.f3.body.getD .skip) := ⟨_, rfl⟩
  have HR : Hid (R = tl 19 (Yba.f3.body.getD .skip)) := hR
  rw [show tl 13 (Yba.f3.body.getD .skip) = Code.seq (sq1 (tl 13 (Yba.f3.body.getD .skip))) (Code.seq (sq1 (tl 14 (Yba.f3.body.getD .skip))) (Code.seq (sq1 (tl 15 (Yba.f3.body.getD .skip))) (Code.seq (sq1 (tl 16 (Yba.f3.body.getD .skip))) (Code.seq (sq1 (tl 17 (Yba.f3.body.getD .skip))) (Code.seq (sq1 (tl 18 (Yba.f3.body.getD .skip))) (tl 19 (Yba.f3.body.getD .skip))))))) from rfl, ← hR]
  clear hR
  obtain ⟨k0, k1, k2, k3, k4, k5, k6, k7, k8, k9, k10, _⟩ := hk
  obtain ⟨k25, k26, k32, _⟩ := hk1
  rw [fr_lit, k0, k1, k2, k3, k4, k5, k6, k7, k8, k9, k10, k25, k26, k32]
  clear k0 k1 k2 k3 k4 k5 k6 k7 k8 k9 k10 k25 k26 k32
  have s5 := hch.out.s5
  have HS3 : Hid (w.cell? ⟨sb, 3, none⟩ = some (.int .u64 un')) := s3
  have HLL : Hid (∀ i, i < N → hl i ≤ 1024) := hll
  clear hll s3
  have m1 : (sd % 2 != sd % 2) = false := by simp
  have m2 : (tag != tag) = false := by simp
  have m3 : ((N : Int) != (N : Int)) = false := by simp
  by_cases ht : tm = tag
  · have m4 : (tm == tag) = true := by simp [ht]
    have HE : Hid (tm = tag) := ht
    clear ht
    refine wp_seq ?_
    conv => arg 2; whnf
    go_wp2
    conv => arg 2; whnf
    go_wp2
    conv => arg 2; whnf
    go_wp2
    conv => arg 2; whnf
    go_wp2
    conv => arg 2; whnf
    go_wp2
    conv => arg 2; whnf
    go_wp2
    refine reopen (R := fun a => Code.wp Yba.prog _ _ a _) rfl rfl ?_
    intro f' hf'
    refine of_onExit (loop4 id tag mt frm sj tmo now un sd mb p N C st en hp hl hc hs w0 S hN sb w B0 f' ⟨hf' 0, hf' 1, hf' 2, hf' 3, hf' 4, hf' 5, hf' 6, hf' 7, hf' 8, hf' 9, hf' 10, trivial⟩ ⟨hf' 33, hf' 226, hf' 227, hf' 34, hf' 35, hf' 36, trivial⟩) ?_
    rintro a' w3 ⟨f2, kv, pa, pb, rfl, hk, hk1, hfd, ht⟩
    obtain ⟨hun, hqs⟩ := hleft.out.found HE.out hfd
    have HT : Hid (Turned [] w w3) := ht
    have HU : Hid (((kv < 0 ∧ un' = un) ∨ (0 ≤ kv ∧ un' = later un now (orT tmo 2))) ∧ ∀ i, i < N → qs i = if kv = i ∧ (pa, pb) ∉ hs i then hs i ++ [(pa, pb)] else hs i) := ⟨hun, hqs⟩
    clear hun hqs hfd ht hf' f'
    obtain ⟨k0, k1, k2, k3, k4, k5, k6, k7, k8, k9, k10, _⟩ := hk
    obtain ⟨k33, k34, k35, k36, _⟩ := hk1
    rw [fr_lit, k0, k1, k2, k3, k4, k5, k6, k7, k8, k9, k10, k33, k34, k35, k36]
    clear k0 k1 k2 k3 k4 k5 k6 k7 k8 k9 k10 k33 k34 k35 k36
    go_wp2
    refine reopen (R := fun a => Code.wp Yba.prog _ _ a _) rfl rfl ?_
    intro f' hf'
    rw [HR.out]
    refine wp_mono (tailB id tag mt frm sj tmo now un sd mb p N C st en hp hl hc hs w0 S hN HLL.out sb tb kv pa pb un' w3 (B0.out.trans (HT.out.below B0.out.size (by simp))) hv qs (hch.out.turned HT.out) HU.out.2 ((HT.out.cell (p := ⟨sb, 3, none⟩) (World.block_lt_of_cell? _ _ HS3.out) (by simp)).trans HS3.out) HU.out.1 f' ⟨hf' 0, hf' 1, hf' 2, hf' 3, hf' 4, hf' 5, hf' 6, hf' 7, hf' 8, hf' 9, hf' 10, trivial⟩ ⟨hf' 33, hf' 34, hf' 35, hf' 36, trivial⟩) ?_
    intro e a w' h
    cases e with
    | ret =>
      obtain ⟨f3, rfl, h1, h2⟩ := h
      exact ⟨f3, rfl, h1, HT.out.trans h2⟩
    | _ => exact False.elim h
  · have m4 : (tm == tag) = false := by simp [ht]
    have HE : Hid (tm ≠ tag) := ht
    clear ht
    obtain ⟨hun, hqs⟩ := hleft.out.none HE.out
    have HU : Hid (((-1 : Int) < 0 ∧ un' = un) ∧ ∀ i, i < N → qs i = if (-1 : Int) = (i : Nat) ∧ ((0 : Int), (0 : Int)) ∉ hs i then hs i ++ [(0, 0)] else hs i) := ⟨hun, hqs⟩
    clear hun hqs
    refine wp_seq ?_
    conv => arg 2; whnf
    go_wp2
    conv => arg 2; whnf
    go_wp2
    conv => arg 2; whnf
    go_wp2
    conv => arg 2; whnf
    go_wp2
    conv => arg 2; whnf
    go_wp2
    conv => arg 2; whnf
    go_wp2
    refine reopen (R := fun a => Code.wp Yba.prog _ _ a _) rfl rfl ?_
    intro f' hf'
    rw [HR.out]
    exact tailB id tag mt frm sj tmo now un sd mb p N C st en hp hl hc hs w0 S hN HLL.out sb tb (-1) 0 0 un' w B0 hv qs hch HU.out.2 HS3.out (.inl HU.out.1) f' ⟨hf' 0, hf' 1, hf' 2, hf' 3, hf' 4, hf' 5, hf' 6, hf' 7, hf' 8, hf' 9, hf' 10, trivial⟩ ⟨hf' 33, hf' 34, hf' 35, hf' 36, trivial⟩
end Go.Proofs.Ybulkcfyi
