/-
  LawS4103BHoles: pathTold, and what follows.
-/
import Derived.Test.YbulkcfyiH18
import Derived.Test.YbulkcfyiTold21B
namespace Go.Proofs.Ybulkcfyi
open Go.RowKit Go.Stop
attribute [local go_sem ↓] Go.wp_at_zero Go.wp_at_succ

def Good (w : World) : Exit → Act → World → Prop
  | .ret, a, w' => ∃ f, a = fr f ∧ f 22 = .bool true ∧ Below w.heap.size w w'
  | _, _, _ => False

theorem fin6 (id tag mt frm sj tmo now un sd : Int) (mb : Bool) (p : Option Addr) (N C : Nat) (st en : Nat → Int) (hp : Nat → Option Addr) (hl hc : Nat → Nat) (hs : Nat → List (Int × Int)) (w0 : World) (S : Hid (Sts w0 p N st en hp hl hc hs)) (hN : N ≤ 1024) (hll : ∀ i, i < N → hl i ≤ 1024) (bs : 0 ≤ sd ∧ sd ≤ 255) (net nd sb tb : Nat) (un' tm : Int) (w6 : World) (B6 : Below w0.heap.size w0 w6) (hv : Nat → Value) (qs : Nat → List (Int × Int)) (RS : Rest w6 net nd sb tb N (sd % 2) tag un' st en hv qs)
    (hleft : Left tm tag frm sj un now tmo un' N st en hs qs) (f : Nat → Value) (hk : Kn f (KB id tag mt frm sj tmo now un sd mb p N C)) (hk1 : Kn f [(25, .pointer (some ⟨net, 0, none⟩)), (26, .pointer (some ⟨nd, 0, none⟩)), (32, .int .u64 tm)]) :
    Code.wp Yba.prog (tl 13 (Yba.f3.body.getD .skip)) (Good w0) (fr f) w6 := by
  refine wp_mono (tailA id tag mt frm sj tmo now un sd mb p N C st en hp hl hc hs w0 S hN hll bs net nd sb tb un' tm w6 B6 hv qs RS.chk hleft RS.q0 RS.q73 RS.s0 RS.s2 RS.s3 f hk hk1) ?_
  intro e a w' h
  cases e with
  | ret =>
    obtain ⟨f, rfl, h1, h2⟩ := h
    exact ⟨f, rfl, h1, B6.trans (h2.below B6.size (by simp))⟩
  | _ => exact False.elim h

set_option maxHeartbeats 16000000 in
set_option maxRecDepth 100000 in
theorem told_part (id tag mt frm sj tmo now un sd : Int) (mb : Bool) (p : Option Addr) (N C : Nat) (st en : Nat → Int) (hp : Nat → Option Addr) (hl hc : Nat → Nat) (hs : Nat → List (Int × Int)) (w0 : World) (S : Hid (Sts w0 p N st en hp hl hc hs)) (hN : N ≤ 1024) (hll : Hid (∀ i, i < N → hl i ≤ 1024)) (bs : 0 ≤ sd ∧ sd ≤ 255) (net nd tb clk : Nat) (tm : Int) (w4 w5 : World) (pp : Addr) (pl pc base : Nat) (hv : Nat → Value)
    (LD : Hid (Laid w4 w5 nd tb N (sd % 2) tag un pp pl pc hv st en hs base)) (B5 : Hid (Below w0.heap.size w0 w5)) (hnd : nd < w4.heap.size) (hnt : nd ≠ tb) (hnet : net < w4.heap.size) (hnt' : net ≠ tb) (hw0 : w0.heap.size ≤ w4.heap.size) (hwt : w0.heap.size ≤ tb)
    (q0 : Hid (w5.cell? ⟨net, 0, none⟩ = some (.int .i64 0))) (c5 : Hid (w5.cell? ⟨nd, 5, none⟩ = some (.iface 27 (.pointer (some ⟨clk, 0, none⟩))))) (c2 : Hid (w5.cell? ⟨nd, 2, none⟩ = some (.int .u64 (orT tmo 2)))) (cc : Hid (w5.cell? ⟨clk, 0, none⟩ = some (.int .u64 now)))
    (f : Nat → Value) (hk : Kn f (KB id tag mt frm sj tmo now un sd mb p N C)) (hk1 : Kn f [(25, .pointer (some ⟨net, 0, none⟩)), (26, .pointer (some ⟨nd, 0, none⟩)), (32, .int .u64 tm)]) :
    Code.wp Yba.prog (Code.seq (sq1 (tl 12 (Yba.f3.body.getD .skip))) (tl 13 (Yba.f3.body.getD .skip))) (Good w0) (fr f) w5 := by
  obtain ⟨R, hR⟩ : ∃ R, R = tl 13 (Yba.f3.body.getD .skip) := ⟨_, rfl⟩
  have HR : Hid (R = tl 13 (Yba.f3.body.getD .skip)) := hR
  rw [← hR]
  clear hR
  obtain ⟨k0, k1, k2, k3, k4, k5, k6, k7, k8, k9, k10, _⟩ := hk
  obtain ⟨k25, k26, k32, _⟩ := hk1
  rw [fr_lit, k0, k1, k2, k3, k4, k5, k6, k7, k8, k9, k10, k25, k26, k32]
  clear k0 k1 k2 k3 k4 k5 k6 k7 k8 k9 k10 k25 k26 k32
  have hz := LD.out.size
  have htl := LD.out.tlt
  refine wp_seq ?_
  conv => arg 2; whnf
  go_wp2_with fail
  by_cases ht : tm = tag
  · subst ht
    rcases first_or N st en frm sj with hno | ⟨k, hk, hn, hi⟩
    · refine (told_none nd w4.heap.size tb N (sd % 2) 0 tm un pp pl pc st en (fun _ => .slice none 0 0) hv 21 frm 0 sj 0 none 0 0 w5 LD.out.sw (by omega) (by omega) (by omega) hN hno).mono ?_
      rintro e w6 ⟨rfl, hb6⟩
      have RS : Hid (Rest w6 net nd w4.heap.size tb N (sd % 2) tm un st en hv hs ∧ Below w0.heap.size w0 w6 ∧ Left tm tm frm sj un now tmo un N st en hs hs) := ⟨LD.out.same hb6 hnd q0.out, B5.out.trans (hb6.mono B5.out.size), Left.of_miss (fun _ => hno)⟩
      clear hb6 hno
      go_wp2
      refine reopen (R := fun a => Code.wp Yba.prog _ _ a _) rfl rfl ?_
      intro f' hf'
      rw [HR.out]
      exact fin6 id tm mt frm sj tmo now un sd mb p N C st en hp hl hc hs w0 S hN hll.out bs net nd w4.heap.size tb un tm w6 RS.out.2.1 hv hs RS.out.1 RS.out.2.2 f' ⟨hf' 0, hf' 1, hf' 2, hf' 3, hf' 4, hf' 5, hf' 6, hf' 7, hf' 8, hf' 9, hf' 10, trivial⟩ ⟨hf' 25, hf' 26, hf' 32, trivial⟩
    · obtain ⟨p1, p2, p3⟩ := LD.out.pc k hk
      refine (told21B nd w4.heap.size tb clk N k (sd % 2) 0 tm un pp pl pc st en (fun _ => .slice none 0 0) hv frm 0 sj 0 now (orT tmo 2) none 0 0 w5 LD.out.sw (by omega) (by omega) (by omega) (World.block_lt_of_cell? _ _ cc.out) hN hk c5.out c2.out cc.out (hs k) p1 (by rw [((S.out.inner k hk).1)]; exact hll.out k hk) p2 (fun a l c e => by have := p3 a l c e; simp; omega) (by omega) ⟨hn, hi⟩).mono ?_
      rintro e w6 ⟨rfl, T⟩
      obtain ⟨hv', rs⟩ := LD.out.told T hnd hnt hnet hnt' q0.out
      have RS : Hid (Rest w6 net nd w4.heap.size tb N (sd % 2) tm (later un now (orT tmo 2)) st en hv' (fun i => if i = k ∧ pieceOf (far (st k) frm) (far (st k) sj) frm sj ∉ hs i then hs i ++ [pieceOf (far (st k) frm) (far (st k) sj) frm sj] else hs i) ∧ Below w0.heap.size w0 w6 ∧ Left tm tm frm sj un now tmo (later un now (orT tmo 2)) N st en hs (fun i => if i = k ∧ pieceOf (far (st k) frm) (far (st k) sj) frm sj ∉ hs i then hs i ++ [pieceOf (far (st k) frm) (far (st k) sj) frm sj] else hs i)) :=
        ⟨rs, B5.out.trans (T.turned.below B5.out.size (by intro k hk; simp at hk; omega)), .inr ⟨rfl, k, hk, hn, hi, rfl, fun _ _ => rfl⟩⟩
      clear rs T hn hi p1 p2 p3
      go_wp2
      refine reopen (R := fun a => Code.wp Yba.prog _ _ a _) rfl rfl ?_
      intro f' hf'
      rw [HR.out]
      exact fin6 id tm mt frm sj tmo now un sd mb p N C st en hp hl hc hs w0 S hN hll.out bs net nd w4.heap.size tb _ tm w6 RS.out.2.1 hv' _ RS.out.1 RS.out.2.2 f' ⟨hf' 0, hf' 1, hf' 2, hf' 3, hf' 4, hf' 5, hf' 6, hf' 7, hf' 8, hf' 9, hf' 10, trivial⟩ ⟨hf' 25, hf' 26, hf' 32, trivial⟩
  · refine (told_miss nd w4.heap.size tb N (sd % 2) 0 tag un pp pl pc st en (fun _ => .slice none 0 0) hv 21 frm 0 sj tm 0 none 0 0 w5 LD.out.sw (by omega) (by omega) (by omega) (beq_eq_false_iff_ne.2 (Ne.symm ht))).mono ?_
    rintro e w6 ⟨rfl, hb6⟩
    have RS : Hid (Rest w6 net nd w4.heap.size tb N (sd % 2) tag un st en hv hs ∧ Below w0.heap.size w0 w6 ∧ Left tm tag frm sj un now tmo un N st en hs hs) := ⟨LD.out.same hb6 hnd q0.out, B5.out.trans (hb6.mono B5.out.size), Left.of_miss (fun h => absurd h ht)⟩
    clear hb6 ht
    go_wp2
    refine reopen (R := fun a => Code.wp Yba.prog _ _ a _) rfl rfl ?_
    intro f' hf'
    rw [HR.out]
    exact fin6 id tag mt frm sj tmo now un sd mb p N C st en hp hl hc hs w0 S hN hll.out bs net nd w4.heap.size tb un tm w6 RS.out.2.1 hv hs RS.out.1 RS.out.2.2 f' ⟨hf' 0, hf' 1, hf' 2, hf' 3, hf' 4, hf' 5, hf' 6, hf' 7, hf' 8, hf' 9, hf' 10, trivial⟩ ⟨hf' 25, hf' 26, hf' 32, trivial⟩
end Go.Proofs.Ybulkcfyi
