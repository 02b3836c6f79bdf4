/-
  LawS4103BHoles: a round of the loop that lays the stretches, and the loop.
-/
import Derived.Test.YbulkcfyiH4
namespace Go.Proofs.Ybulkcfyi
open Go.RowKit Go.Stop
attribute [local go_sem ↓] Go.wp_at_zero Go.wp_at_succ

set_option maxHeartbeats 16000000 in
set_option maxRecDepth 100000 in
theorem round2_nil (id tag mt frm sj tmo now un sd : Int) (mb : Bool) (p : Option Addr) (N C : Nat) (st en : Nat → Int) (hp : Nat → Option Addr) (hl hc : Nat → Nat) (hs : Nat → List (Int × Int)) (w0 : World) (S : Hid (Sts w0 p N st en hp hl hc hs))
    (clk net nd tb i base : Nat) (wb : World) (B0 : Hid (Below w0.heap.size w0 wb)) (hb : w0.heap.size ≤ base) (hi : i < N) (hN : N ≤ 1024) (hli : hl i ≤ 1024) (hpi : hp i = none) (vP : Value) (hv : Nat → Value) (w : World) (hlay : Hid (Lay wb base tb N i (i + 1) vP hv st en hs w))
    (f : Nat → Value) (hk : Kn f (KB id tag mt frm sj tmo now un sd mb p N C)) (hk1 : Kn f (KD clk net nd vP tb N i)) (X : Act → World → Prop) :
    Code.wp Yba.prog (inn (inn (sq2 (sq1 (tl 8 (Yba.f3.body.getD .skip)))))) (fun e a w' => match e with
        | .normal => I4 (KB id tag mt frm sj tmo now un sd mb p N C) clk net nd wb base tb N st en hs a w' ∧ N - (intOf (a.tmps.getD 85 undef)).toNat < N - i
        | .exit m => m = 2 ∧ X a w'
        | _ => False) (fr f) w := by
  conv => arg 2; whnf
  obtain ⟨k0, k1, k2, k3, k4, k5, k6, k7, k8, k9, k10, _⟩ := hk
  obtain ⟨k24, k25, k26, k27, k28, k84, k85, _⟩ := hk1
  rw [fr_lit, k0, k1, k2, k3, k4, k5, k6, k7, k8, k9, k10, k24, k25, k26, k27, k28, k84, k85]
  clear k0 k1 k2 k3 k4 k5 k6 k7 k8 k9 k10 k24 k25 k26 k27 k28 k84 k85
  have hbase : base ≤ w.heap.size := by
    obtain ⟨cur, hr, _⟩ := hlay.out.row
    have := (Array.getElem?_eq_some_iff.1 hr).1
    have := hlay.out.tlow
    omega
  obtain ⟨zs, own⟩ := hlay.out.pts
  obtain ⟨gp, cp, rfl, hgp1, hgp2⟩ := own.form (by omega)
  -- the append of the end to the points
  obtain ⟨i0, hi0, hz0, hz1, hz2⟩ := info_parts Yba.info36
  obtain ⟨g1, cap1, w1, hrun, own1, hgrow, hat, hlt⟩ := run_append_lies (P := Yba.prog) (w.alloc (.cells #[.int .u64 (en i)] 36)) 39 39 base 36 i0 _ 1 8 Yba.underlying39 hi0 hz0 hz1 hz2 rfl (by decide)
    (.slice (some ⟨gp, 0, none⟩) (i + 1) cp) (i + 1) zs (own.alloc _) ⟨w.heap.size, 0, none⟩ 1 1 [.int .u64 (en i)] rfl (World.news_of_block (heap_alloc_last w _))
    (by intro u hu; simp at hu; subst hu; rfl) (by decide) (by unfold maxLen; omega) (by omega) (by simp; omega) (w.heap.size + 1) (by simp)
  have ob : (Value.slice (some ⟨gp, 0, none⟩) (i + 1) cp).ownBlock = some gp := rfl
  rw [ob] at hgrow hat
  have t1 : Turned [gp] w w1 := ((Turned.refl [gp] w).alloc _).grownRow hgrow (by simp)
  have hsz1 : w.heap.size + 1 ≤ w1.heap.size := by simpa using hgrow.size
  have hg1 : base ≤ g1 ∧ g1 ≠ tb ∧ ∀ k, k < i → ∀ a l c, hv k = .slice (some a) l c → a.block ≠ gp ∧ a.block ≠ g1 := by
    have hp := hlay.out.ptb
    rw [ob] at hp
    rcases hat with h | h
    · obtain rfl := Option.some.inj h
      refine ⟨hgp1, fun e => hp (by rw [e]), fun k hk a l c e => ?_⟩
      have := ((hlay.out.holes k hk).2.2 a l c e).2.2.1
      rw [ob] at this
      exact ⟨fun e => this (by rw [e]), fun e => this (by rw [e])⟩
    · subst h
      obtain ⟨cur, hr, _⟩ := hlay.out.row
      have htb := (Array.getElem?_eq_some_iff.1 hr).1
      refine ⟨by omega, by omega, fun k hk a l c e => ?_⟩
      have h1 := ((hlay.out.holes k hk).2.2 a l c e).2.2.1
      have h2 := ((hlay.out.holes k hk).2.2 a l c e).2.2.2
      rw [ob] at h1
      exact ⟨fun e => h1 (by rw [e]), by omega⟩
  have l1 : Lay wb base tb N i (i + 1 + 1) (.slice (some ⟨g1, 0, none⟩) (i + 1 + 1) cap1) hv st en hs w1 := by
    refine hlay.out.turn t1 ?_ (by simpa using hgp1) hbase (fun k hk a l c e => ?_) ⟨_, own1⟩ (by simpa [Value.ownBlock] using hg1.2.1)
    · have hp := hlay.out.ptb
      rw [ob] at hp
      simp only [List.mem_singleton]
      exact fun e => hp (by rw [e])
    · have := hg1.2.2 k hk a l c e
      exact ⟨by simpa using this.1, by simpa [Value.ownBlock] using this.2⟩
  have HRUN : Hid ((Builtin.append_ #[39, 39] 39 #[.slice (some ⟨gp, 0, none⟩) (i + 1) cp, .slice (some ⟨w.heap.size, 0, none⟩) 1 1]).run Yba.prog (w.alloc (.cells #[.int .u64 (en i)] 36)) = .ok (.slice (some ⟨g1, 0, none⟩) (i + 1 + 1) cap1) w1) := hrun
  have HL1 : Hid (Lay wb base tb N i (i + 1 + 1) (.slice (some ⟨g1, 0, none⟩) (i + 1 + 1) cap1) hv st en hs w1) := l1
  have HG1 : Hid (g1 < w1.heap.size) := hlt
  have bw1 : Below w0.heap.size w0 w1 := B0.out.trans (l1.low.mono hb)
  have S0 := S.out.later (B0.out.trans (hlay.out.low.mono hb))
  rcases S0.outer with h0 | ⟨gs, o, rfl, hcc⟩
  · omega
  have d1 := (hcc i hi).2.1
  have S1 := S.out.later bw1
  have e2 : w1.cell? ⟨gs, o + i * 3 + 2, none⟩ = some (.slice (hp i) (hl i) (hc i)) := by
    rcases S1.outer with h0 | ⟨gs', o', e', hcc'⟩
    · omega
    · simp only [Option.some.injEq, Addr.mk.injEq] at e'
      obtain ⟨rfl, rfl, _⟩ := e'
      exact (hcc' i hi).2.2
  have hin := S1.inner i hi
  clear hcc S0 S1 hrun own1 hgrow hat hlt t1 hg1 l1 own ob hi0 hz0 hz1 hz2 i0
  rw [hpi] at e2 hin
  have HIN : Hid ((hs i).length = hl i) := hin.1
  have hiN : (i : Int) < N := by omega
  generalize en i = e at d1 HRUN
  obtain ⟨hl0, hc0⟩ := hin.2.1 rfl
  rw [hl0, hc0] at e2
  clear hin
  go_wp2_with (at_builtin; refine wpList_append_run rfl (.tmp 88) (.tmp 94) 39 rfl _ _ _ rfl rfl HRUN.out ?_)
  refine reopen (R := fun a => Code.wp Yba.prog _ _ a _) rfl rfl ?_
  intro f' hf'
  refine of_onExit (loop3 id tag mt frm sj tmo now un sd mb (some ⟨gs, o, none⟩) N C st en hp hl hc hs w0 _ S clk net nd (.slice (some ⟨g1, 0, none⟩) (i + 1 + 1) cap1) tb i base w1.heap.size hi hli hb (by have := HL1.out.low.size; have := hsz1; omega) f' (.slice none 0 0) ⟨hf' 0, hf' 1, hf' 2, hf' 3, hf' 4, hf' 5, hf' 6, hf' 7, hf' 8, hf' 9, hf' 10, trivial⟩ ⟨hf' 24, hf' 25, hf' 26, hf' 27, hf' 28, hf' 29, hf' 84, hf' 85, trivial⟩ ((hf' 114).trans (by rw [hl0]; rfl)) (hf' 115) (hf' 30) (.inl ⟨rfl, hl0, rfl⟩)) ?_
  rintro a' w3 ⟨f2, v, rfl, hk, hk1, k30, hr⟩
  obtain ⟨pv, lv, cv, rfl, lay3, p1, p2, p3⟩ := after3 HL1.out (Turned.refl _ _) hr HIN.out
  rename_i Q1 K1 h1 K2 h2
  refine h2 (fr f2) w3 (wp_mono (tail2 id tag mt frm sj tmo now un sd mb (some ⟨gs, o, none⟩) N C st en hp hl hc hs w0 S clk net nd tb i base wb B0 hb hi _ pv lv cv hv w3 lay3 ⟨p1, p2, p3⟩ f2 hk hk1 k30) ?_)
  intro e a w' h
  cases e with
  | normal =>
    obtain ⟨f3, rfl, hk3, hk4, lay4⟩ := h
    refine h1 (fr f3) w' ?_
    clear h1 h2
    have HL4 : Hid (Lay wb base tb N (i + 1) (i + 1 + 1) (.slice (some ⟨g1, 0, none⟩) (i + 1 + 1) cap1) (fun k => if k = i then .slice pv lv cv else hv k) st en hs w') := lay4
    obtain ⟨k0, k1, k2, k3, k4, k5, k6, k7, k8, k9, k10, _⟩ := hk3
    obtain ⟨k24, k25, k26, k27, k28, k84, k85, _⟩ := hk4
    rw [fr_lit, k0, k1, k2, k3, k4, k5, k6, k7, k8, k9, k10, k24, k25, k26, k27, k28, k84, k85]
    clear k0 k1 k2 k3 k4 k5 k6 k7 k8 k9 k10 k24 k25 k26 k27 k28 k84 k85 lay3 p1 p2 p3 hr hk hk1 k30 lay4
    go_wp2
    refine ⟨⟨_, i + 1, _, _, fr_of rfl rfl, ⟨rfl, rfl, rfl, rfl, rfl, rfl, rfl, rfl, rfl, rfl, rfl, trivial⟩, ⟨rfl, rfl, rfl, rfl, rfl, rfl, rfl, trivial⟩, by omega, HL4.out⟩, ?_⟩
    show N - (intOf (.int .i64 ((i : Int) + 1))).toNat < N - i
    simp [intOf]; omega
  | _ => exact False.elim h
end Go.Proofs.Ybulkcfyi
