/-
  LawS4103BHoles: the loop that lays the stretches.
-/
import Derived.Test.YbulkcfyiH2
import Derived.Test.YbulkcfyiH3
namespace Go.Proofs.Ybulkcfyi
open Go.RowKit Go.Stop
attribute [local go_sem ↓] Go.wp_at_zero Go.wp_at_succ

theorem Lay.drew {wb : World} {base tb N i m : Nat} {vP : Value} {hv : Nat → Value} {st en : Nat → Int} {hs : Nat → List (Int × Int)} {w : World} (h : Lay wb base tb N i m vP hv st en hs w) : Lay wb base tb N i m vP hv st en hs w.drew := by
  obtain ⟨zs, own⟩ := h.pts
  have hbase : base ≤ w.heap.size := by
    obtain ⟨cur, hr, _⟩ := h.row
    have := (Array.getElem?_eq_some_iff.1 hr).1
    have := h.tlow
    omega
  exact h.turn (ks := []) (Turned.refl [] w).drew (by simp) (by simp) hbase (fun k hk a l c e => ⟨by simp, ((h.holes k hk).2.2 a l c e).2.2.1⟩) ⟨zs, own⟩ h.ptb

theorem after3 {w0 wb w1 w2 w3 : World} {base tb N i m : Nat} {vP v : Value} {hv : Nat → Value} {st en : Nat → Int} {hs : Nat → List (Int × Int)} (h : Lay wb base tb N i m vP hv st en hs w1) (t : Turned [] w1 w2) {L : Nat} (hr : R3 w0 w2 base w1.heap.size L (hs i) L v w3) (hlen : (hs i).length = L) :
    ∃ pv lv cv, v = .slice pv lv cv ∧ Lay wb base tb N i m vP hv st en hs w3 ∧ PcAt w3 (.slice pv lv cv) (hs i) ∧ (Value.slice pv lv cv = .slice none 0 0 ∨ ∃ g, Value.slice pv lv cv = .slice (some ⟨g, 0, none⟩) (hs i).length (hs i).length) ∧
      ∀ a l c, Value.slice pv lv cv = .slice (some a) l c → base ≤ a.block ∧ a.block ≠ tb ∧ some a.block ≠ vP.ownBlock ∧ a.block < w3.heap.size := by
  obtain ⟨zs, own⟩ := h.pts
  obtain ⟨cur, hrow, _⟩ := h.row
  have htb := (Array.getElem?_eq_some_iff.1 hrow).1
  have hbase : base ≤ w1.heap.size := by
    have := h.tlow
    omega
  have key : ∀ (ks : List Nat) (w : World), Turned ks w1 w → (∀ k ∈ ks, w1.heap.size ≤ k) → Lay wb base tb N i m vP hv st en hs w := by
    intro ks w tt hks
    refine h.turn tt (fun hm => by have := hks _ hm; omega) (fun k hm => by have := hks _ hm; omega) hbase (fun k hk a l c e => ?_) ⟨zs, ?_⟩ h.ptb
    · have := (h.holes k hk).2.2 a l c e
      exact ⟨fun hm => by have := hks _ hm; omega, this.2.2.1⟩
    · refine ⟨own.1, ?_⟩
      rcases own.2 with h0 | ⟨g, cap, cur', e, hb, hg, rest⟩
      · exact .inl h0
      · refine .inr ⟨g, cap, cur', e, hb, ?_, rest⟩
        have hlt := (Array.getElem?_eq_some_iff.1 hg).1
        rw [tt.block g hlt (fun hm => by have := hks _ hm; omega)]
        exact hg
  rcases hr with ⟨rfl, h0, rfl⟩ | ⟨rfl, hown, ht, _⟩
  · refine ⟨none, 0, 0, rfl, key [] _ t (by simp), .inl ⟨rfl, List.eq_nil_of_length_eq_zero (by omega)⟩, .inl rfl, fun a l c e => by cases e⟩
  · have t3 : Turned [w1.heap.size] w1 w3 := (t.mono (by simp)).trans ht
    have hlt := (hown.lt _ rfl).2
    have hpc := pc_of_row (ps := (hs i).take L) hown (by simp; omega)
    rw [← hlen, List.take_length] at hpc
    refine ⟨some ⟨w1.heap.size, 0, none⟩, L, L, rfl, key _ _ t3 (by simp), hlen ▸ hpc.1, .inr ⟨w1.heap.size, by rw [hlen]⟩, fun a l c e => ?_⟩
    simp only [Value.slice.injEq, Option.some.injEq] at e
    obtain ⟨rfl, _, _⟩ := e
    refine ⟨hbase, by show w1.heap.size ≠ tb; omega, ?_, hlt⟩
    intro e
    have := (own.lt _ e.symm).2
    simp at this

def KD (clk net nd : Nat) (vP : Value) (tb N i : Nat) : List (Nat × Value) :=
  [(24, .pointer (some ⟨clk, 0, none⟩)), (25, .pointer (some ⟨net, 0, none⟩)), (26, .pointer (some ⟨nd, 0, none⟩)), (27, vP), (28, .slice (some ⟨tb, 0, none⟩) N N), (84, .int .i64 N), (85, .int .i64 i)]

def I4 (l0 : List (Nat × Value)) (clk net nd : Nat) (wb : World) (base tb N : Nat) (st en : Nat → Int) (hs : Nat → List (Int × Int)) (a : Act) (w' : World) : Prop :=
  ∃ f i vP hv, a = fr f ∧ Kn f l0 ∧ Kn f (KD clk net nd vP tb N i) ∧ i ≤ N ∧ Lay wb base tb N i (i + 1) vP hv st en hs w'

def X4 (l0 : List (Nat × Value)) (clk net nd : Nat) (wb : World) (base tb N : Nat) (st en : Nat → Int) (hs : Nat → List (Int × Int)) (a : Act) (w' : World) : Prop :=
  ∃ f vP hv, a = fr f ∧ Kn f l0 ∧ Kn f (KD clk net nd vP tb N N) ∧ Lay wb base tb N N (N + 1) vP hv st en hs w'

set_option maxHeartbeats 16000000 in
set_option maxRecDepth 100000 in
/-- The tail of a round: behind the copying of the holes. -/
theorem tail2 (id tag mt frm sj tmo now un sd : Int) (mb : Bool) (p : Option Addr) (N C : Nat) (st en : Nat → Int) (hp : Nat → Option Addr) (hl hc : Nat → Nat) (hs : Nat → List (Int × Int)) (w0 : World) (S : Hid (Sts w0 p N st en hp hl hc hs))
    (clk net nd tb i base : Nat) (wb : World) (B0 : Hid (Below w0.heap.size w0 wb)) (hb : w0.heap.size ≤ base) (hi : i < N) (vP : Value) (pv : Option Addr) (lv cv : Nat) (hv : Nat → Value) (w : World) (hlay : Hid (Lay wb base tb N i (i + 1 + 1) vP hv st en hs w))
    (hh : Hid (PcAt w (.slice pv lv cv) (hs i) ∧ (Value.slice pv lv cv = .slice none 0 0 ∨ ∃ g, Value.slice pv lv cv = .slice (some ⟨g, 0, none⟩) (hs i).length (hs i).length) ∧ ∀ a l c, Value.slice pv lv cv = .slice (some a) l c → base ≤ a.block ∧ a.block ≠ tb ∧ some a.block ≠ vP.ownBlock ∧ a.block < w.heap.size))
    (f : Nat → Value) (hk : Kn f (KB id tag mt frm sj tmo now un sd mb p N C)) (hk1 : Kn f (KC clk net nd vP tb N i)) (k30 : f 30 = .slice pv lv cv) :
    Code.wp Yba.prog (sq2 (tl 4 (inn (sq1 (tl 2 (inn (inn (sq2 (sq1 (tl 8 (Yba.f3.body.getD .skip)))))))))))
      (fun e a w' => match e with
        | .normal => ∃ f', a = fr f' ∧ Kn f' (KB id tag mt frm sj tmo now un sd mb p N C) ∧ Kn f' (KD clk net nd vP tb N i) ∧ Lay wb base tb N (i + 1) (i + 1 + 1) vP (fun k => if k = i then .slice pv lv cv else hv k) st en hs w'
        | _ => False) (fr f) w := by
  conv => arg 2; whnf
  obtain ⟨k0, k1, k2, k3, k4, k5, k6, k7, k8, k9, k10, _⟩ := hk
  obtain ⟨k24, k25, k26, k27, k28, k29, k84, k85, _⟩ := hk1
  rw [fr_lit, k0, k1, k2, k3, k4, k5, k6, k7, k8, k9, k10, k24, k25, k26, k27, k28, k29, k84, k85, k30]
  clear k0 k1 k2 k3 k4 k5 k6 k7 k8 k9 k10 k24 k25 k26 k27 k28 k29 k84 k85 k30
  have hbase : base ≤ w.heap.size := by
    obtain ⟨cur, hr, _⟩ := hlay.out.row
    have := (Array.getElem?_eq_some_iff.1 hr).1
    have := hlay.out.tlow
    omega
  have S1 := S.out.later (B0.out.trans (hlay.out.low.mono hb))
  rcases S1.outer with h0 | ⟨gs, o, rfl, hcc⟩
  · omega
  have c0 := (hcc i hi).1
  have c1 := (hcc i hi).2.1
  obtain ⟨cur, hr, hz⟩ := hlay.out.row
  have q : ∀ k, k < 5 → ∃ u, w.cell? ⟨tb, i * 5 + k, none⟩ = some u := fun k hk => by
    rw [cell_of_row _ _ _ _ _ _ hr]
    exact ⟨_, Array.getElem?_eq_getElem (by rw [hz]; omega)⟩
  obtain ⟨u0, q0⟩ := q 0 (by decide)
  obtain ⟨u1, q1⟩ := q 1 (by decide)
  obtain ⟨u2, q2⟩ := q 2 (by decide)
  obtain ⟨u3, q3⟩ := q 3 (by decide)
  obtain ⟨u4, q4⟩ := q 4 (by decide)
  have z0 : w.frozen? ⟨tb, i * 5, none⟩ = false := by simp [World.frozen?, hr]
  have z1 : w.frozen? ⟨tb, i * 5 + 1, none⟩ = false := by simp [World.frozen?, hr]
  have z2 : w.frozen? ⟨tb, i * 5 + 2, none⟩ = false := by simp [World.frozen?, hr]
  have z3 : w.frozen? ⟨tb, i * 5 + 3, none⟩ = false := by simp [World.frozen?, hr]
  have z4 : w.frozen? ⟨tb, i * 5 + 4, none⟩ = false := by simp [World.frozen?, hr]
  rw [Nat.add_zero] at q0
  have hiN : (i : Int) < N := by omega
  have HS : Hid (st i = st i) := rfl
  clear hcc S S1 hr hz q cur B0
  obtain ⟨s, es⟩ : ∃ s, s = st i := ⟨_, rfl⟩
  obtain ⟨e, ee⟩ : ∃ e, e = en i := ⟨_, rfl⟩
  have HE : Hid (s = st i ∧ e = en i) := ⟨es, ee⟩
  rw [← es] at c0
  rw [← ee] at c1
  clear es ee HS
  go_wp2_with fail
  go_region
  obtain ⟨rfl, rfl⟩ := HE.out
  exact ⟨_, fr_of rfl rfl, ⟨rfl, rfl, rfl, rfl, rfl, rfl, rfl, rfl, rfl, rfl, rfl, trivial⟩, ⟨rfl, rfl, rfl, rfl, rfl, rfl, rfl, trivial⟩, (hlay.out.store hi hbase rfl hh.out.1 hh.out.2.1 hh.out.2.2).drew⟩
end Go.Proofs.Ybulkcfyi
