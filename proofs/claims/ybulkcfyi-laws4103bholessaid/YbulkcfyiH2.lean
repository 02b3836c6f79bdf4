/-
  LawS4103BHoles: the loop that copies a stretch's holes.
-/
import Derived.Test.YbulkcfyiH0
import Derived.Deep.DeepAppendRoom
namespace Go.Proofs.Ybulkcfyi
open Go.RowKit Go.Stop
attribute [local go_sem ↓] Go.wp_at_zero Go.wp_at_succ

/-- What is known of the frame while the stretches are laid. -/
def KC (clk net nd : Nat) (vP : Value) (tb N i : Nat) : List (Nat × Value) :=
  [(24, .pointer (some ⟨clk, 0, none⟩)), (25, .pointer (some ⟨net, 0, none⟩)), (26, .pointer (some ⟨nd, 0, none⟩)), (27, vP), (28, .slice (some ⟨tb, 0, none⟩) N N), (29, .int .i64 i), (84, .int .i64 N), (85, .int .i64 i)]

def R3 (w0 w : World) (base g L : Nat) (ps : List (Int × Int)) (j : Nat) (v : Value) (w' : World) : Prop :=
  (v = .slice none 0 0 ∧ L = 0 ∧ w' = w) ∨ (v = .slice (some ⟨g, 0, none⟩) j L ∧ w'.ownsRow base 44 2 (.slice (some ⟨g, 0, none⟩) j L) j (pcCells (ps.take j)) ∧ Turned [g] w w' ∧ Below w0.heap.size w0 w')

def I3 (l0 l1 : List (Nat × Value)) (w0 w : World) (base g L : Nat) (ps : List (Int × Int)) (a : Act) (w' : World) : Prop :=
  ∃ f j v, a = fr f ∧ Kn f l0 ∧ Kn f l1 ∧ f 114 = .int .i64 L ∧ f 115 = .int .i64 (j : Nat) ∧ f 30 = v ∧ j ≤ L ∧ R3 w0 w base g L ps j v w'

def X3 (l0 l1 : List (Nat × Value)) (w0 w : World) (base g L : Nat) (ps : List (Int × Int)) (a : Act) (w' : World) : Prop :=
  ∃ f v, a = fr f ∧ Kn f l0 ∧ Kn f l1 ∧ f 30 = v ∧ R3 w0 w base g L ps L v w'

theorem take_more {l : List (Int × Int)} {j : Nat} (h : j < l.length) : l.take (j + 1) = l.take j ++ [l.getD j (0, 0)] := by
  rw [List.take_add_one]
  simp [List.getD_eq_getElem?_getD, h]
theorem Turned.grownRow {ks : List Nat} {a b c : World} {g : Nat} (h : Turned ks a b) (k : b.grownBy c (some g)) (hg : g ∈ ks) : Turned ks a c :=
  ⟨k.os.trans h.os, k.tape.trans h.tape, k.output.trans h.output, Nat.le_trans h.size k.size, fun i hi hn => (k.block i (Nat.lt_of_lt_of_le hi h.size) (by rintro ⟨⟩; exact hn hg)).trans (h.block i hi hn)⟩

set_option maxHeartbeats 8000000 in
set_option maxRecDepth 100000 in
theorem loop3 (id tag mt frm sj tmo now un sd : Int) (mb : Bool) (p : Option Addr) (N C : Nat) (st en : Nat → Int) (hp : Nat → Option Addr) (hl hc : Nat → Nat) (hs : Nat → List (Int × Int)) (w0 w : World) (S : Hid (Sts w0 p N st en hp hl hc hs))
    (clk net nd : Nat) (vP : Value) (tb i base g : Nat) (hi : i < N) (hli : hl i ≤ 1024) (hb : w0.heap.size ≤ base) (hg : base ≤ g)
    (f : Nat → Value) (v : Value) (hk : Kn f (KB id tag mt frm sj tmo now un sd mb p N C)) (hk1 : Kn f (KC clk net nd vP tb N i)) (k114 : f 114 = .int .i64 (hl i)) (k115 : f 115 = .int .i64 0) (k30 : f 30 = v) (hr : R3 w0 w base g (hl i) (hs i) 0 v w) :
    Code.wp Yba.prog (inn (sq2 (sq1 (tl 4 (inn (sq1 (tl 2 (inn (inn (sq2 (sq1 (tl 8 (Yba.f3.body.getD .skip)))))))))))))
      (onExit 4 (X3 (KB id tag mt frm sj tmo now un sd mb p N C) (KC clk net nd vP tb N i) w0 w base g (hl i) (hs i))) (fr f) w := by
  conv => arg 2; whnf
  refine wp_loop (I3 (KB id tag mt frm sj tmo now un sd mb p N C) (KC clk net nd vP tb N i) w0 w base g (hl i) (hs i)) (fun a _ => hl i - (intOf (a.tmps.getD 115 undef)).toNat) ?_ ?_
  · exact ⟨f, 0, v, rfl, hk, hk1, k114, k115, k30, Nat.zero_le _, hr⟩
  · clear hk hk1 k114 k115 k30 hr v f
    rintro a wr ⟨f, j, v, rfl, hk, hk1, k114, k115, k30, hj, hr⟩
    have HR : Hid (R3 w0 w base g (hl i) (hs i) j v wr) := hr
    obtain ⟨k0, k1, k2, k3, k4, k5, k6, k7, k8, k9, k10, _⟩ := hk
    obtain ⟨k24, k25, k26, k27, k28, k29, k84, k85, _⟩ := hk1
    have hm : hl i - (intOf ((fr f).tmps.getD 115 undef)).toNat = hl i - j := by rw [fr_get f 115 (by decide), k115]; simp [intOf]
    rw [hm, fr_lit, k0, k1, k2, k3, k4, k5, k6, k7, k8, k9, k10, k24, k25, k26, k27, k28, k29, k84, k85, k114, k115, k30]
    clear hm k0 k1 k2 k3 k4 k5 k6 k7 k8 k9 k10 k24 k25 k26 k27 k28 k29 k84 k85 k114 k115 k30
    obtain ⟨L, eL⟩ : ∃ L, L = hl i := ⟨_, rfl⟩
    have EL : Hid (L = hl i) := eL
    rw [← eL] at hj hli hr HR ⊢
    by_cases hjn : j < L
    · rcases hr with ⟨_, h0, _⟩ | ⟨rfl, hown, ht, hbl⟩
      · omega
      have S1 := S.out.later hbl
      rcases S1.outer with h0 | ⟨gs, o, rfl, hcc⟩
      · omega
      obtain ⟨hlen, _, hin⟩ := S1.inner i hi
      rcases hin with h0 | ⟨gi, oi, ep, hci⟩
      · omega
      have c2 := (hcc i hi).2.2
      rw [ep, ← eL] at c2
      have x0 := (hci j (by omega)).1
      have x1 := (hci j (by omega)).2
      have HX : Hid ((hs i).getD j (0, 0) = (((hs i).getD j (0, 0)).1, ((hs i).getD j (0, 0)).2)) := rfl
      generalize ((hs i).getD j (0, 0)).1 = x at *
      generalize ((hs i).getD j (0, 0)).2 = y at *
      obtain ⟨i0, hin0, hz0, hz1, hz2⟩ := info_parts Yba.info44
      obtain ⟨w3, hrun, hown3, hgrow⟩ := run_append_own_spare (P := Yba.prog) (wr.drew.alloc (.cells #[.int .u64 x, .int .u64 y] 44)) base 41 41 44 i0 2 Yba.underlying41 hin0 hz1 g j L _ (World.ownsRow.alloc (w := wr.drew) hown _)
        ⟨wr.heap.size, 0, none⟩ 1 1 [.int .u64 x, .int .u64 y] rfl (World.news_of_block (heap_alloc_last wr.drew _)) (by intro u hu; simp at hu; rcases hu with rfl | rfl <;> rfl) (by omega)
      have HRUN : Hid ((Builtin.append_ #[41, 41] 41 #[.slice (some ⟨g, 0, none⟩) j L, .slice (some ⟨wr.heap.size, 0, none⟩) 1 1]).run Yba.prog (wr.drew.alloc (.cells #[.int .u64 x, .int .u64 y] 44)) = .ok (.slice (some ⟨g, 0, none⟩) (j + 1) L) w3) := hrun
      have HT : Hid (w3.ownsRow base 44 2 (.slice (some ⟨g, 0, none⟩) (j + 1) L) (j + 1) (pcCells ((hs i).take j) ++ [.int .u64 x, .int .u64 y]) ∧ (wr.drew.alloc (.cells #[.int .u64 x, .int .u64 y] 44)).grownBy w3 (some g) ∧ Turned [g] w wr ∧ Below w0.heap.size w0 wr ∧ (hs i).length = hl i) := ⟨hown3, hgrow, ht, hbl, hlen⟩
      clear hrun hown3 hgrow ht hbl hown S S1 hcc hci ep eL hlen hin0 hz0 hz1 hz2 i0 HR
      have hji : (j : Int) < L := by omega
      have hiN : (i : Int) < N := by omega
      go_wp2_with fail
      go_region_law (refine step_append_run rfl (.tmp 118) (.tmp 138) 41 rfl (.slice (some ⟨g, 0, none⟩) j L) (.slice (some ⟨wr.heap.size, 0, none⟩) 1 1) _ rfl rfl HRUN.out ?_)
      all_goals
        go_wp2
        obtain ⟨hown3, hgrow, ht, hbl, hlen⟩ := HT.out
        have e1 : pcCells ((hs i).take j) ++ [.int .u64 x, .int .u64 y] = pcCells ((hs i).take (j + 1)) := by
          rw [take_more (by rw [hlen, ← EL.out]; exact hjn), HX.out, pcCells_append]
          rfl
        rw [e1] at hown3
        have t1 : Turned [g] wr w3 := (((Turned.refl [g] wr).drew).alloc _).grownRow hgrow (by simp)
        refine ⟨⟨_, j + 1, _, fr_of rfl rfl, ⟨rfl, rfl, rfl, rfl, rfl, rfl, rfl, rfl, rfl, rfl, rfl, trivial⟩, ⟨rfl, rfl, rfl, rfl, rfl, rfl, rfl, rfl, trivial⟩, rfl, rfl, rfl, by omega, .inr ⟨rfl, hown3, ht.trans t1, hbl.trans (t1.below hbl.size (by simp; omega))⟩⟩, ?_⟩
        show L - (intOf (.int .i64 ((j : Int) + 1))).toNat < L - j
        simp [intOf]; omega
    · have hji : ¬ (j : Int) < L := by omega
      clear S eL
      go_wp2
      have HZ : R3 w0 w base g L (hs i) L v wr := by
        have := HR.out
        rwa [show j = L by omega] at this
      exact ⟨rfl, _, _, fr_of rfl rfl, ⟨rfl, rfl, rfl, rfl, rfl, rfl, rfl, rfl, rfl, rfl, rfl, trivial⟩, ⟨rfl, rfl, rfl, rfl, rfl, rfl, rfl, rfl, trivial⟩, rfl, HZ⟩
end Go.Proofs.Ybulkcfyi
