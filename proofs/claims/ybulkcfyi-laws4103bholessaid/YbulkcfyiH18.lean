/-
  LawS4103BHoles: the sweep as it is laid into the node; what pathTold leaves.
-/
import Derived.Test.YbulkcfyiH3
import Derived.Test.YbulkcfyiH17
namespace Go.Proofs.Ybulkcfyi
open Go.RowKit Go.Stop

def swCells (sd tag un : Int) (gp M cp tb N : Nat) : Array Value := #[.int .i64 sd, .int .u64 0, .int .u64 tag, .int .u64 un, .slice (some ⟨gp, 0, none⟩) M cp, .slice (some ⟨tb, 0, none⟩) N N]

/-- The world behind 'n.sweeps = ..', ahead of the store, and behind it. -/
def pre5 (w : World) (sd tag un : Int) (gp M cp tb N : Nat) : World := w.alloc (.cells (swCells sd tag un gp M cp tb N) 49)
def post5 (w : World) (B : Nat) (sd tag un : Int) (gp M cp tb N : Nat) : World := (pre5 w sd tag un gp M cp tb N).setCell ⟨B, 73, none⟩ (.slice (some ⟨w.heap.size, 0, none⟩) 1 1)

theorem pre5_ready {w : World} {B : Nat} {sd tag un : Int} {gp M cp tb N : Nat} (hB : B < w.heap.size) (k73 : w.cell? ⟨B, 73, none⟩ = some (.slice none 0 0)) (f73 : w.frozen? ⟨B, 73, none⟩ = false) :
    (pre5 w sd tag un gp M cp tb N).cell? ⟨B, 73, none⟩ = some (.slice none 0 0) ∧ (pre5 w sd tag un gp M cp tb N).frozen? ⟨B, 73, none⟩ = false := by
  unfold pre5
  constructor
  · exact cell?_alloc_old _ k73
  · rw [World.frozen?_alloc_old _ _ _ (by simp; omega)]
    exact f73

structure Laid (w w5 : World) (B tb N : Nat) (sd tag un : Int) (pa : Addr) (pl pc : Nat) (hv : Nat → Value) (st en : Nat → Int) (hs : Nat → List (Int × Int)) (base : Nat) : Prop where
  sw : SwN w5 B w.heap.size tb N sd 0 tag un pa pl pc st en (fun _ => .slice none 0 0) hv
  size : w5.heap.size = w.heap.size + 1
  old : ∀ a : Addr, a.block < w.heap.size → a ≠ ⟨B, 73, none⟩ → w5.cell? a = w.cell? a
  turned : Turned [B] w w5
  pc : ∀ k, k < N → PcAt w5 (hv k) (hs k) ∧ (hv k = .slice none 0 0 ∨ ∃ g, hv k = .slice (some ⟨g, 0, none⟩) (hs k).length (hs k).length) ∧ ∀ a l c, hv k = .slice (some a) l c → a.block ≠ tb ∧ a.block ≠ w.heap.size
  tlt : tb < w.heap.size

theorem laid5 {w2 w : World} {base tb N gp cp M : Nat} {hv : Nat → Value} {st en : Nat → Int} {hs : Nat → List (Int × Int)} {B : Nat} {sd tag un : Int} (h : Lay w2 base tb N N M (.slice (some ⟨gp, 0, none⟩) M cp) hv st en hs w)
    (hB : B < base) (k73 : w.cell? ⟨B, 73, none⟩ = some (.slice none 0 0)) (f73 : w.frozen? ⟨B, 73, none⟩ = false) :
    Laid w (post5 w B sd tag un gp M cp tb N) B tb N sd tag un ⟨gp, 0, none⟩ M cp hv st en hs base := by
  obtain ⟨cur, hrow, _⟩ := h.row
  have htb := (Array.getElem?_eq_some_iff.1 hrow).1
  have htl := h.tlow
  have hBw : B < w.heap.size := by omega
  have r := pre5_ready (sd := sd) (tag := tag) (un := un) (gp := gp) (M := M) (cp := cp) (tb := tb) (N := N) hBw k73 f73
  have keep : ∀ k, k ≠ B → (post5 w B sd tag un gp M cp tb N).heap[k]? = (pre5 w sd tag un gp M cp tb N).heap[k]? := fun k hk => Below.heap_setCell _ _ _ _ (by simpa using hk)
  have b0 : (post5 w B sd tag un gp M cp tb N).heap[w.heap.size]? = some (.cells (swCells sd tag un gp M cp tb N) 49) := (keep _ (by omega)).trans (heap_new rfl)
  have hrow5 : (post5 w B sd tag un gp M cp tb N).heap[tb]? = some (.cells cur 47) := (keep _ (by omega)).trans (heap_old hrow)
  have old : ∀ a : Addr, a.block < w.heap.size → a ≠ ⟨B, 73, none⟩ → (post5 w B sd tag un gp M cp tb N).cell? a = w.cell? a := by
    intro a ha hne
    unfold post5
    rw [World.cell?_setCell_other _ _ _ _ (Ne.symm hne)]
    exact World.cell?_alloc_lt _ _ _ ha
  have ht : Turned [B] w (post5 w B sd tag un gp M cp tb N) := ((Turned.refl [B] w).alloc _).setCell _ (.inr (by simp)) _
  have ot : ∀ k, (post5 w B sd tag un gp M cp tb N).cell? ⟨tb, k, none⟩ = w.cell? ⟨tb, k, none⟩ := fun k => old ⟨tb, k, none⟩ htb (addr_ne (by omega))
  refine ⟨⟨World.cell?_setCell_same _ _ _ r.1, ?_, ?_, ?_, ?_, ?_, ?_, fun i hi => (ot _).trans (h.cells i hi).1, fun i hi => (ot _).trans (h.cells i hi).2.1, fun i hi => (ot _).trans (h.cells i hi).2.2.1, fun i hi => (ot _).trans (h.cells i hi).2.2.2.1, fun i hi => (ot _).trans (h.cells i hi).2.2.2.2, ?_, ?_, ?_⟩, ?_, old, ht, fun k hk => ?_, htb⟩
  · rw [cell_of_row _ _ _ _ _ _ b0]; rfl
  · rw [cell_of_row _ _ _ _ _ _ b0]; rfl
  · rw [cell_of_row _ _ _ _ _ _ b0]; rfl
  · rw [cell_of_row _ _ _ _ _ _ b0]; rfl
  · rw [cell_of_row _ _ _ _ _ _ b0]; rfl
  · rw [cell_of_row _ _ _ _ _ _ b0]; rfl
  · simp [World.frozen?, b0]
  · intro o; simp [World.frozen?, hrow5]
  · unfold post5; rw [World.frozen?_setCell]; exact r.2
  · simp [post5, pre5, World.setCell]
  · obtain ⟨p1, p2, p3⟩ := h.holes k hk
    refine ⟨p1.turned ht (fun a l c e => ?_), p2, fun a l c e => ?_⟩
    · have := (p3 a l c e).1
      simp; omega
    · have := p3 a l c e
      exact ⟨this.2.1, by omega⟩

/-- What the law then reads. -/
structure Rest (w6 : World) (net nd sb tb N : Nat) (sd tag un' : Int) (st en : Nat → Int) (hv : Nat → Value) (qs : Nat → List (Int × Int)) : Prop where
  chk : Chk w6 sb tb N st en hv qs
  q0 : w6.cell? ⟨net, 0, none⟩ = some (.int .i64 0)
  q73 : w6.cell? ⟨nd, 73, none⟩ = some (.slice (some ⟨sb, 0, none⟩) 1 1)
  s0 : w6.cell? ⟨sb, 0, none⟩ = some (.int .i64 sd)
  s2 : w6.cell? ⟨sb, 2, none⟩ = some (.int .u64 tag)
  s3 : w6.cell? ⟨sb, 3, none⟩ = some (.int .u64 un')

theorem Laid.same {w w5 w6 : World} {B tb N net base : Nat} {sd tag un : Int} {pa : Addr} {pl pc : Nat} {hv : Nat → Value} {st en : Nat → Int} {hs : Nat → List (Int × Int)} (h : Laid w w5 B tb N sd tag un pa pl pc hv st en hs base) (hb : Below w5.heap.size w5 w6)
    (hB : B < w.heap.size) (q0 : w5.cell? ⟨net, 0, none⟩ = some (.int .i64 0)) : Rest w6 net B w.heap.size tb N sd tag un st en hv hs := by
  have hz := h.size
  have hS := h.sw.later hb (by omega) (by omega) (by have := h.tlt; omega)
  exact ⟨⟨hS.s5, hS.t0, hS.t1, hS.t2, hS.t3, fun i hi => (h.pc i hi).1.below hb⟩, (hb.cell (p := ⟨net, 0, none⟩) (World.block_lt_of_cell? _ _ q0)).trans q0, hS.n73, hS.s0, hS.s2, hS.s3⟩

theorem Laid.told {w w5 w6 : World} {B tb N net base k : Nat} {sd tag un un' : Int} {pa : Addr} {pl pc : Nat} {hv : Nat → Value} {st en : Nat → Int} {hs : Nat → List (Int × Int)} {p : Int × Int} (h : Laid w w5 B tb N sd tag un pa pl pc hv st en hs base) (T : Told21 w5 w6 w.heap.size tb k un' (hs k) p)
    (hB : B < w.heap.size) (hBt : B ≠ tb) (hnet : net < w.heap.size) (hnt : net ≠ tb) (q0 : w5.cell? ⟨net, 0, none⟩ = some (.int .i64 0)) :
    ∃ hv', Rest w6 net B w.heap.size tb N sd tag un' st en hv' (fun i => if i = k ∧ p ∉ hs i then hs i ++ [p] else hs i) := by
  have hz := h.size
  have htl := h.tlt
  obtain ⟨v, hvc, hvp⟩ := T.holes
  have far : ∀ b o : Nat, b < w.heap.size → b ≠ tb → w6.cell? ⟨b, o, none⟩ = w5.cell? ⟨b, o, none⟩ := fun b o hb hbt => T.cells ⟨b, o, none⟩ (show b < w5.heap.size by omega) (addr_ne (by omega)) (addr_ne (by omega))
  have sbc : ∀ o : Nat, o ≠ 3 → w6.cell? ⟨w.heap.size, o, none⟩ = w5.cell? ⟨w.heap.size, o, none⟩ := fun o ho => T.cells ⟨w.heap.size, o, none⟩ (show w.heap.size < w5.heap.size by omega) (addr_ne (by omega)) (addr_ne (by omega))
  have tbc : ∀ o : Nat, o ≠ k * 5 + 3 → w6.cell? ⟨tb, o, none⟩ = w5.cell? ⟨tb, o, none⟩ := fun o ho => T.cells ⟨tb, o, none⟩ (show tb < w5.heap.size by omega) (addr_ne (by omega)) (addr_ne (by omega))
  refine ⟨fun i => if i = k then v else hv i, ⟨⟨(sbc 5 (by decide)).trans h.sw.s5, fun i hi => (tbc _ (by omega)).trans (h.sw.t0 i hi), fun i hi => (tbc _ (by omega)).trans (h.sw.t1 i hi), fun i hi => (tbc _ (by omega)).trans (h.sw.t2 i hi), fun i hi => ?_, fun i hi => ?_⟩, (far _ _ hnet hnt).trans q0, (far _ _ hB hBt).trans h.sw.n73, (sbc 0 (by decide)).trans h.sw.s0, (sbc 2 (by decide)).trans h.sw.s2, T.until'⟩⟩
  · by_cases e : i = k
    · subst e; simp only [if_true]; exact hvc
    · simp only [if_neg e]; exact (tbc _ (by omega)).trans (h.sw.t3 i hi)
  · by_cases e : i = k
    · subst e
      simp only [if_true, true_and]
      by_cases hm : p ∈ hs i
      · rw [if_neg (by simpa using hm)]
        rw [if_pos hm] at hvp
        exact hvp
      · rw [if_pos hm]
        rw [if_neg hm] at hvp
        exact hvp
    · simp only [if_neg e]
      rw [if_neg (fun h => e h.1)]
      obtain ⟨p1, _, p3⟩ := h.pc i hi
      refine p1.turned T.turned (fun a l c e' => ?_)
      have := p3 a l c e'
      simp; omega

theorem Left.of_miss {tm tag frm sj un now tmo : Int} {N : Nat} {st en : Nat → Int} {hs : Nat → List (Int × Int)} (h : tm = tag → ∀ i, i < N → ¬ Ins (st i) (en i) frm sj) : Left tm tag frm sj un now tmo un N st en hs hs :=
  .inl ⟨rfl, fun _ _ => rfl, h⟩

/-- The first stretch that takes the piece, or none. -/
theorem first_or (N : Nat) (st en : Nat → Int) (frm sj : Int) : (∀ i, i < N → ¬ Ins (st i) (en i) frm sj) ∨ ∃ k, k < N ∧ (∀ i, i < k → ¬ Ins (st i) (en i) frm sj) ∧ Ins (st k) (en k) frm sj := by
  induction N with
  | zero => exact .inl fun i hi => by omega
  | succ n ih =>
    rcases ih with h | ⟨k, hk, h1, h2⟩
    · by_cases hn : Ins (st n) (en n) frm sj
      · exact .inr ⟨n, by omega, h, hn⟩
      · left
        intro i hi
        rcases Nat.lt_succ_iff_lt_or_eq.1 hi with h' | rfl
        · exact h i h'
        · exact hn
    · exact .inr ⟨k, by omega, h1, h2⟩
end Go.Proofs.Ybulkcfyi
