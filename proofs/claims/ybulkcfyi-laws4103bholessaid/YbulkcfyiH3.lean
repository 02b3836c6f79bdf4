/-
  LawS4103BHoles: the stretches as they are laid, a round at a time.
-/
import Derived.Test.YbulkcfyiH0
import Derived.Laws.MakeOwn
namespace Go.Proofs.Ybulkcfyi
open Go.RowKit Go.Stop

structure Lay (wb : World) (base tb N i m : Nat) (vP : Value) (hv : Nat → Value) (st en : Nat → Int) (hs : Nat → List (Int × Int)) (w : World) : Prop where
  low : Below base wb w
  tlow : base ≤ tb
  row : ∃ cur : Array Value, w.heap[tb]? = some (.cells cur 47) ∧ cur.size = N * 5
  pts : ∃ zs, w.ownsRow base 36 1 vP m zs
  ptb : vP.ownBlock ≠ some tb
  cells : ∀ k, k < i → w.cell? ⟨tb, k * 5, none⟩ = some (.int .u64 (st k)) ∧ w.cell? ⟨tb, k * 5 + 1, none⟩ = some (.int .u64 (en k)) ∧ w.cell? ⟨tb, k * 5 + 2, none⟩ = some (.slice none 0 0) ∧ w.cell? ⟨tb, k * 5 + 3, none⟩ = some (hv k) ∧ w.cell? ⟨tb, k * 5 + 4, none⟩ = some (.map none)
  holes : ∀ k, k < i → PcAt w (hv k) (hs k) ∧ (hv k = .slice none 0 0 ∨ ∃ g, hv k = .slice (some ⟨g, 0, none⟩) (hs k).length (hs k).length) ∧ ∀ a l c, hv k = .slice (some a) l c → base ≤ a.block ∧ a.block ≠ tb ∧ some a.block ≠ vP.ownBlock ∧ a.block < w.heap.size

theorem Lay.turn {wb : World} {base tb N i m m' : Nat} {vP vP' : Value} {hv : Nat → Value} {st en : Nat → Int} {hs : Nat → List (Int × Int)} {w w' : World} {ks : List Nat} (h : Lay wb base tb N i m vP hv st en hs w) (t : Turned ks w w')
    (ht : tb ∉ ks) (hks : ∀ k ∈ ks, base ≤ k) (hbase : base ≤ w.heap.size) (hk : ∀ k, k < i → ∀ a l c, hv k = .slice (some a) l c → a.block ∉ ks ∧ some a.block ≠ vP'.ownBlock) (own : ∃ zs, w'.ownsRow base 36 1 vP' m' zs) (ptb : vP'.ownBlock ≠ some tb) :
    Lay wb base tb N i m' vP' hv st en hs w' := by
  obtain ⟨cur, hr, hz⟩ := h.row
  have htb : tb < w.heap.size := (Array.getElem?_eq_some_iff.1 hr).1
  refine ⟨h.low.trans (t.below hbase hks), h.tlow, ⟨cur, (t.block tb htb ht).trans hr, hz⟩, own, ptb, fun k hk' => ?_, fun k hk' => ?_⟩
  · obtain ⟨c0, c1, c2, c3, c4⟩ := h.cells k hk'
    exact ⟨(t.cell (p := ⟨tb, k * 5, none⟩) htb ht).trans c0, (t.cell (p := ⟨tb, k * 5 + 1, none⟩) htb ht).trans c1, (t.cell (p := ⟨tb, k * 5 + 2, none⟩) htb ht).trans c2, (t.cell (p := ⟨tb, k * 5 + 3, none⟩) htb ht).trans c3, (t.cell (p := ⟨tb, k * 5 + 4, none⟩) htb ht).trans c4⟩
  · obtain ⟨p1, p2, p3⟩ := h.holes k hk'
    refine ⟨p1.turned t (fun a l c e => (hk k hk' a l c e).1), p2, fun a l c e => ?_⟩
    obtain ⟨q1, q2, q3, q4⟩ := p3 a l c e
    exact ⟨q1, q2, (hk k hk' a l c e).2, Nat.lt_of_lt_of_le q4 t.size⟩

/-- Five cells of a row, written. -/
def five (w : World) (b o : Nat) (v0 v1 v2 v3 v4 : Value) : World :=
  ((((w.setCell ⟨b, o, none⟩ v0).setCell ⟨b, o + 1, none⟩ v1).setCell ⟨b, o + 2, none⟩ v2).setCell ⟨b, o + 3, none⟩ v3).setCell ⟨b, o + 4, none⟩ v4

theorem setCell_row {w : World} {b o : Nat} {v : Value} {cur : Array Value} {t : TypeId} (h : w.heap[b]? = some (.cells cur t)) : (w.setCell ⟨b, o, none⟩ v).heap[b]? = some (.cells (cur.setIfInBounds o v) t) := by
  simp [World.setCell, Array.getElem?_modify, h]

theorem five_row {w : World} {b o : Nat} {v0 v1 v2 v3 v4 : Value} {cur : Array Value} {t : TypeId} (h : w.heap[b]? = some (.cells cur t)) :
    (five w b o v0 v1 v2 v3 v4).heap[b]? = some (.cells (((((cur.setIfInBounds o v0).setIfInBounds (o + 1) v1).setIfInBounds (o + 2) v2).setIfInBounds (o + 3) v3).setIfInBounds (o + 4) v4) t) :=
  setCell_row (setCell_row (setCell_row (setCell_row (setCell_row h))))

theorem five_turned (w : World) (b o : Nat) (v0 v1 v2 v3 v4 : Value) : Turned [b] w (five w b o v0 v1 v2 v3 v4) :=
  (((((Turned.refl [b] w).setCell _ (.inr (by simp)) _).setCell _ (.inr (by simp)) _).setCell _ (.inr (by simp)) _).setCell _ (.inr (by simp)) _).setCell _ (.inr (by simp)) _

theorem five_get {w : World} {b o : Nat} {v0 v1 v2 v3 v4 : Value} {cur : Array Value} {t : TypeId} (h : w.heap[b]? = some (.cells cur t)) (ho : o + 4 < cur.size) :
    (five w b o v0 v1 v2 v3 v4).cell? ⟨b, o, none⟩ = some v0 ∧ (five w b o v0 v1 v2 v3 v4).cell? ⟨b, o + 1, none⟩ = some v1 ∧ (five w b o v0 v1 v2 v3 v4).cell? ⟨b, o + 2, none⟩ = some v2 ∧ (five w b o v0 v1 v2 v3 v4).cell? ⟨b, o + 3, none⟩ = some v3 ∧ (five w b o v0 v1 v2 v3 v4).cell? ⟨b, o + 4, none⟩ = some v4 := by
  have hr := five_row (o := o) (v0 := v0) (v1 := v1) (v2 := v2) (v3 := v3) (v4 := v4) h
  refine ⟨?_, ?_, ?_, ?_, ?_⟩
  all_goals
    rw [cell_of_row _ _ _ _ _ _ hr]
    simp [Array.getElem?_setIfInBounds]
    try omega

theorem five_far {w : World} {b o k : Nat} {v0 v1 v2 v3 v4 : Value} {cur : Array Value} {t : TypeId} (h : w.heap[b]? = some (.cells cur t)) (hk : k < o ∨ o + 4 < k) :
    (five w b o v0 v1 v2 v3 v4).cell? ⟨b, k, none⟩ = w.cell? ⟨b, k, none⟩ := by
  have hr := five_row (o := o) (v0 := v0) (v1 := v1) (v2 := v2) (v3 := v3) (v4 := v4) h
  rw [cell_of_row _ _ _ _ _ _ hr, cell_of_row _ _ _ _ _ _ h]
  rw [Array.getElem?_setIfInBounds_ne (by omega), Array.getElem?_setIfInBounds_ne (by omega), Array.getElem?_setIfInBounds_ne (by omega), Array.getElem?_setIfInBounds_ne (by omega), Array.getElem?_setIfInBounds_ne (by omega)]

theorem Lay.store {wb : World} {base tb N i m : Nat} {vP v : Value} {hv : Nat → Value} {st en : Nat → Int} {hs : Nat → List (Int × Int)} {w w' : World} (h : Lay wb base tb N i m vP hv st en hs w) (hi : i < N) (hbase : base ≤ w.heap.size)
    (e : w' = five w tb (i * 5) (.int .u64 (st i)) (.int .u64 (en i)) (.slice none 0 0) v (.map none)) (p1 : PcAt w v (hs i)) (p2 : v = .slice none 0 0 ∨ ∃ g, v = .slice (some ⟨g, 0, none⟩) (hs i).length (hs i).length)
    (p3 : ∀ a l c, v = .slice (some a) l c → base ≤ a.block ∧ a.block ≠ tb ∧ some a.block ≠ vP.ownBlock ∧ a.block < w.heap.size) :
    Lay wb base tb N (i + 1) m vP (fun k => if k = i then v else hv k) st en hs w' := by
  obtain ⟨cur, hr, hz⟩ := h.row
  obtain ⟨zs, own⟩ := h.pts
  have hsz : i * 5 + 4 < cur.size := by rw [hz]; omega
  have t : Turned [tb] w w' := by rw [e]; exact five_turned _ _ _ _ _ _ _ _
  have hg := five_get (v0 := .int .u64 (st i)) (v1 := .int .u64 (en i)) (v2 := .slice none 0 0) (v3 := v) (v4 := .map none) hr hsz
  have hf : ∀ k, (k < i * 5 ∨ i * 5 + 4 < k) → w'.cell? ⟨tb, k, none⟩ = w.cell? ⟨tb, k, none⟩ := fun k hk => by rw [e]; exact five_far hr hk
  have hrow' : ∃ cur : Array Value, w'.heap[tb]? = some (.cells cur 47) ∧ cur.size = N * 5 := ⟨_, by rw [e]; exact five_row hr, by simp [hz]⟩
  have own' : w'.ownsRow base 36 1 vP m zs := by
    refine own.kept (row := some tb) ⟨t.os, t.tape, t.output, t.size, fun k hk hn => t.block k hk (by simpa using hn)⟩ (.inr h.ptb)
  refine ⟨h.low.trans (t.below hbase (by simpa using h.tlow)), h.tlow, hrow', ⟨zs, own'⟩, h.ptb, fun k hk => ?_, fun k hk => ?_⟩
  · by_cases hki : k = i
    · subst hki
      rw [if_pos rfl, e]
      exact hg
    · rw [if_neg hki]
      obtain ⟨c0, c1, c2, c3, c4⟩ := h.cells k (by omega)
      exact ⟨(hf _ (by omega)).trans c0, (hf _ (by omega)).trans c1, (hf _ (by omega)).trans c2, (hf _ (by omega)).trans c3, (hf _ (by omega)).trans c4⟩
  · by_cases hki : k = i
    · subst hki
      rw [if_pos rfl]
      refine ⟨p1.turned t (fun a l c e => ?_), p2, fun a l c e => ?_⟩
      · simpa using (p3 a l c e).2.1
      · obtain ⟨q1, q2, q3, q4⟩ := p3 a l c e
        exact ⟨q1, q2, q3, Nat.lt_of_lt_of_le q4 t.size⟩
    · rw [if_neg hki]
      obtain ⟨r1, r2, r3⟩ := h.holes k (by omega)
      refine ⟨r1.turned t (fun a l c e => ?_), r2, fun a l c e => ?_⟩
      · simpa using (r3 a l c e).2.1
      · obtain ⟨q1, q2, q3, q4⟩ := r3 a l c e
        exact ⟨q1, q2, q3, Nat.lt_of_lt_of_le q4 t.size⟩

theorem wpList_make_run {P : Program} {w w' : World} {ops : Array Oper} {rest : List Oper} {o : Oper} {a : Act} {Q : Exit → Act → World → Prop} (hg : o.guard = none) (l c : Operand) (t : TypeId)
    (hop : o.op = Op.makeSlice t l c) (vl vc v' : Value) (hl : a.eval l = vl) (hc : a.eval c = vc)
    (hrun : (Instr.makeSlice t vl vc).run P w = .ok v' w') (hK : wpList P ops Q rest (a.put o.dst v') w') : wpList P ops Q (o :: rest) a w := by
  refine wpList_plain hg fun K hK' => ?_
  unfold Oper.wp
  simp [execOp, hop, hl, hc, hrun, Result.andThen]
  exact hK' _ _ hK
end Go.Proofs.Ybulkcfyi
