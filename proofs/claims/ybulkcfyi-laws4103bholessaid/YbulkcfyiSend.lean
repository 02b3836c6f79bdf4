/-
  The network of LawS4103C: Send.
-/
import Derived.Test.YbulkcfyiIds
import Derived.Deep.AppendLies
import Derived.Deep.RegionHeld3
import Derived.Deep.DrawnRows
import Derived.Deep.RegionLaw
import Derived.Deep.WholeRow
namespace Go.Proofs.Ybulkcfyi
open Go.RowKit Go.Stop
attribute [local go_sem ↓] Go.wp_at_zero Go.wp_at_succ

/-- Nothing has turned but new memory and the blocks ks. -/
structure Turned (ks : List Nat) (w w' : World) : Prop where
  os : w'.os = w.os
  tape : w'.tape = w.tape
  output : w'.output = w.output
  size : w.heap.size ≤ w'.heap.size
  block : ∀ k, k < w.heap.size → k ∉ ks → w'.heap[k]? = w.heap[k]?

theorem Turned.refl (ks : List Nat) (w : World) : Turned ks w w := ⟨rfl, rfl, rfl, Nat.le_refl _, fun _ _ _ => rfl⟩
theorem Turned.trans {ks : List Nat} {a b c : World} (h : Turned ks a b) (k : Turned ks b c) : Turned ks a c :=
  ⟨k.os.trans h.os, k.tape.trans h.tape, k.output.trans h.output, Nat.le_trans h.size k.size, fun i hi hn => (k.block i (Nat.lt_of_lt_of_le hi h.size) hn).trans (h.block i hi hn)⟩
theorem Turned.mono {ks ls : List Nat} {a b : World} (h : Turned ks a b) (hs : ∀ k ∈ ks, k ∈ ls) : Turned ls a b :=
  ⟨h.os, h.tape, h.output, h.size, fun i hi hn => h.block i hi (fun hk => hn (hs i hk))⟩
theorem Turned.of_below {ks : List Nat} {a b : World} (h : Below a.heap.size a b) : Turned ks a b :=
  ⟨h.os, h.tape, h.output, h.size, fun i hi _ => h.block i hi⟩
theorem Turned.cell {ks : List Nat} {a b : World} (h : Turned ks a b) {p : Addr} (hp : p.block < a.heap.size) (hn : p.block ∉ ks) : b.cell? p = a.cell? p := World.cell?_of_block (h.block _ hp hn)
theorem Turned.frozen {ks : List Nat} {a b : World} (h : Turned ks a b) {p : Addr} (hp : p.block < a.heap.size) (hn : p.block ∉ ks) : b.frozen? p = a.frozen? p := World.frozen?_of_block (h.block _ hp hn)
theorem Turned.drew {ks : List Nat} {a b : World} (h : Turned ks a b) : Turned ks a b.drew := ⟨h.os, h.tape, h.output, h.size, h.block⟩
theorem Turned.setCell {ks : List Nat} {a b : World} (h : Turned ks a b) (p : Addr) (hp : a.heap.size ≤ p.block ∨ p.block ∈ ks) (v : Value) : Turned ks a (b.setCell p v) := by
  refine ⟨h.os, h.tape, h.output, by simpa [World.setCell] using h.size, fun i hi hn => ?_⟩
  rw [Below.heap_setCell _ _ _ _ (by rcases hp with hp | hp <;> rintro rfl <;> first | omega | exact hn hp)]
  exact h.block i hi hn
theorem Turned.alloc {ks : List Nat} {a b : World} (h : Turned ks a b) (o : Obj) : Turned ks a (b.alloc o) := by
  refine ⟨h.os, h.tape, h.output, Nat.le_trans h.size (by simp), fun i hi hn => ?_⟩
  rw [Below.heap_alloc _ _ _ (Nat.lt_of_lt_of_le hi h.size)]
  exact h.block i hi hn
theorem Turned.grown {ks : List Nat} {a b c : World} (h : Turned ks a b) (k : b.grownBy c none) : Turned ks a c :=
  ⟨k.os.trans h.os, k.tape.trans h.tape, k.output.trans h.output, Nat.le_trans h.size k.size, fun i hi hn => (k.block i (Nat.lt_of_lt_of_le hi h.size) (by simp)).trans (h.block i hi hn)⟩
/-- What has turned is new to an elder world. -/
theorem Turned.below {ks : List Nat} {n : Nat} {a b : World} (h : Turned ks a b) (hn : n ≤ a.heap.size) (hk : ∀ k ∈ ks, n ≤ k) : Below n a b :=
  ⟨h.os, h.tape, h.output, h.size, fun i hi => h.block i (Nat.lt_of_lt_of_le hi hn) (fun hi' => by have := hk i hi'; omega)⟩

theorem IdsAt.turned {ks : List Nat} {w w' : World} {p : Option Addr} {n : Nat} {zs : List Int} (h : IdsAt w p n zs) (ht : Turned ks w w') (hk : ∀ a, p = some a → a.block ∉ ks) : IdsAt w' p n zs := by
  rcases h with h | ⟨g, o, e, hl, hc⟩
  · exact .inl h
  · exact .inr ⟨g, o, e, hl, fun i hi => (ht.cell (p := ⟨g, o + i, none⟩) (World.block_lt_of_cell? _ _ (hc i hi)) (hk ⟨g, o, none⟩ e)).trans (hc i hi)⟩

/-- A message's seven cells. -/
structure MsgAt (w : World) (g : Nat) (kd fr to : Int) (p : Option Addr) (n c : Nat) (sj tm sr : Int) : Prop where
  c0 : w.cell? ⟨g, 0, none⟩ = some (.int .u8 kd)
  c1 : w.cell? ⟨g, 1, none⟩ = some (.int .u64 fr)
  c2 : w.cell? ⟨g, 2, none⟩ = some (.int .u64 to)
  c3 : w.cell? ⟨g, 3, none⟩ = some (.slice p n c)
  c4 : w.cell? ⟨g, 4, none⟩ = some (.int .u64 sj)
  c5 : w.cell? ⟨g, 5, none⟩ = some (.int .u64 tm)
  c6 : w.cell? ⟨g, 6, none⟩ = some (.int .u64 sr)

def msgCells (kd fr to : Int) (p : Option Addr) (n c : Nat) (sj tm sr : Int) : Array Value := #[.int .u8 kd, .int .u64 fr, .int .u64 to, .slice p n c, .int .u64 sj, .int .u64 tm, .int .u64 sr]

theorem Yba.info67 : (Yba.prog.info? 67).map (fun i => (i.zero, i.size, i.bytes)) = some (some (.agg (msgCells 0 0 0 none 0 0 0 0 0)), 7, 72) := by kernel_rfl

theorem step_append_run {P : Program} {ops : Array Oper} {o : Oper} {a : Act} {w w' : World} {K : Act → World → Prop} {Q : Exit → Act → World → Prop} {E : Prop} (hgd : o.guard = none) (s x : Operand) (t : TypeId)
    (hop : o.op = .call { callee := .builtin .append, args := #[s, x], argTypes := #[t, t] }) (vs vx v' : Value) (hs : a.eval s = vs) (hx : a.eval x = vx)
    (hrun : (Builtin.append_ #[t, t] o.type #[vs, vx]).run P w = .ok v' w') (hK : K (a.put o.dst v') w') :
    if Region.wanted o (yielded ops a.tmps) = true then Oper.wp P o a w K Q else E := by
  have hw : Region.wanted o (yielded ops a.tmps) = true := by simp [Region.wanted, hgd]
  rw [if_pos hw]
  unfold Oper.wp
  simp [execOp, hop, resolve, invoke, builtin, hs, hx, hrun, Result.andThen]
  exact hK

set_option maxHeartbeats 800000 in
theorem csend_any (nb : Nat) (kd fr to sj tm sr : Int) (p : Option Addr) (n c : Nat) (zs : List Int) (w : World) (hp : p = none → n = 0 ∧ c = 0) (hB : IdsAt w p n zs) (hn : n ≤ 1024)
    (c0 : w.cell? ⟨nb, 0, none⟩ = some (.slice none 0 0)) (f0 : w.frozen? ⟨nb, 0, none⟩ = false) :
    Calls Yba.prog 94 #[.pointer (some ⟨nb, 0, none⟩), .agg (msgCells kd fr to p n c sj tm sr)] w fun e w' => e = .returned (.tuple #[]) ∧ ∃ g cap p' c', w'.cell? ⟨nb, 0, none⟩ = some (.slice (some ⟨g, 0, none⟩) 1 cap) ∧ w.heap.size ≤ g ∧ MsgAt w' g kd fr to p' n c' sj tm sr ∧ IdsAt w' p' n zs ∧ Turned [nb] w w' := by
  have hnb := World.block_lt_of_cell? _ _ c0
  have HP : Hid (p = none → n = 0 ∧ c = 0) := hp
  have HB : Hid (IdsAt w p n zs) := hB
  have HF : Hid (w.cell? ⟨nb, 0, none⟩ = some (.slice none 0 0) ∧ w.frozen? ⟨nb, 0, none⟩ = false) := ⟨c0, f0⟩
  clear hp hB c0 f0
  unfold msgCells
  go_enter Yba.func94, Yba.ntmps94
  go_wp2_with fail
  refine (clone_any p n c zs _ HP.out (HB.out.below ((Below.refl _ w).alloc (Nat.le_refl _) _)) hn).mono ?_
  rintro e w1 ⟨p', c', rfl, hp', hB', hnew, hb1⟩
  have bw : Below w.heap.size w w1 := ((Below.refl _ w).alloc (Nat.le_refl _) _).trans (hb1.mono (by simp))
  have r1 : w1.heap[w.heap.size]? = some (.cells #[.int .u8 kd, .int .u64 fr, .int .u64 to, .slice p n c, .int .u64 sj, .int .u64 tm, .int .u64 sr] 67) := by
    rw [hb1.block _ (by simp), heap_alloc_last]
  have k3 : w1.cell? ⟨w.heap.size, 3, none⟩ = some (.slice p n c) := by rw [cell_of_row _ _ _ _ _ _ r1]; rfl
  have z3 : w1.frozen? ⟨w.heap.size, 3, none⟩ = false := by simp [World.frozen?, r1]
  have HH : Hid (IdsAt w1 p' n zs ∧ (∀ a, p' = some a → w.heap.size + 1 ≤ a.block) ∧ Below w.heap.size w w1 ∧ w1.heap[w.heap.size]? = some (.cells #[.int .u8 kd, .int .u64 fr, .int .u64 to, .slice p n c, .int .u64 sj, .int .u64 tm, .int .u64 sr] 67) ∧ w.heap.size < w1.heap.size) := ⟨hB', fun a ha => by simpa using hnew a ha, bw, r1, World.block_lt_of_cell? _ _ k3⟩
  clear hp' hB' hnew hb1 bw r1
  go_wp2_with fail
  clear k3 z3
  obtain ⟨w2, e2⟩ : ∃ w2, w2 = w1.setCell ⟨w.heap.size, 3, none⟩ (.slice p' n c') := ⟨_, rfl⟩
  rw [← e2]
  obtain ⟨b1, b2, b3, b4, b5⟩ := HH.out
  have r2 : w2.heap[w.heap.size]? = some (.cells (msgCells kd fr to p' n c' sj tm sr) 67) := by
    rw [e2]; simp [World.setCell, Array.getElem?_modify, b4, msgCells]
  have cn : w2.cell? ⟨nb, 0, none⟩ = some (.slice none 0 0) := by
    rw [e2, World.cell?_setCell_other _ _ _ _ (by intro h'; have := congrArg Addr.block h'; simp at this; omega), b3.cell (p := ⟨nb, 0, none⟩) hnb]
    exact HF.out.1
  have fn : w2.frozen? ⟨nb, 0, none⟩ = false := by
    rw [World.frozen?_of_block (w := w) (a := ⟨nb, 0, none⟩) (by rw [e2, Below.heap_setCell _ _ _ _ (by intro h'; simp at h'; omega)]; exact b3.block _ hnb)]
    exact HF.out.2
  have z2 : w2.heap.size = w1.heap.size := by rw [e2]; simp [World.setCell]
  have hlt2 : nb < w2.heap.size := by omega
  have hlt3 : w.heap.size < w2.heap.size := by omega
  have T2 : Turned [nb] w w2 := by rw [e2]; exact ((Turned.of_below b3).setCell _ (.inl (Nat.le_refl _)) _)
  have I2 : IdsAt w2 p' n zs := by
    rw [e2]
    exact b1.turned ((Turned.refl [w.heap.size] w1).setCell ⟨w.heap.size, 3, none⟩ (.inr (by simp)) _) (fun a ha => by have := b2 a ha; simp; omega)
  have HT : Hid (Turned [nb] w w2 ∧ IdsAt w2 p' n zs ∧ ∀ a, p' = some a → w.heap.size + 1 ≤ a.block) := ⟨T2, I2, b2⟩
  clear b1 b2 b3 b4 b5 T2 I2 e2 z2 HH HB HP
  obtain ⟨i0, hi, hz0, hz1, hz2⟩ := info_parts Yba.info67
  obtain ⟨g, cap, w3, hrun, hown, hgrow, hat, hlt⟩ := run_append_lies (P := Yba.prog) (w2.drew.alloc (.cells (msgCells kd fr to p' n c' sj tm sr) 67)) 87 87 w2.heap.size 67 i0 _ 7 72 Yba.underlying87 hi hz0 hz1 hz2 rfl (by decide)
    (.slice none 0 0) 0 [] (World.ownsRow_nil _ _ _ _) ⟨w2.heap.size, 0, none⟩ 1 1 (msgCells kd fr to p' n c' sj tm sr).toList rfl (World.news_of_block (heap_alloc_last w2.drew _))
    (by intro u hu; simp [msgCells] at hu; rcases hu with rfl | rfl | rfl | rfl | rfl | rfl | rfl <;> rfl) (by decide) (by unfold maxLen; omega) (by omega) (by simp) (w2.heap.size + 1) (by simp)
  have hgw : g = w2.heap.size + 1 := by rcases hat with h | h <;> first | exact h | cases h
  have tg : Turned [nb] w2 w3 := ((Turned.refl [nb] w2).drew.alloc _).grown hgrow
  have cn3 : w3.cell? ⟨nb, 0, none⟩ = some (.slice none 0 0) := by
    rw [hgrow.cell_far ⟨nb, 0, none⟩ (by simp; omega) (by simp [Value.ownBlock])]
    exact (World.cell?_alloc_lt _ _ _ (by exact hlt2)).trans cn
  have fn3 : w3.frozen? ⟨nb, 0, none⟩ = false := by
    rw [hgrow.frozen_far ⟨nb, 0, none⟩ (by simp; omega) (by simp [Value.ownBlock]), World.frozen?_alloc_old _ _ _ (by simp; omega)]
    exact fn
  have HO : Hid (w3.ownsRow w2.heap.size 67 7 (.slice (some ⟨g, 0, none⟩) (0 + 1) cap) (0 + 1) ([] ++ (msgCells kd fr to p' n c' sj tm sr).toList) ∧ Turned [nb] w2 w3 ∧ g = w2.heap.size + 1 ∧ g < w3.heap.size) := ⟨hown, tg, hgw, hlt⟩
  clear hown hgrow hat hlt tg hgw fn
  have q0 : w2.cell? ⟨w.heap.size, 0, none⟩ = some (.int .u8 kd) := by rw [cell_of_row _ _ _ _ _ _ r2]; rfl
  have q1 : w2.cell? ⟨w.heap.size, 1, none⟩ = some (.int .u64 fr) := by rw [cell_of_row _ _ _ _ _ _ r2]; rfl
  have q2 : w2.cell? ⟨w.heap.size, 2, none⟩ = some (.int .u64 to) := by rw [cell_of_row _ _ _ _ _ _ r2]; rfl
  have q3 : w2.cell? ⟨w.heap.size, 3, none⟩ = some (.slice p' n c') := by rw [cell_of_row _ _ _ _ _ _ r2]; rfl
  have q4 : w2.cell? ⟨w.heap.size, 4, none⟩ = some (.int .u64 sj) := by rw [cell_of_row _ _ _ _ _ _ r2]; rfl
  have q5 : w2.cell? ⟨w.heap.size, 5, none⟩ = some (.int .u64 tm) := by rw [cell_of_row _ _ _ _ _ _ r2]; rfl
  have q6 : w2.cell? ⟨w.heap.size, 6, none⟩ = some (.int .u64 sr) := by rw [cell_of_row _ _ _ _ _ _ r2]; rfl
  clear r2
  have HRUN : Hid ((Builtin.append_ #[87, 87] 87 #[.slice none 0 0, .slice (some ⟨w2.heap.size, 0, none⟩) 1 1]).run Yba.prog (w2.drew.alloc (.cells (msgCells kd fr to p' n c' sj tm sr) 67)) = .ok (.slice (some ⟨g, 0, none⟩) (0 + 1) cap) w3) := hrun
  clear hrun hi hz0 hz1 hz2 i0
  go_region_law (refine step_append_run rfl (.tmp 12) (.tmp 14) 87 rfl (.slice none 0 0) (.slice (some ⟨w2.heap.size, 0, none⟩) 1 1) _ rfl rfl HRUN.out ?_)
  all_goals
    go_end0
    obtain ⟨hown, tg, hgw, hlt⟩ := HO.out
    obtain ⟨t2, i2, b2⟩ := HT.out
    have hne : ∀ j, (⟨nb, 0, none⟩ : Addr) ≠ ⟨g, j, none⟩ := fun j h' => by have := congrArg Addr.block h'; simp at this; omega
    have cg : ∀ j, j < 7 → (w3.setCell ⟨nb, 0, none⟩ (.slice (some ⟨g, 0, none⟩) 1 cap)).cell? ⟨g, j, none⟩ = (msgCells kd fr to p' n c' sj tm sr)[j]? := by
      intro j hj
      rw [World.cell?_setCell_other _ _ _ _ (hne j)]
      rcases hown.2 with ⟨e, _⟩ | ⟨g', cap', cur, e, hg, hh, hcap, hmax, hsz, htk⟩
      · cases e
      · simp only [Value.slice.injEq, Option.some.injEq, Addr.mk.injEq] at e
        obtain ⟨⟨rfl, _, _⟩, _, rfl⟩ := e
        rw [cell_of_row w3 g j cur 67 (0, 0) hh]
        have e1 : (cur.toList.take ((0 + 1) * 7))[j]? = (([] : List Value) ++ (msgCells kd fr to p' n c' sj tm sr).toList)[j]? := by rw [htk]
        rw [List.getElem?_take_of_lt (by omega)] at e1
        rw [← Array.getElem?_toList, e1]
        simp
    have tw : Turned [nb] w (w3.setCell ⟨nb, 0, none⟩ (.slice (some ⟨g, 0, none⟩) 1 cap)) := (t2.trans tg).setCell _ (.inr (by simp)) _
    refine ⟨rfl, g, cap, p', c', World.cell?_setCell_same _ _ _ cn3, by omega, ⟨?_, ?_, ?_, ?_, ?_, ?_, ?_⟩, i2.turned (tg.setCell _ (.inr (by simp)) _) (fun a ha => by have := b2 a ha; simp; omega), tw⟩
    · rw [cg 0 (by decide)]; rfl
    · rw [cg 1 (by decide)]; rfl
    · rw [cg 2 (by decide)]; rfl
    · rw [cg 3 (by decide)]; rfl
    · rw [cg 4 (by decide)]; rfl
    · rw [cg 5 (by decide)]; rfl
    · rw [cg 6 (by decide)]; rfl
end Go.Proofs.Ybulkcfyi
