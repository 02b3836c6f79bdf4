/-
  Slices of ids, as they lie: slices.Clone and slices.Equal of them.
-/
import Derived.Test.YbulkcfyiNil
import Derived.LoopTactic
import Derived.Deep.OwnRows
import Derived.Stop.LaidErr
namespace Go.Proofs.Ybulkcfyi
open Go.RowKit Go.Stop

/-- A slice's n elements are the numbers zs. -/
def IdsAt (w : World) (p : Option Addr) (n : Nat) (zs : List Int) : Prop :=
  n = 0 ∨ ∃ g o, p = some ⟨g, o, none⟩ ∧ zs.length = n ∧ ∀ i, i < n → w.cell? ⟨g, o + i, none⟩ = some (.int .u64 (zs.getD i 0))

theorem IdsAt.later {w w' : World} {p : Option Addr} {n : Nat} {zs : List Int} (h : IdsAt w p n zs) (hb : ∀ a : Addr, p = some a → w'.heap[a.block]? = w.heap[a.block]?) : IdsAt w' p n zs := by
  rcases h with h | ⟨g, o, e, hl, hc⟩
  · exact .inl h
  · exact .inr ⟨g, o, e, hl, fun i hi => (World.cell?_of_block (a := ⟨g, o + i, none⟩) (hb ⟨g, o, none⟩ e)).trans (hc i hi)⟩

theorem IdsAt.below {w w' : World} {p : Option Addr} {n : Nat} {zs : List Int} (h : IdsAt w p n zs) (hb : Below w.heap.size w w') : IdsAt w' p n zs := by
  rcases h with h | ⟨g, o, e, hl, hc⟩
  · exact .inl h
  · exact .inr ⟨g, o, e, hl, fun i hi => (hb.cell (p := ⟨g, o + i, none⟩) (World.block_lt_of_cell? _ _ (hc i hi))).trans (hc i hi)⟩

theorem Yba.info36 : (Yba.prog.info? 36).map (fun i => (i.zero, i.size, i.bytes)) = some (some (.int .u64 0), 1, 8) := by kernel_rfl

theorem wpList_append_run {P : Program} {w w' : World} {ops : Array Oper} {rest : List Oper} {o : Oper} {a : Act} {Q : Exit → Act → World → Prop} (hg : o.guard = none) (s x : Operand) (t : TypeId)
    (hop : o.op = Op.call { callee := Callee.builtin Builtin.append, args := #[s, x], argTypes := #[t, t] }) (vs vx v' : Value) (hs : a.eval s = vs) (hx : a.eval x = vx)
    (hrun : (Builtin.append_ #[t, t] o.type #[vs, vx]).run P w = .ok v' w') (hK : wpList P ops Q rest (a.put o.dst v') w') : wpList P ops Q (o :: rest) a w := by
  refine wpList_plain hg fun K hK' => ?_
  unfold Oper.wp
  simp [execOp, hop, resolve, invoke, builtin, hs, hx, hrun, Result.andThen]
  exact hK' _ _ hK

set_option maxHeartbeats 400000 in
/-- slices.Clone: a copy in memory of the call's own, or nil. -/
theorem clone_any (p : Option Addr) (n c : Nat) (zs : List Int) (w : World) (hp : p = none → n = 0 ∧ c = 0) (hB : IdsAt w p n zs) (h : n ≤ 1024) :
    Calls Yba.prog 11 #[.slice p n c] w fun e w' => ∃ p' c', e = .returned (.slice p' n c') ∧ (p' = none → n = 0 ∧ c' = 0) ∧ IdsAt w' p' n zs ∧ (∀ a, p' = some a → w.heap.size ≤ a.block) ∧ Below w.heap.size w w' := by
  cases p with
  | none =>
    obtain ⟨rfl, rfl⟩ := hp rfl
    refine (clone_nil w).mono ?_
    rintro e w' ⟨rfl, rfl⟩
    exact ⟨none, 0, rfl, fun _ => ⟨rfl, rfl⟩, .inl rfl, fun a h => (by cases h), Below.refl _ _⟩
  | some a =>
    obtain ⟨i0, hi, hz0, hz1, hz2⟩ := info_parts Yba.info36
    obtain ⟨news, hl, hnews, h1, hgo⟩ : ∃ news : List Value, news.length = n * 1 ∧ (∀ j u, news[j]? = some u → (w.alloc (.cells #[] 36)).cell? (a.add j) = some u) ∧ (∀ u ∈ news, u.oneCell' = true) ∧ (n = 0 ∨ (zs.length = n ∧ news = zs.map (Value.int .u64))) := by
      rcases hB with rfl | ⟨g, o, e, hl, hc⟩
      · exact ⟨[], rfl, (fun j u hu => by simp at hu), (fun u hu => by cases hu), .inl rfl⟩
      · obtain rfl := Option.some.inj e
        refine ⟨zs.map (Value.int .u64), by simp [hl], fun j u hu => ?_, fun u hu => ?_, .inr ⟨hl, rfl⟩⟩
        · have hj : j < zs.length := by have := (List.getElem?_eq_some_iff.1 hu).1; simpa using this
          rw [Addr.add_lit]
          refine cell?_alloc_old _ ?_
          rw [hc j (by omega)]
          simp [List.getElem?_eq_getElem hj] at hu
          subst hu
          simp [List.getD_eq_getElem?_getD, hj]
        · obtain ⟨z, _, rfl⟩ := List.mem_map.1 hu
          rfl
    obtain ⟨v', w1, hrun, hown, hgrow, hnil⟩ := run_append_own (P := Yba.prog) (w.alloc (.cells #[] 36)) w.heap.size 39 39 36 i0 (.int .u64 0) 1 8 Yba.underlying39 hi hz0 hz1 hz2 rfl (by decide)
      (.slice (some ⟨w.heap.size, 0, none⟩) 0 0) 0 [] (World.ownsRow_made w #[] 0 (Nat.le_refl _) (Nat.zero_le _) rfl) a n c news hl hnews h1 (by unfold maxLen; omega) (by omega) (by simp)
    have hq : ∀ w, (binOp .eql 39 (.slice (some a) n c) (.slice none 0 0)).run Yba.prog w = .ok (.bool false) w := fun w => Lib.run_eql_slice_nil (P := Yba.prog) w 39 36 (some a) n c 0 0 Yba.underlying39
    have HG : Hid (n = 0 ∨ (zs.length = n ∧ news = zs.map (Value.int .u64))) := hgo
    have HO : Hid (w1.ownsRow w.heap.size 36 1 v' (0 + n) ([] ++ news)) := hown
    have HW : Hid ((w.alloc (.cells #[] 36)).grownBy w1 (some w.heap.size)) := hgrow
    clear hnil hown hgrow hgo hnews h1 hl hB hp
    go_enter Yba.func11, Yba.ntmps11
    go_wp2_with (at_builtin; refine wpList_append_run rfl (.tmp 5) (.tmp 6) 39 rfl _ _ _ rfl rfl hrun ?_)
    go_ret
    have hb : Below w.heap.size w w1 := ((Below.refl _ w).alloc (Nat.le_refl _) _).grown HW.out (by simp) (by intro k hk; cases hk; exact Nat.le_refl _)
    rcases HO.out.2 with ⟨e, hn⟩ | ⟨g, cap, cur, e, hg, hh, hcap, hmax, hsz, htk⟩
    · have hn0 : n = 0 := by omega
      subst hn0
      exact ⟨none, 0, by rw [e]; rfl, fun _ => ⟨rfl, rfl⟩, .inl rfl, fun a h => (by cases h), hb⟩
    · refine ⟨some ⟨g, 0, none⟩, cap, by rw [e, Nat.zero_add]; rfl, fun h => (by cases h), ?_, fun a h => (by cases h; exact hg), hb⟩
      rcases HG.out with h0 | ⟨hz, rfl⟩
      · exact .inl h0
      · refine .inr ⟨g, 0, rfl, hz, fun i hi => ?_⟩
        rw [Nat.zero_add, cell_of_row w1 g i cur 36 (0, 0) hh]
        have e1 : (cur.toList.take ((0 + n) * 1))[i]? = (([] : List Value) ++ zs.map (Value.int .u64))[i]? := by rw [htk]
        rw [List.getElem?_take_of_lt (by omega)] at e1
        rw [← Array.getElem?_toList, e1]
        simp [List.getD_eq_getElem?_getD, show i < zs.length by omega]

set_option maxHeartbeats 400000 in
/-- slices.Equal of two slices with the same elements. -/
theorem equal_any (p1 p2 : Option Addr) (n c1 c2 : Nat) (zs : List Int) (w : World) (h1 : IdsAt w p1 n zs) (h2 : IdsAt w p2 n zs) (hn : n ≤ 1024) :
    Calls Yba.prog 13 #[.slice p1 n c1, .slice p2 n c2] w fun e w' => e = .returned (.bool true) ∧ Below w.heap.size w w' := by
  have H1 : Hid (IdsAt w p1 n zs) := h1
  have H2 : Hid (IdsAt w p2 n zs) := h2
  clear h1 h2
  have t0 : ((n : Int) != (n : Int)) = false := by simp
  go_enter Yba.func13, Yba.ntmps13
  go_wp2
  go_loopw [13] (fun iv wq => ∃ j : Nat, iv = .int .i64 j ∧ j ≤ n ∧ Below w.heap.size w wq)
    (fun iv _ => n - (intOf iv).toNat)
  case atStart => exact ⟨0, rfl, by omega, Below.refl _ _⟩
  case round =>
    obtain ⟨j, rfl, hj, hb⟩ := hrel
    have HB : Hid (Below w.heap.size w wr) := hb
    clear hb
    by_cases hlt : j < n
    · rcases H1.out with h0 | ⟨g1, o1, rfl, hl1, hc1⟩
      · omega
      rcases H2.out with h0 | ⟨g2, o2, rfl, hl2, hc2⟩
      · omega
      have k1 := hc1 j hlt
      have k2 := hc2 j hlt
      have d1 := (HB.out.cell (p := ⟨g1, o1 + j, none⟩) (World.block_lt_of_cell? _ _ k1)).trans k1
      have d2 := (HB.out.cell (p := ⟨g2, o2 + j, none⟩) (World.block_lt_of_cell? _ _ k2)).trans k2
      clear k1 k2 hc1 hc2 hl1 hl2 H1 H2
      generalize zs.getD j 0 = z at *
      have hji : (j : Int) < n := by omega
      have tz : (z != z) = false := by simp
      go_wp2
      go_quiet (fail)
      go_wp2
      go_roundw
      case rel => exact ⟨j + 1, by go_num, by omega, below_drewN HB.out _⟩
      case measure => simp [intOf]; omega
    · have hge : ¬ (j : Int) < n := by omega
      go_wp2
      go_ret
      exact ⟨rfl, HB.out⟩
end Go.Proofs.Ybulkcfyi
