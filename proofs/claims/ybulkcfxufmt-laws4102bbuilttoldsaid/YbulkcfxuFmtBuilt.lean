/-
  LawS4102BBuilt: the buffer that it builds, then zzs4102bcheck by its contract.
-/
import Derived.Test.YbulkcfxuFmtLaw
namespace Go.Proofs.YbulkcfxuFmt
open Go.RowKit Go.Extern.Stop Go.Stop Go.Extern

/-- The header's eight numbers. -/
def eightOf (x y : Int) : List Int := [76, 79, 68, 69, x % 256, x / 256, y % 256, y / 256]
theorem eightOf_len (x y : Int) : (eightOf x y).length = 8 := rfl

/-- The three run equations of the building, and what lies in the row behind them. -/
theorem built_prep (x y : Int) (p : Option Addr) (n c : Nat) (ts : List Int) (w : World) (h : n ≤ 1024) (bx : 0 ≤ x ∧ x ≤ 65535) (by' : 0 ≤ y ∧ y ≤ 65535) (hp : p = none → n = 0 ∧ c = 0) (hB : Byts w p n ts) :
    ∃ (w1 w2 w3 : World) (zs : List Int),
      (Instr.makeSlice 22 (.int .i64 0) (.int .i64 (8 + (n : Int)))).run Ybaf.prog w = .ok (.slice (some ⟨w.heap.size, 0, none⟩) 0 (8 + n)) w1 ∧
      (Builtin.append_ #[22, 22] 22 #[.slice (some ⟨w.heap.size, 0, none⟩) 0 (8 + n), .slice (some ⟨w1.heap.size, 0, none⟩) 8 8]).run Ybaf.prog (w1.alloc (.cells #[.int .u8 76, .int .u8 79, .int .u8 68, .int .u8 69, .int .u8 (x % 256), .int .u8 (x / 256), .int .u8 (y % 256), .int .u8 (y / 256)] 5)) = .ok (.slice (some ⟨w.heap.size, 0, none⟩) 8 (8 + n)) w2 ∧
      (Builtin.append_ #[22, 22] 22 #[.slice (some ⟨w.heap.size, 0, none⟩) 8 (8 + n), .slice p n c]).run Ybaf.prog w2 = .ok (.slice (some ⟨w.heap.size, 0, none⟩) (8 + n) (8 + n)) w3 ∧
      w3.ownsRow w.heap.size 5 1 (.slice (some ⟨w.heap.size, 0, none⟩) (8 + n) (8 + n)) (8 + n) (zs.map (Value.int .u8)) ∧ Below w.heap.size w w3 ∧ zs.length = 8 + n ∧ (∀ z ∈ zs, 0 ≤ z ∧ z ≤ 255) ∧ zs.take 4 = [76, 79, 68, 69] := by
  obtain ⟨i, hi, hz0, hz1, hz2⟩ := info_parts Ybaf.info5
  obtain ⟨w1, hr1, ho1, hg1⟩ := run_make_own (P := Ybaf.prog) w w.heap.size 22 5 i (.int .u8 0) 1 Ybaf.underlying22 hi hz0 hz1 .i64 .i64 (8 + n) (by rw [hz2]; omega) (by unfold maxLen; omega) (Nat.le_refl _)
  have ec : ((8 + n : Nat) : Int) = 8 + (n : Int) := by omega
  rw [ec] at hr1
  have B1 : Below w.heap.size w w1 := Below.grown (Below.refl _ w) hg1 (Nat.le_refl _) (fun k hk => by cases hk)
  have ho1' := ho1.alloc (.cells #[.int .u8 76, .int .u8 79, .int .u8 68, .int .u8 69, .int .u8 (x % 256), .int .u8 (x / 256), .int .u8 (y % 256), .int .u8 (y / 256)] 5)
  have B1' := B1.alloc B1.size (.cells #[.int .u8 76, .int .u8 79, .int .u8 68, .int .u8 69, .int .u8 (x % 256), .int .u8 (x / 256), .int .u8 (y % 256), .int .u8 (y / 256)] 5)
  have hz1' : w.heap.size < w1.heap.size := (ho1.lt w.heap.size rfl).2
  obtain ⟨w2, hr2, ho2, hg2⟩ := run_append_fits (P := Ybaf.prog) (w1.alloc (.cells #[.int .u8 76, .int .u8 79, .int .u8 68, .int .u8 69, .int .u8 (x % 256), .int .u8 (x / 256), .int .u8 (y % 256), .int .u8 (y / 256)] 5)) w.heap.size 22 22 5 i 1 Ybaf.underlying22 hi hz1 w.heap.size 0 (8 + n) [] ho1'
    ⟨w1.heap.size, 0, none⟩ 8 8 ((eightOf x y).map (Value.int .u8)) rfl (fun j u hj => by
      have hplain : (⟨w1.heap.size, 0, none⟩ : Addr).add j = ⟨w1.heap.size, 0 + j, none⟩ := by unfold Addr.add; split <;> simp_all
      have hw : (w1.alloc (.cells #[.int .u8 76, .int .u8 79, .int .u8 68, .int .u8 69, .int .u8 (x % 256), .int .u8 (x / 256), .int .u8 (y % 256), .int .u8 (y / 256)] 5)).heap[w1.heap.size]? = some (.cells #[.int .u8 76, .int .u8 79, .int .u8 68, .int .u8 69, .int .u8 (x % 256), .int .u8 (x / 256), .int .u8 (y % 256), .int .u8 (y / 256)] 5 (0, 0)) := by
        show (w1.heap.push _)[w1.heap.size]? = _
        simp
      rw [hplain, Nat.zero_add, cell_of_row _ _ _ _ _ _ hw]
      rw [← hj]
      simp [eightOf]) (ints_oneCell _ _) (by omega)
  have B2 : Below w.heap.size w w2 := Below.grown B1' hg2 B1'.size (fun k hk => by cases hk; exact Nat.le_refl _)
  simp only [Nat.zero_add, List.nil_append] at hr2 ho2
  have last : ∃ (w3 : World) (us : List Int), (Builtin.append_ #[22, 22] 22 #[.slice (some ⟨w.heap.size, 0, none⟩) 8 (8 + n), .slice p n c]).run Ybaf.prog w2 = .ok (.slice (some ⟨w.heap.size, 0, none⟩) (8 + n) (8 + n)) w3 ∧
      w3.ownsRow w.heap.size 5 1 (.slice (some ⟨w.heap.size, 0, none⟩) (8 + n) (8 + n)) (8 + n) ((eightOf x y).map (Value.int .u8) ++ us.map (Value.int .u8)) ∧ Below w.heap.size w w3 ∧ us.length = n ∧ ∀ z ∈ us, 0 ≤ z ∧ z ≤ 255 := by
    cases p with
    | none =>
      obtain ⟨rfl, rfl⟩ := hp rfl
      have hr3 := run_append_owned_none (P := Ybaf.prog) w2 w.heap.size 22 22 5 i 1 Ybaf.underlying22 hi _ 8 _ ho2
      exact ⟨w2, [], hr3, by simpa using ho2, B2, rfl, by simp⟩
    | some a =>
      obtain ⟨us, hul, huc, hur⟩ : ∃ us : List Int, us.length = n ∧ (∀ j u, (us.map (Value.int .u8))[j]? = some u → w2.cell? (a.add j) = some u) ∧ ∀ z ∈ us, 0 ≤ z ∧ z ≤ 255 := by
        rcases hB with rfl | ⟨g, o, e, hl, hz, hr⟩
        · exact ⟨[], rfl, by simp, by simp⟩
        · obtain rfl := Option.some.inj e
          refine ⟨ts, hl, fun j u hj => ?_, hr⟩
          have hjl : j < ts.length := by
            rcases Nat.lt_or_ge j ts.length with h | h
            · exact h
            · simp [List.getElem?_eq_none (show (ts.map (Value.int .u8)).length ≤ j by simpa using h)] at hj
          have hplain : (⟨g, o, none⟩ : Addr).add j = ⟨g, o + j, none⟩ := by unfold Addr.add; split <;> simp_all
          have hcj := hz j (by omega)
          rw [hplain, later_cell B2 (World.block_lt_of_cell? _ _ hcj) hcj]
          simp [List.getElem?_eq_getElem hjl] at hj
          subst hj
          simp [List.getD, List.getElem?_eq_getElem hjl]
      obtain ⟨w3, hr3, ho3, hg3⟩ := run_append_fits (P := Ybaf.prog) w2 w.heap.size 22 22 5 i 1 Ybaf.underlying22 hi hz1 w.heap.size 8 (8 + n) _ ho2 a n c (us.map (Value.int .u8)) (by simpa using hul) huc (ints_oneCell _ _) (Nat.le_refl _)
      exact ⟨w3, us, hr3, ho3, Below.grown B2 hg3 B2.size (fun k hk => by cases hk; exact Nat.le_refl _), hul, hur⟩
  obtain ⟨w3, us, hr3, ho3, B3, hul, hur⟩ := last
  refine ⟨w1, w2, w3, eightOf x y ++ us, hr1, hr2, hr3, by simpa using ho3, B3, by simp [eightOf, hul]; omega, fun z hz => ?_, rfl⟩
  rcases List.mem_append.1 hz with hz | hz
  · simp only [eightOf, List.mem_cons, List.not_mem_nil, or_false] at hz
    omega
  · exact hur z hz

/-- An append whose run is known. -/
theorem wpList_append_run {P : Program} {w w' : World} {ops : Array Oper} {rest : List Oper} {o : Oper} {a : Act} {Q : Exit → Act → World → Prop} (hg : o.guard = none) (s x : Operand) (t : TypeId)
    (hop : o.op = Op.call { callee := Callee.builtin Builtin.append, args := #[s, x], argTypes := #[t, t] }) (vs vx v' : Value) (hs : a.eval s = vs) (hx : a.eval x = vx)
    (hrun : (Builtin.append_ #[t, t] o.type #[vs, vx]).run P w = .ok v' w') (hK : wpList P ops Q rest (a.put o.dst v') w') : wpList P ops Q (o :: rest) a w := by
  refine wpList_plain hg fun K hK' => ?_
  unfold Oper.wp
  simp [execOp, hop, resolve, invoke, builtin, hs, hx, hrun, Result.andThen]
  exact hK' _ _ hK

/-- The first k bytes of a row of its own. -/
theorem byts_own {w : World} {base B N cap k : Nat} {zs : List Int} (h : w.ownsRow base 5 1 (.slice (some ⟨B, 0, none⟩) N cap) N (zs.map (Value.int .u8))) (hl : zs.length = N) (hr : ∀ z ∈ zs, 0 ≤ z ∧ z ≤ 255) (hk : k ≤ N) :
    Byts w (some ⟨B, 0, none⟩) k (zs.take k) := by
  refine Or.inr ⟨B, 0, rfl, by rw [List.length_take]; omega, fun i hi => ?_, fun z hz => hr z (List.mem_of_mem_take hz)⟩
  rw [Nat.zero_add, h.cellAt i (by omega)]
  have hil : i < zs.length := by omega
  simp [List.getD, hi, List.getElem?_eq_getElem hil]

set_option maxHeartbeats 400000 in
theorem built_long (x y z : Int) (p : Option Addr) (n c : Nat) (w : World) (h : 1024 < n) :
    Calls Ybaf.prog 4 #[.int .u16 x, .int .u16 y, .slice p n c, .int .u8 z] w fun e w' => e = .returned (.bool true) ∧ Below w.heap.size w w' := by
  go_enter Ybaf.func4, Ybaf.ntmps4
  go_wp2
  go_ret
  exact ⟨rfl, Below.refl _ _⟩

section
variable (x y z : Int) (p : Option Addr) (n c : Nat) (ts : List Int) (a0 a1 : Addr) (s : ByteArray) (ca0 ca1 : Array Value) (t0 t1 : TypeId) (w : World)

set_option maxHeartbeats 400000 in
theorem built_cut (h : n ≤ 1024) (bx : 0 ≤ x ∧ x ≤ 65535) (by' : 0 ≤ y ∧ y ≤ 65535) (bz : 0 ≤ z ∧ z ≤ 255) (hp : p = none → n = 0 ∧ c = 0) (hB : Byts w p n ts) (S : Sent w a0 a1 s ca0 ca1 t0 t1) (h3 : (z % 3 == 0) = true) :
    Calls Ybaf.prog 4 #[.int .u16 x, .int .u16 y, .slice p n c, .int .u8 z] w fun e w' => e = .returned (.bool true) ∧ Below w.heap.size w w' := by
  obtain ⟨w1, w2, w3, zs, hr1, hr2, hr3, ho3, B3, hzl, hzr, h4⟩ := built_prep x y p n c ts w h bx by' hp hB
  have HO : Hid (w3.ownsRow w.heap.size 5 1 (.slice (some ⟨w.heap.size, 0, none⟩) (8 + n) (8 + n)) (8 + n) (zs.map (Value.int .u8))) := ho3
  have HZ : Hid (zs.length = 8 + n) := hzl
  have HR : Hid (∀ z ∈ zs, 0 ≤ z ∧ z ≤ 255) := hzr
  clear ho3 h4 hzl hzr
  go_enter Ybaf.func4, Ybaf.ntmps4
  go_wp2_with (at_builtin; first | refine wpList_append_run rfl (.tmp 17) (.tmp 28) 22 rfl _ _ _ rfl rfl hr2 ?_ | refine wpList_append_run rfl (.tmp 30) (.tmp 31) 22 rfl _ _ _ rfl rfl hr3 ?_)
  refine (check_any _ _ _ _ a0 a1 s ca0 ca1 t0 t1 w3 (by omega) (S.later B3) (byts_own HO.out HZ.out HR.out (by omega))).mono ?_
  rintro e w4 ⟨rfl, hb4⟩
  go_wp2
  go_ret
  exact ⟨rfl, B3.trans (hb4.mono B3.size)⟩

set_option maxHeartbeats 400000 in
theorem built_whole (h : n ≤ 1024) (bx : 0 ≤ x ∧ x ≤ 65535) (by' : 0 ≤ y ∧ y ≤ 65535) (bz : 0 ≤ z ∧ z ≤ 255) (hp : p = none → n = 0 ∧ c = 0) (hB : Byts w p n ts) (S : Sent w a0 a1 s ca0 ca1 t0 t1) (h3 : (z % 3 == 0) = false) (h5 : (z % 5 == 1) = false) :
    Calls Ybaf.prog 4 #[.int .u16 x, .int .u16 y, .slice p n c, .int .u8 z] w fun e w' => e = .returned (.bool true) ∧ Below w.heap.size w w' := by
  obtain ⟨w1, w2, w3, zs, hr1, hr2, hr3, ho3, B3, hzl, hzr, h4⟩ := built_prep x y p n c ts w h bx by' hp hB
  have HO : Hid (w3.ownsRow w.heap.size 5 1 (.slice (some ⟨w.heap.size, 0, none⟩) (8 + n) (8 + n)) (8 + n) (zs.map (Value.int .u8))) := ho3
  have HZ : Hid (zs.length = 8 + n) := hzl
  have HR : Hid (∀ z ∈ zs, 0 ≤ z ∧ z ≤ 255) := hzr
  clear ho3 h4 hzl hzr
  go_enter Ybaf.func4, Ybaf.ntmps4
  go_wp2_with (at_builtin; first | refine wpList_append_run rfl (.tmp 17) (.tmp 28) 22 rfl _ _ _ rfl rfl hr2 ?_ | refine wpList_append_run rfl (.tmp 30) (.tmp 31) 22 rfl _ _ _ rfl rfl hr3 ?_)
  refine (check_any _ _ _ _ a0 a1 s ca0 ca1 t0 t1 w3 (by omega) (S.later B3) (byts_own HO.out HZ.out HR.out (Nat.le_refl _))).mono ?_
  rintro e w4 ⟨rfl, hb4⟩
  go_wp2
  go_ret
  exact ⟨rfl, B3.trans (hb4.mono B3.size)⟩

/-- One letter of the magic spoiled. -/
theorem spoiled (x : Int) (hx : x = 76 ∨ x = 79 ∨ x = 68 ∨ x = 69) : 0 ≤ bits .xor .u8 x 32 ∧ bits .xor .u8 x 32 ≤ 255 := by
  rcases hx with rfl | rfl | rfl | rfl <;> decide

set_option maxHeartbeats 400000 in
theorem built_spoilt (j : Nat) (zj : Int) (h : n ≤ 1024) (bx : 0 ≤ x ∧ x ≤ 65535) (by' : 0 ≤ y ∧ y ≤ 65535) (bz : 0 ≤ z ∧ z ≤ 255) (hp : p = none → n = 0 ∧ c = 0) (hB : Byts w p n ts) (S : Sent w a0 a1 s ca0 ca1 t0 t1) (h3 : (z % 3 == 0) = false) (h5 : (z % 5 == 1) = true) (hj : j < 4) (hi : z / 5 % 4 = (j : Int)) (hzj : [76, 79, 68, 69][j]? = some zj) :
    Calls Ybaf.prog 4 #[.int .u16 x, .int .u16 y, .slice p n c, .int .u8 z] w fun e w' => e = .returned (.bool true) ∧ Below w.heap.size w w' := by
  obtain ⟨w1, w2, w3, zs, hr1, hr2, hr3, ho3, B3, hzl, hzr, h4⟩ := built_prep x y p n c ts w h bx by' hp hB
  have HO : Hid (w3.ownsRow w.heap.size 5 1 (.slice (some ⟨w.heap.size, 0, none⟩) (8 + n) (8 + n)) (8 + n) (zs.map (Value.int .u8))) := ho3
  have HZ : Hid (zs.length = 8 + n) := hzl
  have HR : Hid (∀ z ∈ zs, 0 ≤ z ∧ z ≤ 255) := hzr
  have hc : w3.cell? ⟨w.heap.size, j, none⟩ = some (.int .u8 zj) := by
    rw [ho3.cellAt j (by omega)]
    have e : (zs.take 4)[j]? = some zj := by rw [h4]; exact hzj
    rw [List.getElem?_take, if_pos hj] at e
    simp [e]
  have hf : w3.frozen? ⟨w.heap.size, j, none⟩ = false := ho3.frozenAt j
  have hb : 0 ≤ bits .xor .u8 zj 32 ∧ bits .xor .u8 zj 32 ≤ 255 := spoiled zj (by
    match j, hj, hzj with
    | 0, _, h => exact Or.inl (Option.some.inj h).symm
    | 1, _, h => exact Or.inr (Or.inl (Option.some.inj h).symm)
    | 2, _, h => exact Or.inr (Or.inr (Or.inl (Option.some.inj h).symm))
    | 3, _, h => exact Or.inr (Or.inr (Or.inr (Option.some.inj h).symm)))
  have HH : Hid (0 ≤ bits .xor .u8 zj 32 ∧ bits .xor .u8 zj 32 ≤ 255) := hb
  clear ho3 h4 hzl hzr hzj hb
  go_enter Ybaf.func4, Ybaf.ntmps4
  go_wp2_with (at_builtin; first | refine wpList_append_run rfl (.tmp 17) (.tmp 28) 22 rfl _ _ _ rfl rfl hr2 ?_ | refine wpList_append_run rfl (.tmp 30) (.tmp 31) 22 rfl _ _ _ rfl rfl hr3 ?_)
  obtain ⟨ho4, hg4⟩ := HO.out.stored j (.int .u8 (bits .xor .u8 zj 32))
  rw [← List.map_set] at ho4
  have B4 : Below w.heap.size w (w3.setCell ⟨w.heap.size, j, none⟩ (.int .u8 (bits .xor .u8 zj 32))) := Below.grown B3 hg4 B3.size (fun k hk => by cases hk; exact Nat.le_refl _)
  refine (check_any _ _ _ _ a0 a1 s ca0 ca1 t0 t1 _ (by omega) (S.later B4) (byts_own ho4 (by rw [List.length_set]; exact HZ.out) (fun z hz => (List.mem_or_eq_of_mem_set hz).elim (HR.out z) (fun e => by rw [e]; exact HH.out)) (Nat.le_refl _))).mono ?_
  rintro e w4 ⟨rfl, hb4⟩
  clear ho4 hg4
  go_wp2
  go_ret
  exact ⟨rfl, B4.trans (hb4.mono B4.size)⟩

theorem built_any (bx : 0 ≤ x ∧ x ≤ 65535) (by' : 0 ≤ y ∧ y ≤ 65535) (bz : 0 ≤ z ∧ z ≤ 255) (hp : p = none → n = 0 ∧ c = 0) (hB : Byts w p n ts) (S : Sent w a0 a1 s ca0 ca1 t0 t1) :
    Calls Ybaf.prog 4 #[.int .u16 x, .int .u16 y, .slice p n c, .int .u8 z] w fun e w' => e = .returned (.bool true) ∧ Below w.heap.size w w' := by
  by_cases h : 1024 < n
  · exact built_long x y z p n c w h
  have h' : n ≤ 1024 := by omega
  cases h3 : (z % 3 == 0) with
  | true => exact built_cut x y z p n c ts a0 a1 s ca0 ca1 t0 t1 w h' bx by' bz hp hB S h3
  | false =>
    cases h5 : (z % 5 == 1) with
    | false => exact built_whole x y z p n c ts a0 a1 s ca0 ca1 t0 t1 w h' bx by' bz hp hB S h3 h5
    | true =>
      have hj : z / 5 % 4 = 0 ∨ z / 5 % 4 = 1 ∨ z / 5 % 4 = 2 ∨ z / 5 % 4 = 3 := by omega
      rcases hj with hj | hj | hj | hj
      · exact built_spoilt x y z p n c ts a0 a1 s ca0 ca1 t0 t1 w 0 76 h' bx by' bz hp hB S h3 h5 (by omega) hj rfl
      · exact built_spoilt x y z p n c ts a0 a1 s ca0 ca1 t0 t1 w 1 79 h' bx by' bz hp hB S h3 h5 (by omega) hj rfl
      · exact built_spoilt x y z p n c ts a0 a1 s ca0 ca1 t0 t1 w 2 68 h' bx by' bz hp hB S h3 h5 (by omega) hj rfl
      · exact built_spoilt x y z p n c ts a0 a1 s ca0 ca1 t0 t1 w 3 69 h' bx by' bz hp hB S h3 h5 (by omega) hj rfl
end
end Go.Proofs.YbulkcfxuFmt
