/-
  LawS4105BBytes, walked.
-/
import Derived.Test.YbulkcfzkNodes
import Derived.Deep.WholeRow
import Derived.ChangeKeysEq
namespace Go.Proofs.Ybulkcfzk
open Go.RowKit Go.Stop

def cellsU8 (zs : List Int) : Array Value := (zs.map (Value.int .u8)).toArray

theorem list20 (l : List Int) (h : l.length = 20) : ∃ a0 a1 a2 a3 a4 a5 a6 a7 a8 a9 a10 a11 a12 a13 a14 a15 a16 a17 a18 a19, l = [a0, a1, a2, a3, a4, a5, a6, a7, a8, a9, a10, a11, a12, a13, a14, a15, a16, a17, a18, a19] := by
  match l, h with
  | [a0, a1, a2, a3, a4, a5, a6, a7, a8, a9, a10, a11, a12, a13, a14, a15, a16, a17, a18, a19], _ => exact ⟨_, _, _, _, _, _, _, _, _, _, _, _, _, _, _, _, _, _, _, _, rfl⟩

theorem wpList_load_run {P : Program} {w : World} {ops : Array Oper} {rest : List Oper} {o : Oper} {a : Act} {Q : Exit → Act → World → Prop} (hg : Region.wanted o (yielded ops a.tmps) = true) (s : Operand) (t : TypeId)
    (hop : o.op = Op.load t s) (vs v' : Value) (hs : a.eval s = vs)
    (hrun : (Instr.loadAt t vs).run P w = .ok v' w) (hK : wpList P ops Q rest (a.put o.dst v') w) : wpList P ops Q (o :: rest) a w := by
  refine wpList_step fun K hK' => ?_
  rw [if_pos hg]
  unfold Oper.wp
  simp [execOp, hop, hs, hrun, Result.andThen]
  exact hK' _ _ hK

theorem wpList_store_run {P : Program} {w w' : World} {ops : Array Oper} {rest : List Oper} {o : Oper} {a : Act} {Q : Exit → Act → World → Prop} (hg : Region.wanted o (yielded ops a.tmps) = true) (s x : Operand) (t : TypeId)
    (hop : o.op = Op.store t s x) (vs vx : Value) (hs : a.eval s = vs) (hx : a.eval x = vx)
    (hrun : (Instr.storeAt t vs vx).run P w = .ok () w') (hK : wpList P ops Q rest (a.put o.dst undef) w') : wpList P ops Q (o :: rest) a w := by
  refine wpList_step fun K hK' => ?_
  rw [if_pos hg]
  unfold Oper.wp
  simp [execOp, hop, hs, hx, hrun, Result.andThen]
  exact hK' _ _ hK

theorem wpList_eql_run {P : Program} {w : World} {ops : Array Oper} {rest : List Oper} {o : Oper} {a : Act} {Q : Exit → Act → World → Prop} (hg : Region.wanted o (yielded ops a.tmps) = true) (x y : Operand) (t : TypeId)
    (hop : o.op = Op.binOp .eql t x y t) (cx cy : Array Value) (v' : Value) (hx : a.eval x = .agg cx) (hy : a.eval y = .agg cy) (hm : P.eqGuardType P.depth t = false)
    (hrun : (binOp .eql t (.agg cx) (.agg cy)).run P w = .ok v' w) (hK : wpList P ops Q rest (a.put o.dst v') w) : wpList P ops Q (o :: rest) a w := by
  refine wpList_step fun K hK' => ?_
  rw [if_pos hg]
  unfold Oper.wp
  have hgd := run_eqGuard_agg (P := P) w .eql t x y cx cy hm
  simp only [execOp, hop, hx, hy, hgd, Sem.run_bind, Result.andThen]
  rw [hrun]
  simp
  exact hK' _ _ hK

theorem Yba.info5 : (Yba.prog.info? 5).isSome = true := by kernel_rfl
theorem Yba.cells5 : Yba.prog.cellsOf 5 = 1 := by kernel_rfl
theorem Yba.cells61 : Yba.prog.cellsOf 61 = 20 := by kernel_rfl
theorem Yba.size61 : (Yba.prog.info? 61).map (·.size) = some 20 := by kernel_rfl
theorem Yba.size62 : (Yba.prog.info? 62).map (·.size) = some 20 := by kernel_rfl
theorem Yba.plain5 : Yba.prog.plainKey 5 = true := by kernel_rfl

theorem size_cellsU8 (zs : List Int) : (cellsU8 zs).size = zs.length := by simp [cellsU8]
theorem get_cellsU8 (zs : List Int) (i : Nat) (h : i < zs.length) : (cellsU8 zs)[i]? = some (.int .u8 (zs.getD i 0)) := by
  simp [cellsU8, List.getD_eq_getElem?_getD, List.getElem?_eq_getElem h]

theorem eq_int (d : Nat) (x : Int) (w : World) : (Op.equalIn (d + 1) 5 (.int .u8 x) (.int .u8 x)).run Yba.prog w = .ok true w := by
  simp [Op.equalIn, run_underlying Yba.underlying5]

/-- '==' of an array of bytes with itself. -/
theorem run_eql_self (zs : List Int) (w : World) (h : zs.length = 20) : (binOp .eql 62 (.agg (cellsU8 zs)) (.agg (cellsU8 zs))).run Yba.prog w = .ok (.bool true) w := by
  obtain ⟨i5, hi5⟩ := Option.isSome_iff_exists.1 Yba.info5
  have hitems : ∀ (is : List Nat), (∀ i ∈ is, i < 20) → (Op.eqItems 9999 5 (Yba.prog.cellsOf 5) (cellsU8 zs) (cellsU8 zs) is).run Yba.prog w = .ok true w := by
    intro is
    induction is with
    | nil => intro _; simp [Op.eqItems]
    | cons i is ih =>
      intro hall
      have hp := run_part_plain w Yba.plain5 (get_cellsU8 zs i (by rw [h]; exact hall i (by simp)))
      have hq : (Op.equalIn 9999 5 (.int .u8 (zs.getD i 0)) (.int .u8 (zs.getD i 0))).run Yba.prog w = .ok true w := eq_int 9998 _ w
      simp only [Op.eqItems, Yba.cells5, Nat.mul_one, Sem.run_bind, hp, hq, Result.andThen]
      have := ih (fun j hj => hall j (List.mem_cons_of_mem _ hj))
      rw [Yba.cells5] at this
      simpa using this
  rw [run_eql_struct]
  rw [run_equalIn_array w 9999 (cellsU8 zs) (cellsU8 zs) Yba.underlying62 hi5, hitems _ (fun i hi => by simpa using hi)]
  rfl

theorem run_loadAt_row {w : World} {b : Nat} {zs : List Int} {t t' : TypeId} (hg : w.heap[b]? = some (.cells (cellsU8 zs) t')) (hu : Yba.prog.underlying t = some (.array 20 5)) (hi : (Yba.prog.info? t).map (·.size) = some 20) (h : zs.length = 20) :
    (Instr.loadAt t (.pointer (some ⟨b, 0, none⟩))).run Yba.prog w = .ok (.agg (cellsU8 zs)) w := by
  simp only [Instr.loadAt, Instr.sureAddr, Sem.run_bind, Sem.run_pure, Result.andThen]
  exact run_loadVar_row w b t' t (cellsU8 zs) (0, 0) _ hg hu rfl (by rw [hi, size_cellsU8, h])

def zero20 : Array Value := #[.int .u8 0, .int .u8 0, .int .u8 0, .int .u8 0, .int .u8 0, .int .u8 0, .int .u8 0, .int .u8 0, .int .u8 0, .int .u8 0, .int .u8 0, .int .u8 0, .int .u8 0, .int .u8 0, .int .u8 0, .int .u8 0, .int .u8 0, .int .u8 0, .int .u8 0, .int .u8 0]

theorem run_storeAt_row (w : World) (zs : List Int) (b : Nat) (hb : b = w.heap.size) (h : zs.length = 20) :
    (Instr.storeAt 62 (.pointer (some ⟨b, 0, none⟩)) (.agg (cellsU8 zs))).run Yba.prog (w.alloc (.cells zero20 62)) = .ok () (w.alloc (.cells (cellsU8 zs) 62)) := by
  subst hb
  exact run_storeAt_new w 62 zero20 (cellsU8 zs) (by rw [Yba.size62, size_cellsU8, h]) (by rw [size_cellsU8, h]; rfl) (by simp [cellsU8, Value.oneCell'])

theorem arr_of_row {w : World} {b : Nat} {zs : List Int} {t : TypeId} (hg : w.heap[b]? = some (.cells (cellsU8 zs) t)) (h : zs.length = 20) (hb : Byt zs) : Arr w b zs :=
  ⟨h, hb, fun i hi => by rw [cell_of_row w b i _ _ _ hg, get_cellsU8 zs i (by rw [h]; exact hi)]⟩

theorem heap_old {w : World} {o : Obj} {k : Nat} {x : Obj} (h : w.heap[k]? = some x) : (w.alloc o).heap[k]? = some x := by
  have hk : k < w.heap.size := (Array.getElem?_eq_some_iff.1 h).1
  rw [Below.heap_alloc w o k hk, h]
theorem heap_new {w : World} {o : Obj} {k : Nat} (h : k = w.heap.size) : (w.alloc o).heap[k]? = some o := by
  subst h
  exact heap_alloc_last w o

set_option maxHeartbeats 400000 in
theorem bytes_any (xs ys : List Int) (w : World) (hx : xs.length = 20) (hy : ys.length = 20) (bx : Byt xs) (by' : Byt ys) :
    Calls Yba.prog 5 #[.agg (cellsU8 xs), .agg (cellsU8 ys)] w fun e w' => e = .returned (.bool true) ∧ Below w.heap.size w w' := by
  obtain ⟨W1, e1⟩ : ∃ W1, W1 = (w.alloc (.cells (cellsU8 xs) 61)).alloc (.cells (cellsU8 ys) 61) := ⟨_, rfl⟩
  have s1 : W1.heap.size = w.heap.size + 2 := by rw [e1]; simp
  have g0 : W1.heap[w.heap.size]? = some (.cells (cellsU8 xs) 61) := by rw [e1]; exact heap_old (heap_new rfl)
  have g1 : W1.heap[w.heap.size + 1]? = some (.cells (cellsU8 ys) 61) := by rw [e1]; exact heap_new (by simp)
  have B1 : Below w.heap.size w W1 := by rw [e1]; exact ((Below.refl _ w).alloc (Nat.le_refl _) _).alloc (by simp) _
  have l1 := run_loadAt_row (t := 61) g0 Yba.underlying61 Yba.size61 hx
  have st1 := run_storeAt_row W1 xs (w.heap.size + 2) s1.symm hx
  obtain ⟨W2, e2⟩ : ∃ W2, W2 = W1.alloc (.cells (cellsU8 xs) 62) := ⟨_, rfl⟩
  have s2 : W2.heap.size = w.heap.size + 3 := by rw [e2]; simp [s1]
  have p0 : W2.heap[w.heap.size]? = some (.cells (cellsU8 xs) 61) := by rw [e2]; exact heap_old g0
  have p1 : W2.heap[w.heap.size + 1]? = some (.cells (cellsU8 ys) 61) := by rw [e2]; exact heap_old g1
  have p2 : W2.heap[w.heap.size + 2]? = some (.cells (cellsU8 xs) 62) := by rw [e2]; exact heap_new s1.symm
  have B2 : Below w.heap.size w W2 := by rw [e2]; exact B1.alloc (by omega) _
  have l2 := run_loadAt_row (t := 61) p1 Yba.underlying61 Yba.size61 hy
  have st2 := run_storeAt_row W2 ys (w.heap.size + 3) s2.symm hy
  obtain ⟨W3, e3⟩ : ∃ W3, W3 = W2.alloc (.cells (cellsU8 ys) 62) := ⟨_, rfl⟩
  have s3 : W3.heap.size = w.heap.size + 4 := by rw [e3]; simp [s2]
  have q0 : W3.heap[w.heap.size]? = some (.cells (cellsU8 xs) 61) := by rw [e3]; exact heap_old p0
  have q1 : W3.heap[w.heap.size + 1]? = some (.cells (cellsU8 ys) 61) := by rw [e3]; exact heap_old p1
  have q2 : W3.heap[w.heap.size + 2]? = some (.cells (cellsU8 xs) 62) := by rw [e3]; exact heap_old p2
  have q3 : W3.heap[w.heap.size + 3]? = some (.cells (cellsU8 ys) 62) := by rw [e3]; exact heap_new s2.symm
  have B3 : Below w.heap.size w W3 := by rw [e3]; exact B2.alloc (by omega) _
  rw [← e2] at st1
  rw [← e3] at st2
  have HQ : Hid (W3.heap.size = w.heap.size + 4 ∧ W3.heap[w.heap.size]? = some (.cells (cellsU8 xs) 61) ∧ W3.heap[w.heap.size + 1]? = some (.cells (cellsU8 ys) 61) ∧ W3.heap[w.heap.size + 2]? = some (.cells (cellsU8 xs) 62) ∧ W3.heap[w.heap.size + 3]? = some (.cells (cellsU8 ys) 62) ∧ Below w.heap.size w W3) := ⟨s3, q0, q1, q2, q3, B3⟩
  clear s3 q0 q1 q2 q3 B3 p0 p1 p2 B2 g0 g1 B1 e2 e3
  have HX : Hid (xs.length = 20 ∧ ys.length = 20 ∧ Byt xs ∧ Byt ys) := ⟨hx, hy, bx, by'⟩
  clear bx by' hx hy
  have L1 := l1
  have HL : Hid ((Instr.loadAt 61 (.pointer (some ⟨w.heap.size, 0, none⟩))).run Yba.prog W1 = .ok (.agg (cellsU8 xs)) W1) := l1
  have HL2 : Hid ((Instr.loadAt 61 (.pointer (some ⟨w.heap.size + 1, 0, none⟩))).run Yba.prog W2 = .ok (.agg (cellsU8 ys)) W2) := l2
  have HS1 : Hid ((Instr.storeAt 62 (.pointer (some ⟨w.heap.size + 2, 0, none⟩)) (.agg (cellsU8 xs))).run Yba.prog (W1.alloc (.cells zero20 62)) = .ok () W2) := st1
  have HS2 : Hid ((Instr.storeAt 62 (.pointer (some ⟨w.heap.size + 3, 0, none⟩)) (.agg (cellsU8 ys))).run Yba.prog (W2.alloc (.cells zero20 62)) = .ok () W3) := st2
  clear l1 L1 l2 st1 st2
  go_enter Yba.func5, Yba.ntmps5
  go_wp2_with (first
    | refine wpList_load_run rfl (.tmp 2) 61 rfl (.pointer (some ⟨w.heap.size, 0, none⟩)) (.agg (cellsU8 xs)) rfl ?_ ?_
    | refine wpList_store_run (w' := W2) rfl (.tmp 5) (.tmp 8) 62 rfl (.pointer (some ⟨w.heap.size + 2, 0, none⟩)) (.agg (cellsU8 xs)) rfl rfl ?_ ?_
    | refine wpList_load_run rfl (.tmp 3) 61 rfl (.pointer (some ⟨w.heap.size + 1, 0, none⟩)) (.agg (cellsU8 ys)) rfl ?_ ?_
    | refine wpList_store_run (w' := W3) rfl (.tmp 6) (.tmp 9) 62 rfl (.pointer (some ⟨w.heap.size + 3, 0, none⟩)) (.agg (cellsU8 ys)) rfl rfl ?_ ?_)
  · rw [← e1]; exact HL.out
  · rw [← e1]; exact HS1.out
  · exact HL2.out
  · exact HS2.out
  clear HL HL2 HS1 HS2 e1 s1 s2
  obtain ⟨s3, q0, q1, q2, q3, B3⟩ := HQ.out
  have a5 : Arr W3 (w.heap.size + 2) xs := arr_of_row q2 HX.out.1 HX.out.2.2.1
  have a6 : Arr W3 (w.heap.size + 3) ys := arr_of_row q3 HX.out.2.1 HX.out.2.2.2
  refine (model_any (w.heap.size + 2) (w.heap.size + 3) xs ys W3 a5 a6).mono ?_
  rintro e w4 ⟨rfl, b4⟩
  have HA : Hid (Arr w4 (w.heap.size + 2) xs ∧ Arr w4 (w.heap.size + 3) ys ∧ Below W3.heap.size W3 w4) := ⟨a5.later b4 a5.lt, a6.later b4 a6.lt, b4⟩
  clear a5 a6 b4 q0 q1 q2 q3 B3 s3
  have h3 := lex_three xs ys
  have hn := lex_neg xs ys
  generalize hr : lex xs ys = r at *
  have HN : Hid (lex xs ys = r ∧ lex ys xs = - r ∧ lex xs xs = 0) := ⟨hr, hn, lex_self xs⟩
  clear hr hn
  go_wp2_with fail
  refine (compareNodes_any (w.heap.size + 2) (w.heap.size + 3) xs ys w4 HA.out.1 HA.out.2.1).mono ?_
  rw [HN.out.1]
  rintro e w5 ⟨rfl, b5⟩
  have HB : Hid (Arr w5 (w.heap.size + 2) xs ∧ Arr w5 (w.heap.size + 3) ys ∧ Below W3.heap.size W3 w5) := ⟨HA.out.1.later b5 HA.out.1.lt, HA.out.2.1.later b5 HA.out.2.1.lt, HA.out.2.2.trans (b5.mono HA.out.2.2.size)⟩
  clear b5 HA
  go_wp2_with fail
  refine (compareNodes_any (w.heap.size + 3) (w.heap.size + 2) ys xs w5 HB.out.2.1 HB.out.1).mono ?_
  rw [HN.out.2.1]
  rintro e w6 ⟨rfl, b6⟩
  have HC : Hid (Arr w6 (w.heap.size + 2) xs ∧ Below W3.heap.size W3 w6) := ⟨HB.out.1.later b6 HB.out.1.lt, HB.out.2.2.trans (b6.mono HB.out.2.2.size)⟩
  clear b6 HB
  have t1 : (-r != -r) = false := by simp
  have t2 : IntKind.i64.wrap (-r) = -r := by rcases h3 with rfl | rfl | rfl <;> rfl
  go_wp2_with fail
  refine (compareNodes_any (w.heap.size + 2) (w.heap.size + 2) xs xs w6 HC.out.1 HC.out.1).mono ?_
  rw [HN.out.2.2]
  rintro e w7 ⟨rfl, b7⟩
  have bb : Below W3.heap.size W3 w7 := HC.out.2.trans (b7.mono HC.out.2.size)
  obtain ⟨s3, q0, q1, q2, q3, B3⟩ := HQ.out
  have l5 := run_loadAt_row (t := 62) ((bb.block _ (by omega)).trans q2) Yba.underlying62 Yba.size62 HX.out.1
  have l2 := run_loadAt_row (t := 61) ((bb.block _ (by omega)).trans q0) Yba.underlying61 Yba.size61 HX.out.1
  have l6 := run_loadAt_row (t := 62) ((bb.block _ (by omega)).trans q3) Yba.underlying62 Yba.size62 HX.out.2.1
  have l3 := run_loadAt_row (t := 61) ((bb.block _ (by omega)).trans q1) Yba.underlying61 Yba.size61 HX.out.2.1
  have hq1 := run_eql_self xs w7 HX.out.1
  have hq2 := run_eql_self ys w7 HX.out.2.1
  have HZ : Hid (Below w.heap.size w w7) := B3.trans (bb.mono (by omega))
  clear HC b7 bb s3 q0 q1 q2 q3 B3 HQ HN
  have HL5 : Hid ((Instr.loadAt 62 (.pointer (some ⟨w.heap.size + 2, 0, none⟩))).run Yba.prog w7 = .ok (.agg (cellsU8 xs)) w7) := l5
  have HL2 : Hid ((Instr.loadAt 61 (.pointer (some ⟨w.heap.size, 0, none⟩))).run Yba.prog w7 = .ok (.agg (cellsU8 xs)) w7) := l2
  have HL6 : Hid ((Instr.loadAt 62 (.pointer (some ⟨w.heap.size + 3, 0, none⟩))).run Yba.prog w7 = .ok (.agg (cellsU8 ys)) w7) := l6
  have HL3 : Hid ((Instr.loadAt 61 (.pointer (some ⟨w.heap.size + 1, 0, none⟩))).run Yba.prog w7 = .ok (.agg (cellsU8 ys)) w7) := l3
  have HE1 : Hid ((binOp .eql 62 (.agg (cellsU8 xs)) (.agg (cellsU8 xs))).run Yba.prog w7 = .ok (.bool true) w7) := hq1
  have HE2 : Hid ((binOp .eql 62 (.agg (cellsU8 ys)) (.agg (cellsU8 ys))).run Yba.prog w7 = .ok (.bool true) w7) := hq2
  clear l5 l2 l6 l3 hq1 hq2
  go_wp2_with (first
    | refine wpList_load_run rfl (.tmp 5) 62 rfl (.pointer (some ⟨w.heap.size + 2, 0, none⟩)) (.agg (cellsU8 xs)) rfl HL5.out ?_
    | refine wpList_load_run rfl (.tmp 2) 61 rfl (.pointer (some ⟨w.heap.size, 0, none⟩)) (.agg (cellsU8 xs)) rfl HL2.out ?_
    | refine wpList_load_run rfl (.tmp 6) 62 rfl (.pointer (some ⟨w.heap.size + 3, 0, none⟩)) (.agg (cellsU8 ys)) rfl HL6.out ?_
    | refine wpList_load_run rfl (.tmp 3) 61 rfl (.pointer (some ⟨w.heap.size + 1, 0, none⟩)) (.agg (cellsU8 ys)) rfl HL3.out ?_
    | refine wpList_eql_run rfl (.tmp 20) (.tmp 21) 62 rfl (cellsU8 xs) (cellsU8 xs) (.bool true) rfl rfl Yba.eqGuardType62 HE1.out ?_
    | refine wpList_eql_run rfl (.tmp 24) (.tmp 25) 62 rfl (cellsU8 ys) (cellsU8 ys) (.bool true) rfl rfl Yba.eqGuardType62 HE2.out ?_)
  go_ret
  exact ⟨rfl, HZ.out⟩
end Go.Proofs.Ybulkcfzk
