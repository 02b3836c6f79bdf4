/-
  LawS4105BOneByte, walked.
-/
import Derived.Test.YbulkcfzkBytes
namespace Go.Proofs.Ybulkcfzk
open Go.RowKit Go.Stop

theorem set_byt {xs : List Int} {v : Int} (h : Byt xs) (hv : 0 ≤ v ∧ v ≤ 255) (j : Nat) : Byt (xs.set j v) := fun z hz => by
  rcases List.mem_or_eq_of_mem_set hz with h' | rfl
  · exact h z h'
  · exact hv

theorem arr_set {w : World} {b j : Nat} {xs : List Int} {t : TypeId} {v : Int} (hg : w.heap[b]? = some (.cells (cellsU8 xs) t)) (h : xs.length = 20) (hb : Byt xs) (hv : 0 ≤ v ∧ v ≤ 255) (hj : j < 20) :
    Arr (w.setCell ⟨b, j, none⟩ (.int .u8 v)) b (xs.set j v) := by
  have ha := arr_of_row hg h hb
  refine ⟨by simp [h], set_byt hb hv j, fun i hi => ?_⟩
  by_cases e : i = j
  · subst e
    rw [World.cell?_setCell_same _ _ _ (ha.at' i hi)]
    simp [List.getD_eq_getElem?_getD, h, hi]
  · rw [World.cell?_setCell_other _ _ _ _ (by intro h'; apply e; exact (congrArg Addr.off h').symm), ha.at' i hi]
    simp [List.getD_eq_getElem?_getD, show ¬ j = i from fun h' => e h'.symm]

set_option maxHeartbeats 400000 in
set_option maxRecDepth 100000 in
theorem one_any (xs : List Int) (k v : Int) (w : World) (hx : xs.length = 20) (bx : Byt xs) (hk : 0 ≤ k ∧ k ≤ 255) (hv : 0 ≤ v ∧ v ≤ 255) :
    Calls Yba.prog 6 #[.agg (cellsU8 xs), .int .u8 k, .int .u8 v] w fun e w' => e = .returned (.bool true) ∧ Below w.heap.size w w' := by
  obtain ⟨W1, e1⟩ : ∃ W1, W1 = w.alloc (.cells (cellsU8 xs) 61) := ⟨_, rfl⟩
  have s1 : W1.heap.size = w.heap.size + 1 := by rw [e1]; simp
  have g0 : W1.heap[w.heap.size]? = some (.cells (cellsU8 xs) 61) := by rw [e1]; exact heap_new rfl
  have B1 : Below w.heap.size w W1 := by rw [e1]; exact (Below.refl _ w).alloc (Nat.le_refl _) _
  have l1 := run_loadAt_row (t := 61) g0 Yba.underlying61 Yba.size61 hx
  have st1 := run_storeAt_row W1 xs (w.heap.size + 1) s1.symm hx
  obtain ⟨W2, e2⟩ : ∃ W2, W2 = W1.alloc (.cells (cellsU8 xs) 62) := ⟨_, rfl⟩
  have s2 : W2.heap.size = w.heap.size + 2 := by rw [e2]; simp [s1]
  have p0 : W2.heap[w.heap.size]? = some (.cells (cellsU8 xs) 61) := by rw [e2]; exact heap_old g0
  have p1 : W2.heap[w.heap.size + 1]? = some (.cells (cellsU8 xs) 62) := by rw [e2]; exact heap_new s1.symm
  have B2 : Below w.heap.size w W2 := by rw [e2]; exact B1.alloc (by omega) _
  have l2 := run_loadAt_row (t := 62) p1 Yba.underlying62 Yba.size62 hx
  have st2 := run_storeAt_row W2 xs (w.heap.size + 2) s2.symm hx
  obtain ⟨W3, e3⟩ : ∃ W3, W3 = W2.alloc (.cells (cellsU8 xs) 62) := ⟨_, rfl⟩
  have s3 : W3.heap.size = w.heap.size + 3 := by rw [e3]; simp [s2]
  have q0 : W3.heap[w.heap.size]? = some (.cells (cellsU8 xs) 61) := by rw [e3]; exact heap_old p0
  have q1 : W3.heap[w.heap.size + 1]? = some (.cells (cellsU8 xs) 62) := by rw [e3]; exact heap_old p1
  have q2 : W3.heap[w.heap.size + 2]? = some (.cells (cellsU8 xs) 62) := by rw [e3]; exact heap_new s2.symm
  have B3 : Below w.heap.size w W3 := by rw [e3]; exact B2.alloc (by omega) _
  rw [← e2] at st1
  rw [← e3] at st2
  have HQ : Hid (W3.heap.size = w.heap.size + 3 ∧ W3.heap[w.heap.size]? = some (.cells (cellsU8 xs) 61) ∧ W3.heap[w.heap.size + 1]? = some (.cells (cellsU8 xs) 62) ∧ W3.heap[w.heap.size + 2]? = some (.cells (cellsU8 xs) 62) ∧ Below w.heap.size w W3) := ⟨s3, q0, q1, q2, B3⟩
  have hj : (k % 20).toNat < 20 := by omega
  have A7 : Arr W3 (w.heap.size + 1) xs := arr_of_row q1 hx bx
  have A3 : Arr W3 (w.heap.size) xs := arr_of_row q0 hx bx
  have A8 : Arr W3 (w.heap.size + 2) xs := arr_of_row q2 hx bx
  have cw := A8.at' _ hj
  have cv := A3.at' _ hj
  have fw : W3.frozen? ⟨w.heap.size + 2, (k % 20).toNat, none⟩ = false := by simp [World.frozen?, q2]
  have A8' := arr_set q2 hx bx hv hj
  have hls := lex_set xs (k % 20).toNat v (by rw [hx]; exact hj)
  have hln := lex_neg xs (xs.set (k % 20).toNat v)
  generalize xs.getD (k % 20).toNat 0 = x at *
  generalize xs.set (k % 20).toNat v = ys at *
  obtain ⟨W4, e4⟩ : ∃ W4, W4 = W3.setCell ⟨w.heap.size + 2, (k % 20).toNat, none⟩ (.int .u8 v) := ⟨_, rfl⟩
  have cv4 : W4.cell? ⟨w.heap.size, (k % 20).toNat, none⟩ = some (.int .u8 x) := by
    rw [e4, World.cell?_setCell_other _ _ _ _ (by intro h'; have := congrArg Addr.block h'; simp at this), cv]
  have B4 : Below (w.heap.size + 2) W3 W4 := by rw [e4]; exact (Below.refl _ W3).setCell (p := ⟨w.heap.size + 2, (k % 20).toNat, none⟩) (Nat.le_refl _) _
  rw [← e4] at A8'
  have st4 : (Instr.storeAt 5 (.pointer (some ⟨w.heap.size + 2, (k % 20).toNat, none⟩)) (.int .u8 v)).run Yba.prog W3 = .ok () W4 := by
    rw [e4]
    clear e4 st1 st2 l1 l2 e1 e2 e3
    go_simp
  have HS4 : Hid ((Instr.storeAt 5 (.pointer (some ⟨w.heap.size + 2, (k % 20).toNat, none⟩)) (.int .u8 v)).run Yba.prog W3 = .ok () W4) := st4
  clear st4 e4 cw fw
  have H4 : Hid (Arr W4 (w.heap.size + 1) xs ∧ Arr W4 (w.heap.size + 2) ys ∧ Below (w.heap.size + 2) W3 W4) := ⟨A7.later B4 (by omega), A8', B4⟩
  clear s3 q0 q1 q2 B3 p0 p1 B2 g0 B1 e2 e3 A7 A3 A8 A8' B4 cv hj
  have HR : ∃ r r' : Int, Hid (lex xs ys = r ∧ lex ys xs = r') ∧ ((x < v ∧ r = -1 ∧ r' = 1) ∨ (¬ x < v ∧ v < x ∧ r = 1 ∧ r' = -1) ∨ (¬ x < v ∧ ¬ v < x ∧ r = 0 ∧ r' = 0)) := by
    refine ⟨_, _, ⟨rfl, rfl⟩, ?_⟩
    rw [hln, hls]
    unfold sgn
    by_cases c1 : x < v
    · left; simp [c1]
    · by_cases c2 : v < x
      · right; left; simp [c1, c2]
      · right; right; simp [c1, c2]
  clear hls hln
  obtain ⟨r, r', HR, hr⟩ := HR
  have HX : Hid (xs.length = 20 ∧ Byt xs) := ⟨hx, bx⟩
  clear bx hx
  have HL : Hid ((Instr.loadAt 61 (.pointer (some ⟨w.heap.size, 0, none⟩))).run Yba.prog W1 = .ok (.agg (cellsU8 xs)) W1) := l1
  have HL2 : Hid ((Instr.loadAt 62 (.pointer (some ⟨w.heap.size + 1, 0, none⟩))).run Yba.prog W2 = .ok (.agg (cellsU8 xs)) W2) := l2
  have HS1 : Hid ((Instr.storeAt 62 (.pointer (some ⟨w.heap.size + 1, 0, none⟩)) (.agg (cellsU8 xs))).run Yba.prog (W1.alloc (.cells zero20 62)) = .ok () W2) := st1
  have HS2 : Hid ((Instr.storeAt 62 (.pointer (some ⟨w.heap.size + 2, 0, none⟩)) (.agg (cellsU8 xs))).run Yba.prog (W2.alloc (.cells zero20 62)) = .ok () W3) := st2
  have E1 : Hid (W1 = w.alloc (.cells (cellsU8 xs) 61)) := e1
  clear l1 l2 st1 st2 e1
  go_enter Yba.func6, Yba.ntmps6
  go_wp2_with (first
    | refine wpList_load_run rfl (.tmp 3) 61 rfl (.pointer (some ⟨w.heap.size, 0, none⟩)) (.agg (cellsU8 xs)) rfl (by rw [← E1.out]; exact HL.out) ?_
    | refine wpList_store_run (w' := W2) rfl (.tmp 7) (.tmp 11) 62 rfl (.pointer (some ⟨w.heap.size + 1, 0, none⟩)) (.agg (cellsU8 xs)) rfl rfl (by rw [← E1.out]; exact HS1.out) ?_
    | refine wpList_load_run rfl (.tmp 7) 62 rfl (.pointer (some ⟨w.heap.size + 1, 0, none⟩)) (.agg (cellsU8 xs)) rfl HL2.out ?_
    | refine wpList_store_run (w' := W3) rfl (.tmp 8) (.tmp 12) 62 rfl (.pointer (some ⟨w.heap.size + 2, 0, none⟩)) (.agg (cellsU8 xs)) rfl rfl HS2.out ?_
    | refine wpList_store_run (w' := W4) rfl (.tmp 18) (.tmp 17) 5 rfl (.pointer (some ⟨w.heap.size + 2, (k % 20).toNat, none⟩)) (.int .u8 v) rfl rfl HS4.out ?_)
  · obtain ⟨rfl, rfl⟩ : r = -1 ∧ r' = 1 := by omega
    clear hr
    clear HL HL2 HS1 HS2 E1 s1 s2 HS4 cv4
    refine (compareNodes_any (w.heap.size + 1) (w.heap.size + 2) xs ys W4 H4.out.1 H4.out.2.1).mono ?_
    rw [HR.out.1]
    rintro e w5 ⟨rfl, b5⟩
    have H5 : Hid (Arr w5 (w.heap.size + 1) xs ∧ Arr w5 (w.heap.size + 2) ys ∧ Below W4.heap.size W4 w5) := ⟨H4.out.1.later b5 H4.out.1.lt, H4.out.2.1.later b5 H4.out.2.1.lt, b5⟩
    clear b5
    go_wp2_with fail
    refine (compareNodes_any (w.heap.size + 2) (w.heap.size + 1) ys xs w5 H5.out.2.1 H5.out.1).mono ?_
    rw [HR.out.2]
    rintro e w6 ⟨rfl, b6⟩
    have bb : Below W4.heap.size W4 w6 := H5.out.2.2.trans (b6.mono H5.out.2.2.size)
    have bb3 : Below (w.heap.size + 2) W3 w6 := H4.out.2.2.trans (bb.mono (by have := H4.out.2.2.size; have := HQ.out.1; omega))
    obtain ⟨s3, q0, q1, q2, B3⟩ := HQ.out
    have l7 := run_loadAt_row (t := 62) ((bb3.block _ (by omega)).trans q1) Yba.underlying62 Yba.size62 HX.out.1
    have l3 := run_loadAt_row (t := 61) ((bb3.block _ (by omega)).trans q0) Yba.underlying61 Yba.size61 HX.out.1
    have hq1 := run_eql_self xs w6 HX.out.1
    have HZ : Hid (Below w.heap.size w w6) := B3.trans (bb3.mono (by omega))
    clear H4 H5 HR b6 bb bb3 s3 q0 q1 q2 B3 HQ
    have HL7 : Hid ((Instr.loadAt 62 (.pointer (some ⟨w.heap.size + 1, 0, none⟩))).run Yba.prog w6 = .ok (.agg (cellsU8 xs)) w6) := l7
    have HL3 : Hid ((Instr.loadAt 61 (.pointer (some ⟨w.heap.size, 0, none⟩))).run Yba.prog w6 = .ok (.agg (cellsU8 xs)) w6) := l3
    have HE1 : Hid ((binOp .eql 62 (.agg (cellsU8 xs)) (.agg (cellsU8 xs))).run Yba.prog w6 = .ok (.bool true) w6) := hq1
    clear l7 l3 hq1
    go_wp2_with (first
      | refine wpList_load_run rfl (.tmp 7) 62 rfl (.pointer (some ⟨w.heap.size + 1, 0, none⟩)) (.agg (cellsU8 xs)) rfl HL7.out ?_
      | refine wpList_load_run rfl (.tmp 3) 61 rfl (.pointer (some ⟨w.heap.size, 0, none⟩)) (.agg (cellsU8 xs)) rfl HL3.out ?_
      | refine wpList_eql_run rfl (.tmp 36) (.tmp 37) 62 rfl (cellsU8 xs) (cellsU8 xs) (.bool true) rfl rfl Yba.eqGuardType62 HE1.out ?_)
    go_ret
    exact ⟨rfl, HZ.out⟩
  · obtain ⟨rfl, rfl⟩ : r = 1 ∧ r' = -1 := by omega
    clear hr
    clear HL HL2 HS1 HS2 E1 s1 s2 HS4 cv4
    refine (compareNodes_any (w.heap.size + 1) (w.heap.size + 2) xs ys W4 H4.out.1 H4.out.2.1).mono ?_
    rw [HR.out.1]
    rintro e w5 ⟨rfl, b5⟩
    have H5 : Hid (Arr w5 (w.heap.size + 1) xs ∧ Arr w5 (w.heap.size + 2) ys ∧ Below W4.heap.size W4 w5) := ⟨H4.out.1.later b5 H4.out.1.lt, H4.out.2.1.later b5 H4.out.2.1.lt, b5⟩
    clear b5
    go_wp2_with fail
    refine (compareNodes_any (w.heap.size + 2) (w.heap.size + 1) ys xs w5 H5.out.2.1 H5.out.1).mono ?_
    rw [HR.out.2]
    rintro e w6 ⟨rfl, b6⟩
    have bb : Below W4.heap.size W4 w6 := H5.out.2.2.trans (b6.mono H5.out.2.2.size)
    have bb3 : Below (w.heap.size + 2) W3 w6 := H4.out.2.2.trans (bb.mono (by have := H4.out.2.2.size; have := HQ.out.1; omega))
    obtain ⟨s3, q0, q1, q2, B3⟩ := HQ.out
    have l7 := run_loadAt_row (t := 62) ((bb3.block _ (by omega)).trans q1) Yba.underlying62 Yba.size62 HX.out.1
    have l3 := run_loadAt_row (t := 61) ((bb3.block _ (by omega)).trans q0) Yba.underlying61 Yba.size61 HX.out.1
    have hq1 := run_eql_self xs w6 HX.out.1
    have HZ : Hid (Below w.heap.size w w6) := B3.trans (bb3.mono (by omega))
    clear H4 H5 HR b6 bb bb3 s3 q0 q1 q2 B3 HQ
    have HL7 : Hid ((Instr.loadAt 62 (.pointer (some ⟨w.heap.size + 1, 0, none⟩))).run Yba.prog w6 = .ok (.agg (cellsU8 xs)) w6) := l7
    have HL3 : Hid ((Instr.loadAt 61 (.pointer (some ⟨w.heap.size, 0, none⟩))).run Yba.prog w6 = .ok (.agg (cellsU8 xs)) w6) := l3
    have HE1 : Hid ((binOp .eql 62 (.agg (cellsU8 xs)) (.agg (cellsU8 xs))).run Yba.prog w6 = .ok (.bool true) w6) := hq1
    clear l7 l3 hq1
    go_wp2_with (first
      | refine wpList_load_run rfl (.tmp 7) 62 rfl (.pointer (some ⟨w.heap.size + 1, 0, none⟩)) (.agg (cellsU8 xs)) rfl HL7.out ?_
      | refine wpList_load_run rfl (.tmp 3) 61 rfl (.pointer (some ⟨w.heap.size, 0, none⟩)) (.agg (cellsU8 xs)) rfl HL3.out ?_
      | refine wpList_eql_run rfl (.tmp 36) (.tmp 37) 62 rfl (cellsU8 xs) (cellsU8 xs) (.bool true) rfl rfl Yba.eqGuardType62 HE1.out ?_)
    go_ret
    exact ⟨rfl, HZ.out⟩
  · obtain ⟨rfl, rfl⟩ : r = 0 ∧ r' = 0 := by omega
    clear hr
    clear HL HL2 HS1 HS2 E1 s1 s2 HS4 cv4
    refine (compareNodes_any (w.heap.size + 1) (w.heap.size + 2) xs ys W4 H4.out.1 H4.out.2.1).mono ?_
    rw [HR.out.1]
    rintro e w5 ⟨rfl, b5⟩
    have H5 : Hid (Arr w5 (w.heap.size + 1) xs ∧ Arr w5 (w.heap.size + 2) ys ∧ Below W4.heap.size W4 w5) := ⟨H4.out.1.later b5 H4.out.1.lt, H4.out.2.1.later b5 H4.out.2.1.lt, b5⟩
    clear b5
    go_wp2_with fail
    refine (compareNodes_any (w.heap.size + 2) (w.heap.size + 1) ys xs w5 H5.out.2.1 H5.out.1).mono ?_
    rw [HR.out.2]
    rintro e w6 ⟨rfl, b6⟩
    have bb : Below W4.heap.size W4 w6 := H5.out.2.2.trans (b6.mono H5.out.2.2.size)
    have bb3 : Below (w.heap.size + 2) W3 w6 := H4.out.2.2.trans (bb.mono (by have := H4.out.2.2.size; have := HQ.out.1; omega))
    obtain ⟨s3, q0, q1, q2, B3⟩ := HQ.out
    have l7 := run_loadAt_row (t := 62) ((bb3.block _ (by omega)).trans q1) Yba.underlying62 Yba.size62 HX.out.1
    have l3 := run_loadAt_row (t := 61) ((bb3.block _ (by omega)).trans q0) Yba.underlying61 Yba.size61 HX.out.1
    have hq1 := run_eql_self xs w6 HX.out.1
    have HZ : Hid (Below w.heap.size w w6) := B3.trans (bb3.mono (by omega))
    clear H4 H5 HR b6 bb bb3 s3 q0 q1 q2 B3 HQ
    have HL7 : Hid ((Instr.loadAt 62 (.pointer (some ⟨w.heap.size + 1, 0, none⟩))).run Yba.prog w6 = .ok (.agg (cellsU8 xs)) w6) := l7
    have HL3 : Hid ((Instr.loadAt 61 (.pointer (some ⟨w.heap.size, 0, none⟩))).run Yba.prog w6 = .ok (.agg (cellsU8 xs)) w6) := l3
    have HE1 : Hid ((binOp .eql 62 (.agg (cellsU8 xs)) (.agg (cellsU8 xs))).run Yba.prog w6 = .ok (.bool true) w6) := hq1
    clear l7 l3 hq1
    go_wp2_with (first
      | refine wpList_load_run rfl (.tmp 7) 62 rfl (.pointer (some ⟨w.heap.size + 1, 0, none⟩)) (.agg (cellsU8 xs)) rfl HL7.out ?_
      | refine wpList_load_run rfl (.tmp 3) 61 rfl (.pointer (some ⟨w.heap.size, 0, none⟩)) (.agg (cellsU8 xs)) rfl HL3.out ?_
      | refine wpList_eql_run rfl (.tmp 36) (.tmp 37) 62 rfl (cellsU8 xs) (cellsU8 xs) (.bool true) rfl rfl Yba.eqGuardType62 HE1.out ?_)
    go_ret
    exact ⟨rfl, HZ.out⟩
end Go.Proofs.Ybulkcfzk
