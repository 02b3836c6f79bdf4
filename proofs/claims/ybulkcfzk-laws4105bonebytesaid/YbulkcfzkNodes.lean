/-
  nodeKey, compareNodes, and the model of the law, over two arrays of 20 bytes as they lie.
-/
import Derived.Test.YbulkcfzkLeaf
import Derived.LoopTactic
import Derived.Deep.RegionWith
import Derived.Deep.OwnRows
namespace Go.Proofs.Ybulkcfzk
open Go.RowKit Go.Stop

/-- Twenty bytes at the head of block b. -/
structure Arr (w : World) (b : Nat) (zs : List Int) : Prop where
  len : zs.length = 20
  byt : Byt zs
  at' : ∀ i, i < 20 → w.cell? ⟨b, i, none⟩ = some (.int .u8 (zs.getD i 0))

theorem Arr.lt {w : World} {b : Nat} {zs : List Int} (h : Arr w b zs) : b < w.heap.size := World.block_lt_of_cell? _ _ (h.at' 0 (by decide))
theorem Arr.later {w w' : World} {n b : Nat} {zs : List Int} (h : Arr w b zs) (hb : Below n w w') (hn : b < n) : Arr w' b zs :=
  ⟨h.len, h.byt, fun i hi => (hb.cell (p := ⟨b, i, none⟩) hn).trans (h.at' i hi)⟩
theorem Byt.getD {zs : List Int} (h : Byt zs) (i : Nat) : 0 ≤ zs.getD i 0 ∧ zs.getD i 0 ≤ 255 := by
  rw [List.getD_eq_getElem?_getD]
  cases e : zs[i]? with
  | none => simp
  | some z => exact h z (List.mem_of_getElem? e)

theorem take8 (zs : List Int) (h : zs.length = 20) : zs.take 8 = [zs.getD 0 0, zs.getD 1 0, zs.getD 2 0, zs.getD 3 0, zs.getD 4 0, zs.getD 5 0, zs.getD 6 0, zs.getD 7 0] := by
  match zs, h with
  | [a0, a1, a2, a3, a4, a5, a6, a7, a8, a9, a10, a11, a12, a13, a14, a15, a16, a17, a18, a19], _ => rfl

theorem Arr.drew {w : World} {b : Nat} {zs : List Int} (h : Arr w b zs) : Arr w.drew b zs := ⟨h.len, h.byt, fun i hi => h.at' i hi⟩

theorem uint64_arr (b n c : Nat) (zs : List Int) (w : World) (hn : 8 ≤ n) (h : Arr w b zs) :
    Calls Yba.prog 13 #[.agg #[], .slice (some ⟨b, 0, none⟩) n c] w fun e w' => e = .returned (.int .u64 (key (zs.take 8))) ∧ Below w.heap.size w w' := by
  rw [take8 zs h.len]
  exact uint64_any b n c _ _ _ _ _ _ _ _ w hn (h.byt.getD 0) (h.byt.getD 1) (h.byt.getD 2) (h.byt.getD 3) (h.byt.getD 4) (h.byt.getD 5) (h.byt.getD 6) (h.byt.getD 7)
    (h.at' 0 (by decide)) (h.at' 1 (by decide)) (h.at' 2 (by decide)) (h.at' 3 (by decide)) (h.at' 4 (by decide)) (h.at' 5 (by decide)) (h.at' 6 (by decide)) (h.at' 7 (by decide))

set_option maxHeartbeats 400000 in
theorem nodeKey_any (b : Nat) (zs : List Int) (w : World) (h : Arr w b zs) :
    Calls Yba.prog 10 #[.pointer (some ⟨b, 0, none⟩)] w fun e w' => e = .returned (.int .u64 (key (zs.take 8))) ∧ Below w.heap.size w w' := by
  have HA : Hid (Arr w b zs) := h
  clear h
  go_enter Yba.func10, Yba.ntmps10
  go_wp2
  go_region_with (go_at_call 13; refine (uint64_arr b _ _ zs _ ?_ HA.out.drew).mono ?_; omega; rintro e w1 ⟨rfl, hb1⟩)
  all_goals
    go_wp2
    go_ret
    exact ⟨rfl, (Below.refl _ w).drew.trans hb1⟩

theorem getD_drop' (zs : List Int) (n i : Nat) : (zs.drop n).getD i 0 = zs.getD (n + i) 0 := by
  simp [List.getD_eq_getElem?_getD, List.getElem?_drop]

theorem two_below {w w1 w2 : World} (h1 : Below w.heap.size w w1) (h2 : Below w1.heap.size w1 w2) : Below w.heap.size w w2 := h1.trans (h2.mono h1.size)

set_option maxHeartbeats 400000 in
theorem compareNodes_any (b1 b2 : Nat) (xs ys : List Int) (w : World) (h1 : Arr w b1 xs) (h2 : Arr w b2 ys) :
    Calls Yba.prog 9 #[.pointer (some ⟨b1, 0, none⟩), .pointer (some ⟨b2, 0, none⟩)] w fun e w' => e = .returned (.int .i64 (lex xs ys)) ∧ Below w.heap.size w w' := by
  have hl : xs.length = ys.length := by rw [h1.len, h2.len]
  rw [← nodes_lex xs ys hl h1.byt h2.byt]
  have HN : Hid (nodes xs ys = if key (xs.take 8) = key (ys.take 8) then lex (xs.drop 8) (ys.drop 8) else sgn (key (xs.take 8)) (key (ys.take 8))) := rfl
  have HL : Hid (xs.length = 20 ∧ ys.length = 20 ∧ Byt xs ∧ Byt ys) := ⟨h1.len, h2.len, h1.byt, h2.byt⟩
  have H1 : Hid (Arr w b1 xs) := h1
  have H2 : Hid (Arr w b2 ys) := h2
  clear h1 h2 hl
  generalize hk1 : key (xs.take 8) = k1 at *
  generalize hk2 : key (ys.take 8) = k2 at *
  have HK : Hid (key (xs.take 8) = k1 ∧ key (ys.take 8) = k2) := ⟨hk1, hk2⟩
  clear hk1 hk2
  generalize nodes xs ys = res at *
  go_enter Yba.func9, Yba.ntmps9
  go_wp2_with fail
  refine (nodeKey_any b1 xs w H1.out).mono ?_
  rw [HK.out.1]
  rintro e w1 ⟨rfl, hb1⟩
  go_wp2_with fail
  refine (nodeKey_any b2 ys w1 (H2.out.later hb1 H2.out.lt)).mono ?_
  rw [HK.out.2]
  rintro e w2 ⟨rfl, hb2⟩
  have HB : Hid (Below w.heap.size w w2) := two_below hb1 hb2
  clear hb1 hb2
  by_cases he : k1 = k2
  · have t1 : (k1 != k2) = false := by simp [he]
    have er : res = lex (xs.drop 8) (ys.drop 8) := by rw [HN.out, if_pos he]
    have HE : Hid (res = lex (xs.drop 8) (ys.drop 8)) := er
    clear er he
    have c1 : ∀ i, i < 12 → w2.cell? ⟨b1, 8 + i, none⟩ = some (.int .u8 ((xs.drop 8).getD i 0)) := fun i hi => by
      rw [getD_drop']
      exact (H1.out.later HB.out H1.out.lt).at' (8 + i) (by omega)
    have c2 : ∀ i, i < 12 → w2.cell? ⟨b2, 8 + i, none⟩ = some (.int .u8 ((ys.drop 8).getD i 0)) := fun i hi => by
      rw [getD_drop']
      exact (H2.out.later HB.out H2.out.lt).at' (8 + i) (by omega)
    have HC : Hid ((∀ i, i < 12 → w2.cell? ⟨b1, 8 + i, none⟩ = some (.int .u8 ((xs.drop 8).getD i 0))) ∧ ∀ i, i < 12 → w2.cell? ⟨b2, 8 + i, none⟩ = some (.int .u8 ((ys.drop 8).getD i 0))) := ⟨c1, c2⟩
    clear c1 c2
    go_wp2_with fail
    go_quiet ((go_at_call 12; refine Calls.quiet_of_same (compare_any _ b1 8 12 12 b2 8 12 12 (xs.drop 8) (ys.drop 8) (by simp [HL.out.1]) (by simp [HL.out.2.1]) (fun i hi => HC.out.1 i hi) (fun i hi => HC.out.2 i hi))))
    go_wp2
    go_ret
    refine ⟨?_, below_drewN HB.out _⟩
    rw [HE.out, lex_bytes _ _ (by simp [HL.out.1, HL.out.2.1]) (HL.out.2.2.1.drop 8) (HL.out.2.2.2.drop 8)]
    rfl
  · have t1 : (k1 != k2) = true := by simp [he]
    have er : res = sgn k1 k2 := by rw [HN.out, if_neg he]
    subst er
    clear he HN
    go_wp2_with fail
    refine (cmp_any k1 k2 w2).mono ?_
    rintro e w3 ⟨rfl, rfl⟩
    go_wp2
    go_ret
    exact ⟨rfl, HB.out⟩

theorem drop_cons (zs : List Int) (j : Nat) (h : j < zs.length) : zs.drop j = zs.getD j 0 :: zs.drop (j + 1) := by
  rw [List.drop_eq_getElem_cons h]
  simp [List.getD_eq_getElem?_getD, h]

theorem lex_step (xs ys : List Int) (j : Nat) (hx : j < xs.length) (hy : j < ys.length) : lex (xs.drop j) (ys.drop j) = if xs.getD j 0 < ys.getD j 0 then -1 else if ys.getD j 0 < xs.getD j 0 then 1 else lex (xs.drop (j + 1)) (ys.drop (j + 1)) := by
  rw [drop_cons xs j hx, drop_cons ys j hy]
  rfl

set_option maxHeartbeats 800000 in
theorem model_any (b1 b2 : Nat) (xs ys : List Int) (w : World) (h1 : Arr w b1 xs) (h2 : Arr w b2 ys) :
    Calls Yba.prog 8 #[.pointer (some ⟨b1, 0, none⟩), .pointer (some ⟨b2, 0, none⟩)] w fun e w' => e = .returned (.int .i64 (lex xs ys)) ∧ Below w.heap.size w w' := by
  have HL : Hid (xs.length = 20 ∧ ys.length = 20) := ⟨h1.len, h2.len⟩
  have H1 : Hid (Arr w b1 xs) := h1
  have H2 : Hid (Arr w b2 ys) := h2
  clear h1 h2
  go_enter Yba.func8, Yba.ntmps8
  go_wp2
  go_loopw [5] (fun iv wq => ∃ j : Nat, iv = .int .i64 j ∧ j ≤ 20 ∧ Below w.heap.size w wq ∧ Hid (lex xs ys = lex (xs.drop j) (ys.drop j)))
    (fun iv _ => 20 - (intOf iv).toNat)
  case atStart => exact ⟨0, rfl, by omega, Below.refl _ _, rfl⟩
  case round =>
    obtain ⟨j, rfl, hj, hb, HX⟩ := hrel
    have HB : Hid (Below w.heap.size w wr) := hb
    clear hb
    by_cases hlt : j < 20
    · have g1 := (H1.out.later HB.out H1.out.lt).at' j hlt
      have g2 := (H2.out.later HB.out H2.out.lt).at' j hlt
      have HS : Hid (lex xs ys = if xs.getD j 0 < ys.getD j 0 then -1 else if ys.getD j 0 < xs.getD j 0 then 1 else lex (xs.drop (j + 1)) (ys.drop (j + 1))) := by
        rw [HX.out, lex_step xs ys j (by rw [HL.out.1]; exact hlt) (by rw [HL.out.2]; exact hlt)]
        exact rfl
      clear HX
      generalize xs.getD j 0 = x at *
      generalize ys.getD j 0 = y at *
      have hji : (j : Int) < 20 := by omega
      by_cases c1 : x < y
      · have er : lex xs ys = -1 := by rw [HS.out, if_pos c1]
        have HE : Hid (lex xs ys = -1) := er
        clear HS er
        go_wp2
        go_quiet (fail)
        go_wp2
        go_ret
        refine ⟨?_, below_drewN HB.out _⟩
        rw [HE.out]; rfl
      · by_cases c2 : y < x
        · have er : lex xs ys = 1 := by rw [HS.out, if_neg c1, if_pos c2]
          have HE : Hid (lex xs ys = 1) := er
          clear HS er
          go_wp2
          go_quiet (fail)
          go_wp2
          go_quiet (fail)
          go_wp2
          go_ret
          refine ⟨?_, below_drewN (below_drewN HB.out _) _⟩
          rw [HE.out]; rfl
        · have er : lex xs ys = lex (xs.drop (j + 1)) (ys.drop (j + 1)) := by rw [HS.out, if_neg c1, if_neg c2]
          have HE : Hid (lex xs ys = lex (xs.drop (j + 1)) (ys.drop (j + 1))) := er
          clear HS er
          go_wp2
          go_quiet (fail)
          go_wp2
          go_quiet (fail)
          go_wp2
          go_roundw
          case rel => exact ⟨j + 1, by go_num, by omega, below_drewN HB.out _, HE⟩
          case measure => simp [intOf]; omega
    · have e20 : j = 20 := by omega
      subst e20
      have HE : Hid (lex xs ys = 0) := by
        rw [HX.out, List.drop_of_length_le (by rw [HL.out.1]; exact Nat.le_refl _), List.drop_of_length_le (by rw [HL.out.2]; exact Nat.le_refl _)]
        exact rfl
      clear HX
      go_wp2
      go_ret
      refine ⟨?_, HB.out⟩
      rw [HE.out]; rfl
end Go.Proofs.Ybulkcfzk
