/-
  The walk of zzs4102bcheck where the magic letters stand: the supported versions, the others, and nil.
-/
import Derived.Test.YbulkcfxuFmtCheck
namespace Go.Proofs.YbulkcfxuFmt
open Go.RowKit Go.Extern.Stop Go.Stop Go.Extern

set_option maxHeartbeats 400000 in
theorem check_ok (g o n c : Nat) (zs : List Int) (z4 z5 z6 z7 : Int) (a0 a1 : Addr) (s : ByteArray) (w : World) (hn : n ≤ 2000) (h0 : w.cell? ⟨0, 0, none⟩ = some (.iface 58 (.pointer (some a0)))) (h1 : w.cell? ⟨1, 0, none⟩ = some (.iface 58 (.pointer (some a1)))) (hs : w.cell? a1 = some (.string s))
    (hl : zs.length = n) (hz : ∀ i, i < n → w.cell? ⟨g, o + i, none⟩ = some (.int .u8 (zs.getD i 0))) (h8 : 8 ≤ n)
    (b4 : 0 ≤ z4 ∧ z4 ≤ 255) (b5 : 0 ≤ z5 ∧ z5 ≤ 255) (b6 : 0 ≤ z6 ∧ z6 ≤ 255) (b7 : 0 ≤ z7 ∧ z7 ≤ 255)
    (d0 : zs.getD 0 0 = 76) (d1 : zs.getD 1 0 = 79) (d2 : zs.getD 2 0 = 68) (d3 : zs.getD 3 0 = 69) (d4 : zs.getD 4 0 = z4) (d5 : zs.getD 5 0 = z5) (d6 : zs.getD 6 0 = z6) (d7 : zs.getD 7 0 = z7)
    (hm : z4 + z5 * 256 = 1 ∧ z6 + z7 * 256 ≤ 2) :
    Calls Ybaf.prog 5 #[.slice (some ⟨g, o, none⟩) n c] w fun e w' => e = .returned (.bool true) ∧ Below w.heap.size w w' := by
  have hmk := run_make_row' (P := Ybaf.prog) 22 5 (.int .u8 0) 1 Ybaf.underlying22 Ybaf.info5 rfl .i64 .i64 n (by omega) (by omega)
  obtain ⟨w1, hcp, hb1, hs1, k1⟩ := copy_made g o n c zs w hl hz
  have hg0 := World.block_lt_of_cell? _ _ h0
  have hg1 := World.block_lt_of_cell? _ _ h1
  have hga := World.block_lt_of_cell? _ _ hs
  have p0 := later_cell hb1 hg0 h0
  have p1 := later_cell hb1 hg1 h1
  have ps := (hb1.cell (p := a1) hga).trans hs
  have K1 : Hid (∀ i, i < n → w1.cell? ⟨w.heap.size, 0 + i, none⟩ = some (.int .u8 (zs.getD i 0))) := k1
  have K2 : Hid (∀ i, i < n → w1.cell? ⟨g, o + i, none⟩ = some (.int .u8 (zs.getD i 0))) := later_cells hb1 (cells_lt hz) hz
  have G1 := cells_lt hz
  have HS : Hid (w1.heap.size = w.heap.size + 1) := hs1
  have HC : Hid ((convert 22 9 (.slice (some ⟨w.heap.size, 0, none⟩) 4 n)).run Ybaf.prog w1 = .ok (.string (strOfNums [76, 79, 68, 69])) w1) :=
    conv4 w.heap.size 0 n 76 79 68 69 w1 (d0 ▸ k1 0 (by omega)) (d1 ▸ k1 1 (by omega)) (d2 ▸ k1 2 (by omega)) (d3 ▸ k1 3 (by omega))
  have HT : Hid (((strOfNums [76, 79, 68, 69]).toList == [76, 79, 68, 69]) = true) := by
    show _ = _
    rw [magic_iff 76 79 68 69 (by decide) (by decide) (by decide) (by decide)]; decide
  have D : Hid ((zs.getD 0 0 = 76 ∧ zs.getD 1 0 = 79 ∧ zs.getD 2 0 = 68 ∧ zs.getD 3 0 = 69) ∧ zs.getD 4 0 = z4 ∧ zs.getD 5 0 = z5 ∧ zs.getD 6 0 = z6 ∧ zs.getD 7 0 = z7) := ⟨⟨d0, d1, d2, d3⟩, d4, d5, d6, d7⟩
  have M : Hid (w1.cell? ⟨w.heap.size, 0 + 4, none⟩ = some (.int .u8 z4) ∧ w1.cell? ⟨w.heap.size, 0 + 5, none⟩ = some (.int .u8 z5) ∧ w1.cell? ⟨w.heap.size, 0 + 6, none⟩ = some (.int .u8 z6) ∧ w1.cell? ⟨w.heap.size, 0 + 7, none⟩ = some (.int .u8 z7)) :=
    ⟨d4 ▸ k1 4 (by omega), d5 ▸ k1 5 (by omega), d6 ▸ k1 6 (by omega), d7 ▸ k1 7 (by omega)⟩
  clear k1 hz h0 h1 hs hs1 d0 d1 d2 d3 d4 d5 d6 d7
  go_enter Ybaf.func5, Ybaf.ntmps5
  go_wp2_with fail
  refine (head_ok w.heap.size 0 n n (strOfNums [76, 79, 68, 69]) z4 z5 z6 z7 w1 h8 (Nat.le_refl _) b4 b5 b6 b7 M.out.1 M.out.2.1 M.out.2.2.1 M.out.2.2.2 HC.out HT.out (by omega) (by omega) (by omega)).mono ?_
  rintro e w2 ⟨rfl, hb2⟩
  have p2 := later_cell hb2 (show 0 < w1.heap.size by rw [HS.out]; omega) p0
  have p3 := later_cell hb2 (show 1 < w1.heap.size by rw [HS.out]; omega) p1
  have K2' : Hid (∀ i, i < n → w2.cell? ⟨g, o + i, none⟩ = some (.int .u8 (zs.getD i 0))) := later_cells hb2 (fun h => by rw [HS.out]; have := G1 h; omega) K2.out
  have e1 := conv_at w.heap.size 0 n n zs w2 hl (later_cells hb2 (fun _ => by rw [HS.out]; omega) K1.out)
  have e2 := conv_at g o n c zs w2 hl K2'.out
  clear hcp hmk p0 p1 ps
  go_wp2_with fail
  refine (equal_same _ _ (strOfNums zs) _ e1 e2).mono ?_
  rintro e w3 ⟨rfl, rfl⟩
  clear e1 e2
  go_wp2_with fail
  obtain ⟨⟨d0, d1, d2, d3⟩, d4, d5, d6, d7⟩ := D.out
  have m0 := K2'.out 0 (by omega)
  have m1 := K2'.out 1 (by omega)
  have m2 := K2'.out 2 (by omega)
  have m3 := K2'.out 3 (by omega)
  have m4 := K2'.out 4 (by omega)
  have m5 := K2'.out 5 (by omega)
  have m6 := K2'.out 6 (by omega)
  have m7 := K2'.out 7 (by omega)
  rw [d0] at m0
  rw [d1] at m1
  rw [d2] at m2
  rw [d3] at m3
  rw [d4] at m4
  rw [d5] at m5
  rw [d6] at m6
  rw [d7] at m7
  refine (want_good g o n c z4 z5 z6 z7 _ h8 b4 b5 b6 b7 m0 m1 m2 m3 m4 m5 m6 m7).mono ?_
  clear d0 d1 d2 d3 d4 d5 d6 d7 m0 m1 m2 m3 m4 m5 m6 m7
  rw [if_pos hm]
  rintro e w4 ⟨rfl, hb4⟩
  clear hm
  go_wp2
  go_ret
  exact ⟨rfl, (hb1.trans (hb2.mono hb1.size)).trans (hb4.mono (Nat.le_trans hb1.size hb2.size))⟩

set_option maxHeartbeats 400000 in
theorem check_ver (g o n c : Nat) (zs : List Int) (z4 z5 z6 z7 : Int) (a0 a1 : Addr) (s : ByteArray) (ca0 ca1 : Array Value) (t0 t1 : TypeId) (w : World) (hn : n ≤ 2000) (h0 : w.cell? ⟨0, 0, none⟩ = some (.iface 58 (.pointer (some a0)))) (h1 : w.cell? ⟨1, 0, none⟩ = some (.iface 58 (.pointer (some a1)))) (hs : w.cell? a1 = some (.string s))
    (hl : zs.length = n) (hz : ∀ i, i < n → w.cell? ⟨g, o + i, none⟩ = some (.int .u8 (zs.getD i 0))) (h8 : 8 ≤ n)
    (b4 : 0 ≤ z4 ∧ z4 ≤ 255) (b5 : 0 ≤ z5 ∧ z5 ≤ 255) (b6 : 0 ≤ z6 ∧ z6 ≤ 255) (b7 : 0 ≤ z7 ∧ z7 ≤ 255)
    (d0 : zs.getD 0 0 = 76) (d1 : zs.getD 1 0 = 79) (d2 : zs.getD 2 0 = 68) (d3 : zs.getD 3 0 = 69) (d4 : zs.getD 4 0 = z4) (d5 : zs.getD 5 0 = z5) (d6 : zs.getD 6 0 = z6) (d7 : zs.getD 7 0 = z7)
    (hm : ¬ (z4 + z5 * 256 = 1 ∧ z6 + z7 * 256 ≤ 2)) (hne : a0 ≠ a1) (hh0 : w.heap[a0.block]? = some (.cells ca0 t0 (0, 0))) (hh1 : w.heap[a1.block]? = some (.cells ca1 t1 (0, 0))) :
    Calls Ybaf.prog 5 #[.slice (some ⟨g, o, none⟩) n c] w fun e w' => e = .returned (.bool true) ∧ Below w.heap.size w w' := by
  have hga0 : a0.block < w.heap.size := by
    rcases Nat.lt_or_ge a0.block w.heap.size with h | h
    · exact h
    · simp [Array.getElem?_eq_none h] at hh0
  have hmk := run_make_row' (P := Ybaf.prog) 22 5 (.int .u8 0) 1 Ybaf.underlying22 Ybaf.info5 rfl .i64 .i64 n (by omega) (by omega)
  obtain ⟨w1, hcp, hb1, hs1, k1⟩ := copy_made g o n c zs w hl hz
  have hg0 := World.block_lt_of_cell? _ _ h0
  have hg1 := World.block_lt_of_cell? _ _ h1
  have hga := World.block_lt_of_cell? _ _ hs
  have p0 := later_cell hb1 hg0 h0
  have p1 := later_cell hb1 hg1 h1
  have ps := (hb1.cell (p := a1) hga).trans hs
  have K1 : Hid (∀ i, i < n → w1.cell? ⟨w.heap.size, 0 + i, none⟩ = some (.int .u8 (zs.getD i 0))) := k1
  have K2 : Hid (∀ i, i < n → w1.cell? ⟨g, o + i, none⟩ = some (.int .u8 (zs.getD i 0))) := later_cells hb1 (cells_lt hz) hz
  have G1 := cells_lt hz
  have HS : Hid (w1.heap.size = w.heap.size + 1) := hs1
  have HC : Hid ((convert 22 9 (.slice (some ⟨w.heap.size, 0, none⟩) 4 n)).run Ybaf.prog w1 = .ok (.string (strOfNums [76, 79, 68, 69])) w1) :=
    conv4 w.heap.size 0 n 76 79 68 69 w1 (d0 ▸ k1 0 (by omega)) (d1 ▸ k1 1 (by omega)) (d2 ▸ k1 2 (by omega)) (d3 ▸ k1 3 (by omega))
  have HT : Hid (((strOfNums [76, 79, 68, 69]).toList == [76, 79, 68, 69]) = true) := by
    show _ = _
    rw [magic_iff 76 79 68 69 (by decide) (by decide) (by decide) (by decide)]; decide
  have D : Hid ((zs.getD 0 0 = 76 ∧ zs.getD 1 0 = 79 ∧ zs.getD 2 0 = 68 ∧ zs.getD 3 0 = 69) ∧ zs.getD 4 0 = z4 ∧ zs.getD 5 0 = z5 ∧ zs.getD 6 0 = z6 ∧ zs.getD 7 0 = z7) := ⟨⟨d0, d1, d2, d3⟩, d4, d5, d6, d7⟩
  have M : Hid (w1.cell? ⟨w.heap.size, 0 + 4, none⟩ = some (.int .u8 z4) ∧ w1.cell? ⟨w.heap.size, 0 + 5, none⟩ = some (.int .u8 z5) ∧ w1.cell? ⟨w.heap.size, 0 + 6, none⟩ = some (.int .u8 z6) ∧ w1.cell? ⟨w.heap.size, 0 + 7, none⟩ = some (.int .u8 z7)) :=
    ⟨d4 ▸ k1 4 (by omega), d5 ▸ k1 5 (by omega), d6 ▸ k1 6 (by omega), d7 ▸ k1 7 (by omega)⟩
  clear k1 hz h0 h1 hs hs1 d0 d1 d2 d3 d4 d5 d6 d7
  go_enter Ybaf.func5, Ybaf.ntmps5
  go_wp2_with fail
  refine (head_ver w.heap.size 0 n n (strOfNums [76, 79, 68, 69]) z4 z5 z6 z7 a1 s w1 h8 (Nat.le_refl _) b4 b5 b6 b7 M.out.1 M.out.2.1 M.out.2.2.1 M.out.2.2.2 HC.out HT.out p1 ps hm).mono ?_
  rintro e w2 ⟨bw, rfl, hb2, hw2⟩
  have HW2 : Hid (w2.cell? ⟨bw, 0 + 1, none⟩ = some (.iface 58 (.pointer (some a1)))) := hw2
  clear hw2
  have p2 := later_cell hb2 (show 0 < w1.heap.size by rw [HS.out]; omega) p0
  have p3 := later_cell hb2 (show 1 < w1.heap.size by rw [HS.out]; omega) p1
  have K2' : Hid (∀ i, i < n → w2.cell? ⟨g, o + i, none⟩ = some (.int .u8 (zs.getD i 0))) := later_cells hb2 (fun h => by rw [HS.out]; have := G1 h; omega) K2.out
  have e1 := conv_at w.heap.size 0 n n zs w2 hl (later_cells hb2 (fun _ => by rw [HS.out]; omega) K1.out)
  have e2 := conv_at g o n c zs w2 hl K2'.out
  clear hcp hmk p0 p1 ps
  go_wp2_with fail
  refine (equal_same _ _ (strOfNums zs) _ e1 e2).mono ?_
  rintro e w3 ⟨rfl, rfl⟩
  clear e1 e2
  go_wp2_with fail
  obtain ⟨⟨d0, d1, d2, d3⟩, d4, d5, d6, d7⟩ := D.out
  have m0 := K2'.out 0 (by omega)
  have m1 := K2'.out 1 (by omega)
  have m2 := K2'.out 2 (by omega)
  have m3 := K2'.out 3 (by omega)
  have m4 := K2'.out 4 (by omega)
  have m5 := K2'.out 5 (by omega)
  have m6 := K2'.out 6 (by omega)
  have m7 := K2'.out 7 (by omega)
  rw [d0] at m0
  rw [d1] at m1
  rw [d2] at m2
  rw [d3] at m3
  rw [d4] at m4
  rw [d5] at m5
  rw [d6] at m6
  rw [d7] at m7
  refine (want_good g o n c z4 z5 z6 z7 _ h8 b4 b5 b6 b7 m0 m1 m2 m3 m4 m5 m6 m7).mono ?_
  clear d0 d1 d2 d3 d4 d5 d6 d7 m0 m1 m2 m3 m4 m5 m6 m7
  rw [if_neg hm]
  rintro e w4 ⟨rfl, hb4⟩
  have hz3 : w.heap.size < w3.heap.size := by have := hb2.size; rw [HS.out] at this; omega
  have r0 := later_cell hb4 (show 0 < w3.heap.size by omega) p2
  have r1 := later_cell hb4 (show 1 < w3.heap.size by omega) p3
  have hbw := World.block_lt_of_cell? _ _ HW2.out
  have HW4 : Hid (w4.cell? ⟨bw, 0 + 1, none⟩ = some (.iface 58 (.pointer (some a1)))) := later_cell hb4 hbw HW2.out
  have HA0 : Hid (w4.heap[a0.block]? = some (.cells ca0 t0 (0, 0))) := by
    show _ = _
    rw [hb4.block _ (by omega), hb2.block _ (by rw [HS.out]; omega), hb1.block _ hga0, hh0]
  have HA1 : Hid (w4.heap[a1.block]? = some (.cells ca1 t1 (0, 0))) := by
    show _ = _
    rw [hb4.block _ (by omega), hb2.block _ (by rw [HS.out]; omega), hb1.block _ hga, hh1]
  have HN : Hid (a1 ≠ a0) := Ne.symm hne
  clear hm hh0 hh1 hne p2 p3
  go_wp2_with fail
  refine (is_wrap_same bw 0 a1 w4 HW4.out).mono ?_
  rintro e w5 ⟨rfl, rfl⟩
  go_wp2_with fail
  refine (is_wrap_other bw 0 a0 a1 ca1 ca0 t1 t0 _ HW4.out HN.out HA1.out HA0.out).mono ?_
  rintro e w6 ⟨rfl, rfl⟩
  go_wp2
  go_ret
  exact ⟨rfl, (hb1.trans (hb2.mono hb1.size)).trans (hb4.mono (Nat.le_trans hb1.size hb2.size))⟩

theorem conv_zero (a : Option Addr) (c : Nat) (w : World) : (convert 22 9 (.slice a 0 c)).run Ybaf.prog w = .ok (.string ByteArray.empty) w := by
  cases a with
  | none => exact run_convert_bytes_nil (P := Ybaf.prog) w 22 5 Ybaf.underlying22 Ybaf.underlying5 0 c 9 Ybaf.underlying9
  | some a =>
    rw [run_convert_bytes_string (P := Ybaf.prog) w 22 9 5 _ 0 c Ybaf.underlying22 Ybaf.underlying5 Ybaf.underlying9]
    have hl : (loadCells a 0).run Ybaf.prog w = .ok #[] w := by simpa using run_loadCells_list (P := Ybaf.prog) w a [] (by simp)
    rw [run_bytesToString (P := Ybaf.prog) w a 0 c [] (by simpa using hl)]
    rfl

set_option maxHeartbeats 400000 in
/-- b has no element and is not nil, wherever it points. -/
theorem check_zero (a : Addr) (c : Nat) (a0 : Addr) (w : World) (h0 : w.cell? ⟨0, 0, none⟩ = some (.iface 58 (.pointer (some a0)))) :
    Calls Ybaf.prog 5 #[.slice (some a) 0 c] w fun e w' => e = .returned (.bool true) ∧ Below w.heap.size w w' := by
  have hmk := run_make_row' (P := Ybaf.prog) 22 5 (.int .u8 0) 1 Ybaf.underlying22 Ybaf.info5 rfl .i64 .i64 0 (by omega) (by omega)
  have hmk' : ∀ w, (Instr.makeSlice 22 (.int .i64 0) (.int .i64 0)).run Ybaf.prog w = .ok (.slice (some ⟨w.heap.size, 0, none⟩) 0 0) (w.alloc (.cells (madeCells #[.int .u8 0] 0) 5)) := hmk
  have hcp := fun (w : World) => run_copy_none (P := Ybaf.prog) w 22 22 3 5 (some ⟨w.heap.size, 0, none⟩) (some a) 0 0 0 c Ybaf.underlying22 Ybaf.size5 rfl
  have hcp' : ∀ (w : World) (g : Nat), (Builtin.copy_ #[22, 22] 3 #[.slice (some ⟨g, 0, none⟩) 0 0, .slice (some a) 0 c]).run Ybaf.prog w = .ok (.int .i64 0) w :=
    fun w g => run_copy_none (P := Ybaf.prog) w 22 22 3 5 (some ⟨g, 0, none⟩) (some a) 0 0 0 c Ybaf.underlying22 Ybaf.size5 rfl
  have hg0 := World.block_lt_of_cell? _ _ h0
  have p0 := cell?_alloc_old (.cells (madeCells #[.int .u8 0] 0) 5) h0
  clear hmk hcp
  go_enter Ybaf.func5, Ybaf.ntmps5
  go_wp2_with fail
  refine (head_short _ 0 0 a0 _ (by omega) (by exact p0)).mono ?_
  rintro e w2 ⟨rfl, hb2⟩
  have hb3 : Below w.heap.size w w2 := ((Below.refl _ w).alloc (Nat.le_refl _) _).trans (hb2.mono (by simp))
  have p2 := later_cell hb3 hg0 h0
  clear hmk' hcp'
  go_wp2_with fail
  refine (equal_same _ _ ByteArray.empty _ (conv_zero _ _ _) (conv_zero _ _ _)).mono ?_
  rintro e w3 ⟨rfl, rfl⟩
  go_wp2_with fail
  refine (want_short (some a) 0 c _ (by omega)).mono ?_
  rintro e w4 ⟨rfl, rfl⟩
  have heq := eql_same a0
  go_wp2
  go_ret
  exact ⟨rfl, hb3⟩

set_option maxHeartbeats 400000 in
/-- b is nil. -/
theorem check_nil (c : Nat) (a0 : Addr) (w : World) (h0 : w.cell? ⟨0, 0, none⟩ = some (.iface 58 (.pointer (some a0)))) :
    Calls Ybaf.prog 5 #[.slice none 0 c] w fun e w' => e = .returned (.bool true) ∧ Below w.heap.size w w' := by
  have cv := fun (w : World) (l c : Nat) => run_convert_bytes_nil (P := Ybaf.prog) w 22 5 Ybaf.underlying22 Ybaf.underlying5 l c 9 Ybaf.underlying9
  have hg0 := World.block_lt_of_cell? _ _ h0
  go_enter Ybaf.func5, Ybaf.ntmps5
  go_wp2_with fail
  refine (head_short none 0 0 a0 w (by omega) h0).mono ?_
  rintro e w2 ⟨rfl, hb2⟩
  have p2 := later_cell hb2 hg0 h0
  go_wp2_with fail
  refine (equal_same _ _ ByteArray.empty _ (cv _ _ _) (cv _ _ _)).mono ?_
  rintro e w3 ⟨rfl, rfl⟩
  go_wp2_with fail
  refine (want_short none 0 c _ (by omega)).mono ?_
  rintro e w4 ⟨rfl, rfl⟩
  have heq := eql_same a0
  go_wp2
  go_ret
  exact ⟨rfl, hb2⟩
end Go.Proofs.YbulkcfxuFmt
