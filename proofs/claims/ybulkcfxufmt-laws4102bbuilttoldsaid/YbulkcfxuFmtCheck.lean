/-
  The walk of zzs4102bcheck, way by way: it answers true.
-/
import Derived.Test.YbulkcfxuFmtCopy
import Derived.Test.YbulkcfxuFmtIs
namespace Go.Proofs.YbulkcfxuFmt
open Go.RowKit Go.Extern.Stop Go.Stop Go.Extern

theorem eql_same (a : Addr) (w : World) : (binOp .eql 28 (.iface 58 (.pointer (some a))) (.iface 58 (.pointer (some a)))).run Ybaf.prog w = .ok (.bool true) w := by
  obtain ⟨i, hi, hcmp⟩ := Option.map_eq_some_iff.1 Ybaf.isComp
  obtain ⟨j, hj, hjs⟩ := Option.map_eq_some_iff.1 Ybaf.isSize
  exact run_eql_iface_ptr_same (P := Ybaf.prog) w a Ybaf.underlying28 Ybaf.underlying58 hi hcmp hj

/-- Cells that lie below are there later. -/
theorem later_cells {B : Nat} {w w1 : World} {g o n : Nat} {zs : List Int} (hb : Below B w w1) (hg : 0 < n → g < B) (h : ∀ i, i < n → w.cell? ⟨g, o + i, none⟩ = some (.int .u8 (zs.getD i 0))) :
    ∀ i, i < n → w1.cell? ⟨g, o + i, none⟩ = some (.int .u8 (zs.getD i 0)) :=
  fun i hi => later_cell hb (hg (by omega)) (h i hi)
theorem cells_lt {w : World} {g o n : Nat} {zs : List Int} (h : ∀ i, i < n → w.cell? ⟨g, o + i, none⟩ = some (.int .u8 (zs.getD i 0))) : 0 < n → g < w.heap.size :=
  fun hn => World.block_lt_of_cell? _ _ (h 0 hn)

set_option maxHeartbeats 400000 in
theorem check_short (g o n c : Nat) (zs : List Int) (a0 : Addr) (w : World) (h0 : w.cell? ⟨0, 0, none⟩ = some (.iface 58 (.pointer (some a0))))
    (hl : zs.length = n) (hz : ∀ i, i < n → w.cell? ⟨g, o + i, none⟩ = some (.int .u8 (zs.getD i 0))) (h8 : n < 8) :
    Calls Ybaf.prog 5 #[.slice (some ⟨g, o, none⟩) n c] w fun e w' => e = .returned (.bool true) ∧ Below w.heap.size w w' := by
  have hmk := run_make_row' (P := Ybaf.prog) 22 5 (.int .u8 0) 1 Ybaf.underlying22 Ybaf.info5 rfl .i64 .i64 n (by omega) (by omega)
  obtain ⟨w1, hcp, hb1, hs1, k1⟩ := copy_made g o n c zs w hl hz
  have hg0 := World.block_lt_of_cell? _ _ h0
  have p0 := later_cell hb1 hg0 h0
  have K1 : Hid (∀ i, i < n → w1.cell? ⟨w.heap.size, 0 + i, none⟩ = some (.int .u8 (zs.getD i 0))) := k1
  have K2 : Hid (∀ i, i < n → w1.cell? ⟨g, o + i, none⟩ = some (.int .u8 (zs.getD i 0))) := later_cells hb1 (cells_lt hz) hz
  have G1 := cells_lt hz
  have HS : Hid (w1.heap.size = w.heap.size + 1) := hs1
  clear k1 hz h0 hs1
  go_enter Ybaf.func5, Ybaf.ntmps5
  go_wp2_with fail
  refine (head_short _ n n a0 w1 h8 p0).mono ?_
  rintro e w2 ⟨rfl, hb2⟩
  have p2 := later_cell hb2 (show 0 < w1.heap.size by rw [HS.out]; omega) p0
  have e1 := conv_at w.heap.size 0 n n zs w2 hl (later_cells hb2 (fun _ => by rw [HS.out]; omega) K1.out)
  have e2 := conv_at g o n c zs w2 hl (later_cells hb2 (fun h => by rw [HS.out]; have := G1 h; omega) K2.out)
  clear hcp hmk p0
  go_wp2_with fail
  refine (equal_same _ _ (strOfNums zs) _ e1 e2).mono ?_
  rintro e w3 ⟨rfl, rfl⟩
  clear e1 e2
  go_wp2_with fail
  refine (want_short _ n c _ h8).mono ?_
  rintro e w4 ⟨rfl, rfl⟩
  have heq := eql_same a0
  go_wp2
  go_ret
  exact ⟨rfl, hb1.trans (hb2.mono hb1.size)⟩
/-! ### Eight bytes and more -/
theorem magic_iff (z0 z1 z2 z3 : Int) (b0 : 0 ≤ z0 ∧ z0 ≤ 255) (b1 : 0 ≤ z1 ∧ z1 ≤ 255) (b2 : 0 ≤ z2 ∧ z2 ≤ 255) (b3 : 0 ≤ z3 ∧ z3 ≤ 255) :
    ((strOfNums [z0, z1, z2, z3]).toList == [76, 79, 68, 69]) = decide (z0 = 76 ∧ z1 = 79 ∧ z2 = 68 ∧ z3 = 69) := by
  have one : ∀ (z : Int) (k : Nat), 0 ≤ z ∧ z ≤ 255 → k < 256 → ((UInt8.ofNat z.toNat == UInt8.ofNat k) = decide (z = (k : Int))) := by
    intro z k hz hk
    rw [Bool.eq_iff_iff]
    simp only [beq_iff_eq, decide_eq_true_eq]
    constructor
    · intro h
      have := congrArg UInt8.toNat h
      simp at this
      omega
    · intro h
      subst h
      simp
  have e0 := one z0 76 b0 (by decide)
  have e1 := one z1 79 b1 (by decide)
  have e2 := one z2 68 b2 (by decide)
  have e3 := one z3 69 b3 (by decide)
  rw [ByteArray.toList_eq, strOfNums_data]
  show (List.map (fun n => UInt8.ofNat n.toNat) [z0, z1, z2, z3] == [UInt8.ofNat 76, UInt8.ofNat 79, UInt8.ofNat 68, UInt8.ofNat 69]) = _
  simp only [List.map_cons, List.map_nil, List.cons_beq_cons, e0, e1, e2, e3]
  simp only [List.nil_beq_eq, List.isEmpty_nil, Bool.and_true, Bool.decide_and]
  rfl

theorem eight (zs : List Int) (h : 8 ≤ zs.length) : ∃ z0 z1 z2 z3 z4 z5 z6 z7 r, zs = z0 :: z1 :: z2 :: z3 :: z4 :: z5 :: z6 :: z7 :: r := by
  match zs, h with
  | z0 :: z1 :: z2 :: z3 :: z4 :: z5 :: z6 :: z7 :: r, _ => exact ⟨z0, z1, z2, z3, z4, z5, z6, z7, r, rfl⟩

/-- 'string(b[:4])' -/
theorem conv4 (g o c : Nat) (z0 z1 z2 z3 : Int) (w : World) (c0 : w.cell? ⟨g, o + 0, none⟩ = some (.int .u8 z0)) (c1 : w.cell? ⟨g, o + 1, none⟩ = some (.int .u8 z1)) (c2 : w.cell? ⟨g, o + 2, none⟩ = some (.int .u8 z2)) (c3 : w.cell? ⟨g, o + 3, none⟩ = some (.int .u8 z3)) :
    (convert 22 9 (.slice (some ⟨g, o, none⟩) 4 c)).run Ybaf.prog w = .ok (.string (strOfNums [z0, z1, z2, z3])) w :=
  conv_at g o 4 c [z0, z1, z2, z3] w rfl (fun i hi => by
    match i, hi with
    | 0, _ => exact c0
    | 1, _ => exact c1
    | 2, _ => exact c2
    | 3, _ => exact c3)

set_option maxHeartbeats 400000 in
theorem check_bad (g o n c : Nat) (zs : List Int) (z0 z1 z2 z3 : Int) (a0 : Addr) (w : World) (hn : n ≤ 2000) (h0 : w.cell? ⟨0, 0, none⟩ = some (.iface 58 (.pointer (some a0))))
    (hl : zs.length = n) (hz : ∀ i, i < n → w.cell? ⟨g, o + i, none⟩ = some (.int .u8 (zs.getD i 0))) (h8 : 8 ≤ n)
    (b0 : 0 ≤ z0 ∧ z0 ≤ 255) (b1 : 0 ≤ z1 ∧ z1 ≤ 255) (b2 : 0 ≤ z2 ∧ z2 ≤ 255) (b3 : 0 ≤ z3 ∧ z3 ≤ 255)
    (d0 : zs.getD 0 0 = z0) (d1 : zs.getD 1 0 = z1) (d2 : zs.getD 2 0 = z2) (d3 : zs.getD 3 0 = z3) (hb : ¬ (z0 = 76 ∧ z1 = 79 ∧ z2 = 68 ∧ z3 = 69)) :
    Calls Ybaf.prog 5 #[.slice (some ⟨g, o, none⟩) n c] w fun e w' => e = .returned (.bool true) ∧ Below w.heap.size w w' := by
  have hmk := run_make_row' (P := Ybaf.prog) 22 5 (.int .u8 0) 1 Ybaf.underlying22 Ybaf.info5 rfl .i64 .i64 n (by omega) (by omega)
  obtain ⟨w1, hcp, hb1, hs1, k1⟩ := copy_made g o n c zs w hl hz
  have hg0 := World.block_lt_of_cell? _ _ h0
  have p0 := later_cell hb1 hg0 h0
  have K1 : Hid (∀ i, i < n → w1.cell? ⟨w.heap.size, 0 + i, none⟩ = some (.int .u8 (zs.getD i 0))) := k1
  have K2 : Hid (∀ i, i < n → w1.cell? ⟨g, o + i, none⟩ = some (.int .u8 (zs.getD i 0))) := later_cells hb1 (cells_lt hz) hz
  have G1 := cells_lt hz
  have HS : Hid (w1.heap.size = w.heap.size + 1) := hs1
  have HC : Hid ((convert 22 9 (.slice (some ⟨w.heap.size, 0, none⟩) 4 n)).run Ybaf.prog w1 = .ok (.string (strOfNums [z0, z1, z2, z3])) w1) :=
    conv4 w.heap.size 0 n z0 z1 z2 z3 w1 (d0 ▸ k1 0 (by omega)) (d1 ▸ k1 1 (by omega)) (d2 ▸ k1 2 (by omega)) (d3 ▸ k1 3 (by omega))
  have HT : Hid (((strOfNums [z0, z1, z2, z3]).toList == [76, 79, 68, 69]) = false) := by
    show _ = _
    rw [magic_iff z0 z1 z2 z3 b0 b1 b2 b3]; simpa using hb
  have HB : Hid (¬ (z0 = 76 ∧ z1 = 79 ∧ z2 = 68 ∧ z3 = 69)) := hb
  have D : Hid (zs.getD 0 0 = z0 ∧ zs.getD 1 0 = z1 ∧ zs.getD 2 0 = z2 ∧ zs.getD 3 0 = z3) := ⟨d0, d1, d2, d3⟩
  clear k1 hz h0 hs1 d0 d1 d2 d3 hb
  go_enter Ybaf.func5, Ybaf.ntmps5
  go_wp2_with fail
  refine (head_bad w.heap.size 0 n n (strOfNums [z0, z1, z2, z3]) a0 w1 h8 (Nat.le_refl _) p0 HC.out HT.out).mono ?_
  rintro e w2 ⟨rfl, hb2⟩
  have p2 := later_cell hb2 (show 0 < w1.heap.size by rw [HS.out]; omega) p0
  have K2' : Hid (∀ i, i < n → w2.cell? ⟨g, o + i, none⟩ = some (.int .u8 (zs.getD i 0))) := later_cells hb2 (fun h => by rw [HS.out]; have := G1 h; omega) K2.out
  have e1 := conv_at w.heap.size 0 n n zs w2 hl (later_cells hb2 (fun _ => by rw [HS.out]; omega) K1.out)
  have e2 := conv_at g o n c zs w2 hl K2'.out
  clear hcp hmk p0
  go_wp2_with fail
  refine (equal_same _ _ (strOfNums zs) _ e1 e2).mono ?_
  rintro e w3 ⟨rfl, rfl⟩
  clear e1 e2
  go_wp2_with fail
  obtain ⟨d0, d1, d2, d3⟩ := D.out
  have m0 := K2'.out 0 (by omega)
  have m1 := K2'.out 1 (by omega)
  have m2 := K2'.out 2 (by omega)
  have m3 := K2'.out 3 (by omega)
  rw [d0] at m0
  rw [d1] at m1
  rw [d2] at m2
  rw [d3] at m3
  refine (want_bad g o n c z0 z1 z2 z3 _ h8 m0 m1 m2 m3 HB.out).mono ?_
  clear d0 d1 d2 d3 m0 m1 m2 m3
  rintro e w4 ⟨rfl, rfl⟩
  have heq := eql_same a0
  go_wp2
  go_ret
  exact ⟨rfl, hb1.trans (hb2.mono hb1.size)⟩
end Go.Proofs.YbulkcfxuFmt
