/-
  The walk of checkFileHeader, way by way.
-/
import Derived.Test.YbulkcfxuFmtLeaf
import Derived.Laws.BytesArg
import Derived.Deep.RegionWith
namespace Go.Proofs.YbulkcfxuFmt
open Go.RowKit Go.Extern.Stop Go.Stop Go.Extern

set_option maxHeartbeats 400000 in
theorem head_short (p : Option Addr) (n c : Nat) (a0 : Addr) (w : World) (hn : n < 8) (h0 : w.cell? ⟨0, 0, none⟩ = some (.iface 58 (.pointer (some a0)))) :
    Calls Ybaf.prog 6 #[.slice p n c] w fun e w' => e = .returned (.tuple #[.int .u16 0, .iface 58 (.pointer (some a0))]) ∧ Below w.heap.size w w' := by
  go_enter Ybaf.func6, Ybaf.ntmps6
  go_wp2
  go_quiet (fail)
  go_wp2
  go_ret2
  exact ⟨rfl, by repeat (first | exact Below.refl _ _ | refine below_drewN ?_ _)⟩

set_option maxHeartbeats 400000 in
theorem head_bad (g o n c : Nat) (t : ByteArray) (a0 : Addr) (w : World) (hn : 8 ≤ n) (hc : n ≤ c) (h0 : w.cell? ⟨0, 0, none⟩ = some (.iface 58 (.pointer (some a0))))
    (hconv : (convert 22 9 (.slice (some ⟨g, o, none⟩) 4 c)).run Ybaf.prog w = .ok (.string t) w) (ht : (t.toList == [76, 79, 68, 69]) = false) :
    Calls Ybaf.prog 6 #[.slice (some ⟨g, o, none⟩) n c] w fun e w' => e = .returned (.tuple #[.int .u16 0, .iface 58 (.pointer (some a0))]) ∧ Below w.heap.size w w' := by
  have hc4 : 4 ≤ c := by omega
  go_enter Ybaf.func6, Ybaf.ntmps6
  go_wp2
  go_quiet (fail)
  go_wp2
  go_ret2
  exact ⟨rfl, by repeat (first | exact Below.refl _ _ | refine below_drewN ?_ _)⟩

theorem later_cell {B : Nat} {w w1 : World} {g o : Nat} {v : Value} (hb : Below B w w1) (hg : g < B) (h : w.cell? ⟨g, o, none⟩ = some v) : w1.cell? ⟨g, o, none⟩ = some v :=
  (hb.cell (p := ⟨g, o, none⟩) hg).trans h

theorem two_below {w w1 w2 : World} (h1 : Below w.drew.heap.size w.drew w1) (h2 : Below w1.drew.heap.size w1.drew w2) : Below w.heap.size w w2 :=
  (((Below.refl _ w).drew.trans h1).drew).trans (h2.mono h1.size)

set_option maxHeartbeats 400000 in
theorem head_ok (g o n c : Nat) (t : ByteArray) (z4 z5 z6 z7 : Int) (w : World) (hn : 8 ≤ n) (hc : n ≤ c)
    (b4 : 0 ≤ z4 ∧ z4 ≤ 255) (b5 : 0 ≤ z5 ∧ z5 ≤ 255) (b6 : 0 ≤ z6 ∧ z6 ≤ 255) (b7 : 0 ≤ z7 ∧ z7 ≤ 255)
    (c4 : w.cell? ⟨g, o + 4, none⟩ = some (.int .u8 z4)) (c5 : w.cell? ⟨g, o + 5, none⟩ = some (.int .u8 z5)) (c6 : w.cell? ⟨g, o + 6, none⟩ = some (.int .u8 z6)) (c7 : w.cell? ⟨g, o + 7, none⟩ = some (.int .u8 z7))
    (hconv : (convert 22 9 (.slice (some ⟨g, o, none⟩) 4 c)).run Ybaf.prog w = .ok (.string t) w) (ht : (t.toList == [76, 79, 68, 69]) = true)
    (m1 : z4 + z5 * 256 ≤ 1) (m2 : 1 ≤ z4 + z5 * 256) (m3 : z6 + z7 * 256 ≤ 2) :
    Calls Ybaf.prog 6 #[.slice (some ⟨g, o, none⟩) n c] w fun e w' => e = .returned (.tuple #[.int .u16 (z6 + z7 * 256), .nilIface]) ∧ Below w.heap.size w w' := by
  have hc4 : 4 ≤ c := by omega
  have hc4' : 4 < c := by omega
  have hc6' : 6 < c := by omega
  have hg := World.block_lt_of_cell? _ _ c4
  go_enter Ybaf.func6, Ybaf.ntmps6
  go_wp2
  go_region_with (go_at_call 10; refine (uint16_any g (o + 4) _ _ z4 z5 _ ?_ b4 b5 ?_ ?_).mono ?_; omega; exact c4; exact c5; rintro e w1 ⟨rfl, hb1⟩)
  all_goals
    have q6 := later_cell hb1 hg c6
    have q7 := later_cell hb1 hg c7
    clear hconv ht
    go_wp2
    go_region_with (go_at_call 10; refine (uint16_any g (o + 6) _ _ z6 z7 _ ?_ b6 b7 ?_ ?_).mono ?_; omega; exact q6; exact q7; rintro e w2 ⟨rfl, hb2⟩)
    all_goals
      go_wp2
      go_ret2
      exact ⟨rfl, two_below hb1 hb2⟩

end Go.Proofs.YbulkcfxuFmt
