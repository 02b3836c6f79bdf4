/-
  The walk of checkFileHeader on the way of an unsupported version.
-/
import Derived.Test.YbulkcfxuFmtHead
namespace Go.Proofs.YbulkcfxuFmt
open Go.RowKit Go.Extern.Stop Go.Stop Go.Extern

theorem errorf_at (a1 : Addr) (s : ByteArray) (x y : Int) (w2 : World) (rs : w2.cell? a1 = some (.string s)) :
    Calls Ybaf.prog 11 #[.string ⟨#[37, 119, 32, 37, 100, 46, 37, 100, 32, 40, 116, 104, 105, 115, 32, 98, 117, 105, 108, 100, 32, 114, 101, 97, 100, 115, 32, 117, 112, 32, 116, 111, 32, 37, 100, 46, 37, 100, 41]⟩, .slice (some ⟨w2.heap.size, 0, none⟩) 5 5]
      (w2.alloc (.cells #[.iface 58 (.pointer (some a1)), .iface 24 (.int .u16 x), .iface 24 (.int .u16 y), .iface 3 (.int .i64 1), .iface 3 (.int .i64 2)] 20)) fun e w' =>
      e = .returned (.iface 46 (.pointer (some ⟨w2.heap.size + 1, 0, none⟩))) ∧ Below w2.heap.size w2 w' ∧ w'.cell? ⟨w2.heap.size + 1, 0 + 1, none⟩ = some (.iface 58 (.pointer (some a1))) := by
  refine (errorf_any w2.heap.size a1 s x y _ (by go_simp) (by go_simp) (by go_simp) (by go_simp) (by go_simp) (cell?_alloc_old _ rs)).mono ?_
  rintro e w' ⟨rfl, hb, _, hc⟩
  have hz : (w2.alloc (.cells #[.iface 58 (.pointer (some a1)), .iface 24 (.int .u16 x), .iface 24 (.int .u16 y), .iface 3 (.int .i64 1), .iface 3 (.int .i64 2)] 20)).heap.size = w2.heap.size + 1 := by simp
  rw [hz] at hb hc ⊢
  exact ⟨rfl, ((Below.refl _ w2).alloc (Nat.le_refl _) _).trans (hb.mono (by omega)), hc⟩

set_option maxHeartbeats 1000000 in
theorem head_ver (g o n c : Nat) (t : ByteArray) (z4 z5 z6 z7 : Int) (a1 : Addr) (s : ByteArray) (w : World) (hn : 8 ≤ n) (hc : n ≤ c)
    (b4 : 0 ≤ z4 ∧ z4 ≤ 255) (b5 : 0 ≤ z5 ∧ z5 ≤ 255) (b6 : 0 ≤ z6 ∧ z6 ≤ 255) (b7 : 0 ≤ z7 ∧ z7 ≤ 255)
    (c4 : w.cell? ⟨g, o + 4, none⟩ = some (.int .u8 z4)) (c5 : w.cell? ⟨g, o + 5, none⟩ = some (.int .u8 z5)) (c6 : w.cell? ⟨g, o + 6, none⟩ = some (.int .u8 z6)) (c7 : w.cell? ⟨g, o + 7, none⟩ = some (.int .u8 z7))
    (hconv : (convert 22 9 (.slice (some ⟨g, o, none⟩) 4 c)).run Ybaf.prog w = .ok (.string t) w) (ht : (t.toList == [76, 79, 68, 69]) = true)
    (h1 : w.cell? ⟨1, 0, none⟩ = some (.iface 58 (.pointer (some a1)))) (hs : w.cell? a1 = some (.string s))
    (hm : ¬ (z4 + z5 * 256 = 1 ∧ z6 + z7 * 256 ≤ 2)) :
    Calls Ybaf.prog 6 #[.slice (some ⟨g, o, none⟩) n c] w fun e w' => ∃ b, e = .returned (.tuple #[.int .u16 0, .iface 46 (.pointer (some ⟨b, 0, none⟩))]) ∧ Below w.heap.size w w' ∧ w'.cell? ⟨b, 0 + 1, none⟩ = some (.iface 58 (.pointer (some a1))) := by
  have hc4 : 4 ≤ c := by omega
  have hc4' : 4 < c := by omega
  have hc6' : 6 < c := by omega
  have hg := World.block_lt_of_cell? _ _ c4
  have hg1 := World.block_lt_of_cell? _ _ h1
  have hga := World.block_lt_of_cell? _ _ hs
  go_enter Ybaf.func6, Ybaf.ntmps6
  go_wp2
  go_region_with (go_at_call 10; refine (uint16_any g (o + 4) _ _ z4 z5 _ ?_ b4 b5 ?_ ?_).mono ?_; omega; exact c4; exact c5; rintro e w1 ⟨rfl, hb1⟩)
  all_goals
    have q6 := later_cell hb1 hg c6
    have q7 := later_cell hb1 hg c7
    clear hconv ht
    go_wp2
    go_region_with (go_at_call 10; refine (uint16_any g (o + 6) _ _ z6 z7 _ ?_ b6 b7 ?_ ?_).mono ?_; omega; exact q6; exact q7; rintro e w2 ⟨rfl, hb2⟩)
    all_goals
      have hb := two_below hb1 hb2
      have r1 := later_cell hb hg1 h1
      have rs := (hb.cell (p := a1) hga).trans hs
      clear hb1 hb2 q6 q7 c4 c5 c6 c7 h1 hs
      go_wp2_with fail
      all_goals
        refine (errorf_at a1 s _ _ w2 rs).mono ?_
        rintro e w3 ⟨rfl, hb3, hc3⟩
        go_wp2
        go_ret2
        exact ⟨_, rfl, hb.trans (hb3.mono hb.size), hc3⟩

end Go.Proofs.YbulkcfxuFmt
