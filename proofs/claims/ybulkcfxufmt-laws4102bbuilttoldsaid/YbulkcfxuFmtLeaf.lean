/-
  The walks of the leaves: (littleEndian).Uint16, fmt.Errorf at this program's one format.
-/
import Derived.Test.YbulkcfxuFmtFacts
import Derived.Test.YbulkcfxuFmtRows
import Derived.WalkLawsBesides
import Derived.RegionTactic
import Derived.BigQuiet
import Derived.Lib.EndianBits
namespace Go.Proofs.YbulkcfxuFmt
open Go.RowKit Go.Extern.Stop Go.Stop Go.Extern
attribute [local go_sem] Ybaf.call14 Ybaf.guard Ybaf.fmt0 Ybaf.fmt0r Ybaf.op3_100w Ybaf.op24_100w Ybaf.ptr58 Ybaf.elem58 Ybaf.isError58 Ybaf.ptr46 Ybaf.elem46 Ybaf.isError46

/-- The type's name, out of the given datum. -/
def starName : String := match (Rows.laid_example_com_lodestore_lodestore_ErrNotStore (H := Unit)) with
  | .iface s _ => s
  | _ => ""
def plain58 : List UInt8 := 14 :: FmtStop.pack [42, 101, 114, 114, 111, 114, 115, 46, 101, 114, 114, 111, 114, 83, 116, 114, 105, 110, 103]
theorem Ybaf.opPlain58_119w (name : String) (a : Addr) (s : ByteArray) (w : World) (hc : w.cell? a = some (.string s)) :
    (FmtStop.operand name true 119 false (.iface 58 (.pointer (some a)))).run Ybaf.prog w = .ok (plain58, s.data.toList) w := by
  have h1 : (typeStr 58).run Ybaf.prog w = .ok starName w := by kernel_rfl
  have d2 : Ybaf.t58.desc = .pointer 60 := rfl
  have d3 : Ybaf.t60.desc = .named "errors.errorString" 59 := rfl
  have hx' : starName.toByteArray.data.toList = [42, 101, 114, 114, 111, 114, 115, 46, 101, 114, 114, 111, 114, 83, 116, 114, 105, 110, 103] := by kernel_rfl
  simp [FmtStop.operand, h1, d2, d3, run_load, hc, plain58, hx']

set_option maxHeartbeats 400000 in
theorem errorf_any (g : Nat) (a1 : Addr) (s : ByteArray) (x y : Int) (w : World)
    (c0 : w.cell? ⟨g, 0, none⟩ = some (.iface 58 (.pointer (some a1)))) (c1 : w.cell? ⟨g, 1, none⟩ = some (.iface 24 (.int .u16 x))) (c2 : w.cell? ⟨g, 2, none⟩ = some (.iface 24 (.int .u16 y)))
    (c3 : w.cell? ⟨g, 3, none⟩ = some (.iface 3 (.int .i64 1))) (c4 : w.cell? ⟨g, 4, none⟩ = some (.iface 3 (.int .i64 2))) (hs : w.cell? a1 = some (.string s)) :
    Calls Ybaf.prog 11 #[.string ⟨#[37, 119, 32, 37, 100, 46, 37, 100, 32, 40, 116, 104, 105, 115, 32, 98, 117, 105, 108, 100, 32, 114, 101, 97, 100, 115, 32, 117, 112, 32, 116, 111, 32, 37, 100, 46, 37, 100, 41]⟩, .slice (some ⟨g, 0, none⟩) 5 5] w fun e w' =>
      e = .returned (.iface 46 (.pointer (some ⟨w.heap.size, 0, none⟩))) ∧ Below w.heap.size w w' ∧ w'.heap.size = w.heap.size + 1 ∧ w'.cell? ⟨w.heap.size, 0 + 1, none⟩ = some (.iface 58 (.pointer (some a1))) := by
  have hop := Ybaf.opPlain58_119w "fmt.errorf" a1 s _ hs
  go_enter Ybaf.func11, Ybaf.ntmps11
  go_wp2
  go_ret
  exact ⟨rfl, Below.drew ((Below.refl _ w).alloc (Nat.le_refl _) _), by simp, by go_simp⟩

set_option maxHeartbeats 400000 in
theorem uint16_any (g o n c : Nat) (z0 z1 : Int) (w : World) (hn : 2 ≤ n) (b0 : 0 ≤ z0 ∧ z0 ≤ 255) (b1 : 0 ≤ z1 ∧ z1 ≤ 255)
    (c0 : w.cell? ⟨g, o, none⟩ = some (.int .u8 z0)) (c1 : w.cell? ⟨g, o + 1, none⟩ = some (.int .u8 z1)) :
    Calls Ybaf.prog 10 #[.agg #[], .slice (some ⟨g, o, none⟩) n c] w fun e w' => e = .returned (.int .u16 (z0 + z1 * 256)) ∧ Below w.heap.size w w' := by
  have d0 := cell?_alloc_old (.cells #[] 36) c0
  have d1 := cell?_alloc_old (.cells #[] 36) c1
  go_enter Ybaf.func10, Ybaf.ntmps10
  go_wp2
  go_quiet (fail)
  go_wp2
  go_ret
  refine ⟨?_, below_drewN ((Below.refl _ w).alloc (Nat.le_refl _) _) _⟩
  simp (disch := omega) only [u16_or8]
  rfl

/-! ### zzs4102bwant, way by way -/
set_option maxHeartbeats 400000 in
theorem want_short (p : Option Addr) (n c : Nat) (w : World) (hn : n < 8) :
    Calls Ybaf.prog 8 #[.slice p n c] w fun e w' => e = .returned (.tuple #[.int .u16 0, .int .i64 1]) ∧ w' = w := by
  go_enter Ybaf.func8, Ybaf.ntmps8
  go_wp2
  go_ret2
  exact ⟨rfl, rfl⟩

set_option maxHeartbeats 400000 in
theorem want_bad (g o n c : Nat) (z0 z1 z2 z3 : Int) (w : World) (hn : 8 ≤ n)
    (c0 : w.cell? ⟨g, o, none⟩ = some (.int .u8 z0)) (c1 : w.cell? ⟨g, o + 1, none⟩ = some (.int .u8 z1)) (c2 : w.cell? ⟨g, o + 2, none⟩ = some (.int .u8 z2)) (c3 : w.cell? ⟨g, o + 3, none⟩ = some (.int .u8 z3))
    (hb : ¬ (z0 = 76 ∧ z1 = 79 ∧ z2 = 68 ∧ z3 = 69)) :
    Calls Ybaf.prog 8 #[.slice (some ⟨g, o, none⟩) n c] w fun e w' => e = .returned (.tuple #[.int .u16 0, .int .i64 1]) ∧ w' = w := by
  by_cases e0 : z0 = 76
  · subst e0
    by_cases e1 : z1 = 79
    · subst e1
      by_cases e2 : z2 = 68
      · subst e2
        have e3 : (z3 != 69) = true := by rw [bne_iff_ne]; intro h; exact hb ⟨rfl, rfl, rfl, h⟩
        clear hb
        go_enter Ybaf.func8, Ybaf.ntmps8
        go_wp2
        go_ret2
        exact ⟨rfl, rfl⟩
      · have e2' : (z2 != 68) = true := by rw [bne_iff_ne]; exact e2
        clear hb e2
        go_enter Ybaf.func8, Ybaf.ntmps8
        go_wp2
        go_ret2
        exact ⟨rfl, rfl⟩
    · have e1' : (z1 != 79) = true := by rw [bne_iff_ne]; exact e1
      clear hb e1
      go_enter Ybaf.func8, Ybaf.ntmps8
      go_wp2
      go_ret2
      exact ⟨rfl, rfl⟩
  · have e0' : (z0 != 76) = true := by rw [bne_iff_ne]; exact e0
    clear hb e0
    go_enter Ybaf.func8, Ybaf.ntmps8
    go_wp2
    go_ret2
    exact ⟨rfl, rfl⟩

set_option maxHeartbeats 400000 in
theorem want_good (g o n c : Nat) (z4 z5 z6 z7 : Int) (w : World) (hn : 8 ≤ n) (b4 : 0 ≤ z4 ∧ z4 ≤ 255) (b5 : 0 ≤ z5 ∧ z5 ≤ 255) (b6 : 0 ≤ z6 ∧ z6 ≤ 255) (b7 : 0 ≤ z7 ∧ z7 ≤ 255)
    (c0 : w.cell? ⟨g, o, none⟩ = some (.int .u8 76)) (c1 : w.cell? ⟨g, o + 1, none⟩ = some (.int .u8 79)) (c2 : w.cell? ⟨g, o + 2, none⟩ = some (.int .u8 68)) (c3 : w.cell? ⟨g, o + 3, none⟩ = some (.int .u8 69))
    (c4 : w.cell? ⟨g, o + 4, none⟩ = some (.int .u8 z4)) (c5 : w.cell? ⟨g, o + 5, none⟩ = some (.int .u8 z5)) (c6 : w.cell? ⟨g, o + 6, none⟩ = some (.int .u8 z6)) (c7 : w.cell? ⟨g, o + 7, none⟩ = some (.int .u8 z7)) :
    Calls Ybaf.prog 8 #[.slice (some ⟨g, o, none⟩) n c] w fun e w' => e = .returned (if z4 + z5 * 256 = 1 ∧ z6 + z7 * 256 ≤ 2 then .tuple #[.int .u16 (z6 + z7 * 256), .int .i64 0] else .tuple #[.int .u16 0, .int .i64 2]) ∧ Below w.heap.size w w' := by
  have x1 : bits .or .u16 z4 (z5 * 256) = z4 + z5 * 256 := u16_or8 _ _ (by omega) (by omega) (by omega) (by omega) (by omega)
  have x2 : bits .or .u16 z6 (z7 * 256) = z6 + z7 * 256 := u16_or8 _ _ (by omega) (by omega) (by omega) (by omega) (by omega)
  go_enter Ybaf.func8, Ybaf.ntmps8
  go_wp2
  go_quiet (fail)
  go_wp2
  go_quiet (fail)
  go_wp2
  all_goals (go_ret2; exact ⟨rfl, by repeat (first | exact Below.refl _ _ | refine below_drewN ?_ _)⟩)
end Go.Proofs.YbulkcfxuFmt
