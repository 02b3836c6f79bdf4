/-
  The leaves: (bigEndian).Uint64, cmp.Compare[uint64], bytes.Compare.
-/
import Derived.Test.YbulkcfzkLex
import Derived.Test.YbulkcfzkRows
import Derived.WalkLawsBesides
import Derived.WalkKit
import Derived.WalkSpells
import Derived.RegionTactic
import Derived.BigQuiet
import Derived.Lib.EndianBits
import Derived.Stop.LaidErr
namespace Go.Proofs.Ybulkcfzk
open Go.RowKit Go.Stop

set_option maxHeartbeats 4000000 in
set_option maxRecDepth 100000 in
theorem uint64_any (g n c : Nat) (z0 z1 z2 z3 z4 z5 z6 z7 : Int) (w : World) (hn : 8 ≤ n)
    (b0 : 0 ≤ z0 ∧ z0 ≤ 255) (b1 : 0 ≤ z1 ∧ z1 ≤ 255) (b2 : 0 ≤ z2 ∧ z2 ≤ 255) (b3 : 0 ≤ z3 ∧ z3 ≤ 255) (b4 : 0 ≤ z4 ∧ z4 ≤ 255) (b5 : 0 ≤ z5 ∧ z5 ≤ 255) (b6 : 0 ≤ z6 ∧ z6 ≤ 255) (b7 : 0 ≤ z7 ∧ z7 ≤ 255)
    (c0 : w.cell? ⟨g, 0, none⟩ = some (.int .u8 z0)) (c1 : w.cell? ⟨g, 0 + 1, none⟩ = some (.int .u8 z1)) (c2 : w.cell? ⟨g, 0 + 2, none⟩ = some (.int .u8 z2)) (c3 : w.cell? ⟨g, 0 + 3, none⟩ = some (.int .u8 z3))
    (c4 : w.cell? ⟨g, 0 + 4, none⟩ = some (.int .u8 z4)) (c5 : w.cell? ⟨g, 0 + 5, none⟩ = some (.int .u8 z5)) (c6 : w.cell? ⟨g, 0 + 6, none⟩ = some (.int .u8 z6)) (c7 : w.cell? ⟨g, 0 + 7, none⟩ = some (.int .u8 z7)) :
    Calls Yba.prog 13 #[.agg #[], .slice (some ⟨g, 0, none⟩) n c] w fun e w' => e = .returned (.int .u64 (key [z0, z1, z2, z3, z4, z5, z6, z7])) ∧ Below w.heap.size w w' := by
  have d0 := cell?_alloc_old (.cells #[] 72) c0
  have d1 := cell?_alloc_old (.cells #[] 72) c1
  have d2 := cell?_alloc_old (.cells #[] 72) c2
  have d3 := cell?_alloc_old (.cells #[] 72) c3
  have d4 := cell?_alloc_old (.cells #[] 72) c4
  have d5 := cell?_alloc_old (.cells #[] 72) c5
  have d6 := cell?_alloc_old (.cells #[] 72) c6
  have d7 := cell?_alloc_old (.cells #[] 72) c7
  go_enter Yba.func13, Yba.ntmps13
  go_wp2
  go_quiet (fail)
  go_wp2
  go_ret
  refine ⟨?_, below_drewN ((Below.refl _ w).alloc (Nat.le_refl _) _) _⟩
  simp (disch := omega) only [u64_or8, u64_or16, u64_or24, u64_or32, u64_or40, u64_or48, u64_or56]
  simp [key]
  omega

theorem nan_any (x : Int) (w : World) : Calls Yba.prog 14 #[.int .u64 x] w fun e w' => e = .returned (.bool false) ∧ w' = w := by
  go_enter Yba.func14, Yba.ntmps14
  go_wp2
  go_ret
  exact ⟨by simp, rfl⟩

set_option maxHeartbeats 400000 in
theorem cmp_any (x y : Int) (w : World) : Calls Yba.prog 11 #[.int .u64 x, .int .u64 y] w fun e w' => e = .returned (.int .i64 (sgn x y)) ∧ w' = w := by
  go_enter Yba.func11, Yba.ntmps11
  go_wp2_with (go_at_call 14; refine (nan_any _ _).mono ?_; rintro e w' ⟨rfl, rfl⟩)
  all_goals go_ret
  all_goals refine ⟨?_, rfl⟩
  all_goals simp_all [sgn]
  all_goals omega

theorem run_compareSlices {P : Program} (w : World) (g1 o1 n1 m1 g2 o2 n2 m2 : Nat) (xs ys : List Int) (hx : xs.length = n1) (hy : ys.length = n2)
    (hc1 : ∀ i, i < n1 → w.cell? ⟨g1, o1 + i, none⟩ = some (.int .u8 (xs.getD i 0))) (hc2 : ∀ i, i < n2 → w.cell? ⟨g2, o2 + i, none⟩ = some (.int .u8 (ys.getD i 0))) :
    (Extern.BytealgCompare.compare #[.slice (some ⟨g1, o1, none⟩) n1 m1, .slice (some ⟨g2, o2, none⟩) n2 m2]).run P w = .ok (.int .i64 (Lib.compareBytes (Lib.bytesOf xs) (Lib.bytesOf ys))) w := by
  have ld : ∀ (g o n : Nat) (zs : List Int), zs.length = n → (∀ i, i < n → w.cell? ⟨g, o + i, none⟩ = some (.int .u8 (zs.getD i 0))) →
      (Extern.Bytes.loadBytes ⟨g, o, none⟩ n .empty).run P w = .ok ⟨(Lib.bytesOf zs).toArray⟩ w := by
    intro g o n zs hz hc
    have hl := Lib.run_loadBytesX (P := P) w zs ⟨g, o, none⟩ .empty (fun j x hj => by
      have hjl : j < zs.length := (List.getElem?_eq_some_iff.1 hj).1
      have e : (⟨g, o, none⟩ : Addr).add j = ⟨g, o + j, none⟩ := by unfold Addr.add; split <;> simp_all
      rw [e, hc j (by omega), List.getD_eq_getElem?_getD, hj]
      rfl)
    rw [hz] at hl
    have he : (⟨ByteArray.empty.data ++ (Lib.bytesOf zs).toArray⟩ : ByteArray) = ⟨(Lib.bytesOf zs).toArray⟩ := by
      apply ByteArray.ext
      show (#[] : Array UInt8) ++ (Lib.bytesOf zs).toArray = (Lib.bytesOf zs).toArray
      simp
    rw [he] at hl
    exact hl
  change Sem.run P (do pure (goInt (Extern.BytealgCompare.cmp (← Extern.Bytes.bytesOf (.slice (some ⟨g1, o1, none⟩) n1 m1)) (← Extern.Bytes.bytesOf (.slice (some ⟨g2, o2, none⟩) n2 m2))))) w = _
  simp only [Extern.Bytes.bytesOf, Sem.run_bind, Sem.run_pure, Result.andThen, ld g1 o1 n1 xs hx hc1, ld g2 o2 n2 ys hy hc2, Lib.cmp_eq]
  rfl

set_option maxHeartbeats 400000 in
theorem compare_any (w : World) (g1 o1 n1 m1 g2 o2 n2 m2 : Nat) (xs ys : List Int) (hx : xs.length = n1) (hy : ys.length = n2)
    (hc1 : ∀ i, i < n1 → w.cell? ⟨g1, o1 + i, none⟩ = some (.int .u8 (xs.getD i 0))) (hc2 : ∀ i, i < n2 → w.cell? ⟨g2, o2 + i, none⟩ = some (.int .u8 (ys.getD i 0))) :
    Calls Yba.prog 12 #[.slice (some ⟨g1, o1, none⟩) n1 m1, .slice (some ⟨g2, o2, none⟩) n2 m2] w fun e w' => e = .returned (.int .i64 (Lib.compareBytes (Lib.bytesOf xs) (Lib.bytesOf ys))) ∧ w' = w := by
  have hr : (callFunc 15 #[.slice (some ⟨g1, o1, none⟩) n1 m1, .slice (some ⟨g2, o2, none⟩) n2 m2]).run Yba.prog w = .ok (.value (.int .i64 (Lib.compareBytes (Lib.bytesOf xs) (Lib.bytesOf ys)))) w := by
    rw [run_callFunc_extern Yba.func15 (by kernel_rfl) (by kernel_rfl) (by kernel_rfl) (e := Extern.BytealgCompare.compare) (by kernel_rfl), run_compareSlices w g1 o1 n1 m1 g2 o2 n2 m2 xs ys hx hy hc1 hc2]
    rfl
  clear hc1 hc2
  go_enter Yba.func12, Yba.ntmps12
  go_wp2
  go_ret
  exact ⟨rfl, rfl⟩
end Go.Proofs.Ybulkcfzk
