/-
  tellPath: to another node.
-/
import Derived.Test.YbulkcfyiSend2
import Derived.Lib.EndianBits
namespace Go.Proofs.Ybulkcfyi
open Go.RowKit Go.Stop

set_option maxHeartbeats 800000 in
theorem tell_out (B nb : Nat) (kd id fr to sj tm sr sr' pr' : Int) (p : Option Addr) (n c : Nat) (zs : List Int) (w : World) (hto : (to == id) = false)
    (hs : ∀ v, Below w.heap.size w v → Calls Yba.prog 30 #[.pointer (some ⟨B, 0, none⟩), .agg (msgCells kd fr to p n c sj tm sr)] v fun e w' => e = .returned (.tuple #[]) ∧ Went v w' B nb kd id to n zs sj tm sr' pr')
    (n0 : w.cell? ⟨B, 0, none⟩ = some (.int .u64 id)) :
    Calls Yba.prog 12 #[.pointer (some ⟨B, 0, none⟩), .agg (msgCells kd fr to p n c sj tm sr)] w fun e w' => e = .returned (.tuple #[]) ∧ Went w w' B nb kd id to n zs sj tm sr' pr' := by
  have hBl := World.block_lt_of_cell? _ _ n0
  have HS : Hid (∀ v, Below w.heap.size w v → Calls Yba.prog 30 #[.pointer (some ⟨B, 0, none⟩), .agg (msgCells kd fr to p n c sj tm sr)] v fun e w' => e = .returned (.tuple #[]) ∧ Went v w' B nb kd id to n zs sj tm sr' pr') := hs
  clear hs
  unfold msgCells at *
  go_enter Yba.func12, Yba.ntmps12
  go_wp2
  go_quiet (fail)
  go_wp2_with fail
  have bw : Below w.heap.size w _ := below_drewN ((Below.refl _ w).alloc (Nat.le_refl _) (.cells #[.int .u8 kd, .int .u64 fr, .int .u64 to, .slice p n c, .int .u64 sj, .int .u64 tm, .int .u64 sr] 67)) nq
  refine (HS.out _ bw).mono ?_
  rintro e w' ⟨rfl, g, cap, p', c', m1, m2, m3, m4, m5, m6, m7⟩
  go_wp2
  go_end0
  exact ⟨rfl, g, cap, p', c', m1, Nat.le_trans bw.size m2, m3, m4, m5, m6, (Turned.of_below bw).trans m7⟩

/-- What zzs4103ckind answers. -/
def kindOf (k : Int) : Int × Bool := if k % 4 = 0 then (20, false) else if k % 4 = 1 then (21, false) else if k % 4 = 2 then (19, true) else (3, true)

set_option maxHeartbeats 400000 in
theorem ckind_any (k : Int) (w : World) (hk : 0 ≤ k ∧ k ≤ 255) : Calls Yba.prog 10 #[.int .u8 k] w fun e w' => e = .returned (.tuple #[.int .u8 (kindOf k).1, .bool (kindOf k).2]) ∧ w' = w := by
  go_enter Yba.func10, Yba.ntmps10
  go_wp2
  all_goals
    go_ret2
    refine ⟨?_, rfl⟩
    simp_all [kindOf]

theorem kindOf_two (k : Int) : ((kindOf k).2 = false ∧ ((kindOf k).1 = 20 ∨ (kindOf k).1 = 21)) ∨ ((kindOf k).2 = true ∧ ((kindOf k).1 = 19 ∨ (kindOf k).1 = 3)) := by
  unfold kindOf
  split
  · simp
  · split
    · simp
    · split <;> simp

theorem xor_one (x : Int) (h : 0 ≤ x ∧ x < 18446744073709551616) : bits .xor .u64 x 1 ≠ x := by
  obtain ⟨a, rfl⟩ := Int.eq_ofNat_of_zero_le h.1
  have ha : a < 2 ^ 64 := by omega
  intro hx
  have e1 : bits .xor .u64 (a : Int) 1 = IntKind.u64.wrap (((a ^^^ 1 : Nat)) : Int) := by
    have e2 : (1 : Int) = ((1 : Nat) : Int) := rfl
    rw [e2]
    have h1 : a % 2 ^ IntKind.u64.bits = a := Nat.mod_eq_of_lt ha
    have h2 : 1 % 2 ^ IntKind.u64.bits = 1 := by decide
    simp only [bits, BitVec.ofInt_natCast, BitVec.toNat_xor, BitVec.toNat_ofNat, h1, h2]
  have hlt : a ^^^ 1 < 2 ^ 64 := Nat.xor_lt_two_pow ha (by decide)
  rw [e1, IntKind.wrap_u64] at hx
  have e3 : a ^^^ 1 = a := by omega
  have e4 := congrArg (fun n => n.testBit 0) e3
  simp at e4
  omega
end Go.Proofs.Ybulkcfyi
