/-
  zzs4102bcheck by one contract, and LawS4102BRaw.
-/
import Derived.Test.YbulkcfxuFmtCheck2
namespace Go.Proofs.YbulkcfxuFmt
open Go.RowKit Go.Extern.Stop Go.Stop Go.Extern

/-- The two sentinels lie as the card says. -/
structure Sent (w : World) (a0 a1 : Addr) (s : ByteArray) (ca0 ca1 : Array Value) (t0 t1 : TypeId) : Prop where
  h0 : w.cell? ⟨0, 0, none⟩ = some (.iface 58 (.pointer (some a0)))
  h1 : w.cell? ⟨1, 0, none⟩ = some (.iface 58 (.pointer (some a1)))
  hs : w.cell? a1 = some (.string s)
  hne : a0 ≠ a1
  hh0 : w.heap[a0.block]? = some (.cells ca0 t0 (0, 0))
  hh1 : w.heap[a1.block]? = some (.cells ca1 t1 (0, 0))

theorem block_lt {w : World} {k : Nat} {o : Obj} (h : w.heap[k]? = some o) : k < w.heap.size := by
  rcases Nat.lt_or_ge k w.heap.size with h' | h'
  · exact h'
  · simp [Array.getElem?_eq_none h'] at h

theorem Sent.later {w w1 : World} {a0 a1 : Addr} {s : ByteArray} {ca0 ca1 : Array Value} {t0 t1 : TypeId} (S : Sent w a0 a1 s ca0 ca1 t0 t1) (hb : Below w.heap.size w w1) : Sent w1 a0 a1 s ca0 ca1 t0 t1 where
  h0 := later_cell hb (World.block_lt_of_cell? _ _ S.h0) S.h0
  h1 := later_cell hb (World.block_lt_of_cell? _ _ S.h1) S.h1
  hs := (hb.cell (p := a1) (World.block_lt_of_cell? _ _ S.hs)).trans S.hs
  hne := S.hne
  hh0 := (hb.block _ (block_lt S.hh0)).trans S.hh0
  hh1 := (hb.block _ (block_lt S.hh1)).trans S.hh1

/-- A slice of bytes as it lies: nil, or without an element, or an address and the cells of its elements. -/
def Byts (w : World) (p : Option Addr) (n : Nat) (zs : List Int) : Prop :=
  n = 0 ∨ ∃ g o, p = some ⟨g, o, none⟩ ∧ zs.length = n ∧ (∀ i, i < n → w.cell? ⟨g, o + i, none⟩ = some (.int .u8 (zs.getD i 0))) ∧ ∀ z ∈ zs, 0 ≤ z ∧ z ≤ 255

theorem check_any (p : Option Addr) (n c : Nat) (zs : List Int) (a0 a1 : Addr) (s : ByteArray) (ca0 ca1 : Array Value) (t0 t1 : TypeId) (w : World) (hn : n ≤ 2000) (S : Sent w a0 a1 s ca0 ca1 t0 t1) (hb : Byts w p n zs) :
    Calls Ybaf.prog 5 #[.slice p n c] w fun e w' => e = .returned (.bool true) ∧ Below w.heap.size w w' := by
  rcases hb with rfl | ⟨g, o, rfl, hl, hz, hr⟩
  · cases p with
    | none => exact check_nil c a0 w S.h0
    | some a => exact check_zero a c a0 w S.h0
  by_cases h8 : n < 8
  · exact check_short g o n c zs a0 w S.h0 hl hz h8
  obtain ⟨z0, z1, z2, z3, z4, z5, z6, z7, r, hzs⟩ := eight zs (by omega)
  have b0 := hr z0 (by rw [hzs]; simp)
  have b1 := hr z1 (by rw [hzs]; simp)
  have b2 := hr z2 (by rw [hzs]; simp)
  have b3 := hr z3 (by rw [hzs]; simp)
  have b4 := hr z4 (by rw [hzs]; simp)
  have b5 := hr z5 (by rw [hzs]; simp)
  have b6 := hr z6 (by rw [hzs]; simp)
  have b7 := hr z7 (by rw [hzs]; simp)
  have d0 : zs.getD 0 0 = z0 := by rw [hzs]; rfl
  have d1 : zs.getD 1 0 = z1 := by rw [hzs]; rfl
  have d2 : zs.getD 2 0 = z2 := by rw [hzs]; rfl
  have d3 : zs.getD 3 0 = z3 := by rw [hzs]; rfl
  have d4 : zs.getD 4 0 = z4 := by rw [hzs]; rfl
  have d5 : zs.getD 5 0 = z5 := by rw [hzs]; rfl
  have d6 : zs.getD 6 0 = z6 := by rw [hzs]; rfl
  have d7 : zs.getD 7 0 = z7 := by rw [hzs]; rfl
  by_cases hm : z0 = 76 ∧ z1 = 79 ∧ z2 = 68 ∧ z3 = 69
  · obtain ⟨e0, e1, e2, e3⟩ := hm
    by_cases hv : z4 + z5 * 256 = 1 ∧ z6 + z7 * 256 ≤ 2
    · exact check_ok g o n c zs z4 z5 z6 z7 a0 a1 s w hn S.h0 S.h1 S.hs hl hz (by omega) b4 b5 b6 b7 (d0.trans e0) (d1.trans e1) (d2.trans e2) (d3.trans e3) d4 d5 d6 d7 hv
    · exact check_ver g o n c zs z4 z5 z6 z7 a0 a1 s ca0 ca1 t0 t1 w hn S.h0 S.h1 S.hs hl hz (by omega) b4 b5 b6 b7 (d0.trans e0) (d1.trans e1) (d2.trans e2) (d3.trans e3) d4 d5 d6 d7 hv S.hne S.hh0 S.hh1
  · exact check_bad g o n c zs z0 z1 z2 z3 a0 w hn S.h0 hl hz (by omega) b0 b1 b2 b3 d0 d1 d2 d3 hm

set_option maxHeartbeats 400000 in
theorem raw_long (p : Option Addr) (n c : Nat) (w : World) (h : 1024 < n) :
    Calls Ybaf.prog 3 #[.slice p n c] w fun e w' => e = .returned (.bool true) ∧ w' = w := by
  go_enter Ybaf.func3, Ybaf.ntmps3
  go_wp2
  go_ret
  exact ⟨rfl, rfl⟩

set_option maxHeartbeats 400000 in
theorem raw_any (p : Option Addr) (n c : Nat) (zs : List Int) (a0 a1 : Addr) (s : ByteArray) (ca0 ca1 : Array Value) (t0 t1 : TypeId) (w : World) (S : Sent w a0 a1 s ca0 ca1 t0 t1) (hb : Byts w p n zs) :
    Calls Ybaf.prog 3 #[.slice p n c] w fun e w' => e = .returned (.bool true) ∧ Below w.heap.size w w' := by
  by_cases h : 1024 < n
  · refine (raw_long p n c w h).mono ?_
    rintro e w' ⟨rfl, rfl⟩
    exact ⟨rfl, Below.refl _ _⟩
  · go_enter Ybaf.func3, Ybaf.ntmps3
    go_wp2_with fail
    refine (check_any p n c zs a0 a1 s ca0 ca1 t0 t1 w (by omega) S hb).mono ?_
    rintro e w' ⟨rfl, hb'⟩
    go_wp2
    go_ret
    exact ⟨rfl, hb'⟩
end Go.Proofs.YbulkcfxuFmt
