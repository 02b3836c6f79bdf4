/-
  LawS4103BHoles: what the last loop finds; its frame.
-/
import Derived.Test.YbulkcfyiH10
namespace Go.Proofs.Ybulkcfyi
open Go.RowKit Go.Stop

structure Chk (w : World) (sb tb N : Nat) (st en : Nat → Int) (hv : Nat → Value) (qs : Nat → List (Int × Int)) : Prop where
  s5 : w.cell? ⟨sb, 5, none⟩ = some (.slice (some ⟨tb, 0, none⟩) N N)
  t0 : ∀ i, i < N → w.cell? ⟨tb, i * 5, none⟩ = some (.int .u64 (st i))
  t1 : ∀ i, i < N → w.cell? ⟨tb, i * 5 + 1, none⟩ = some (.int .u64 (en i))
  t2 : ∀ i, i < N → w.cell? ⟨tb, i * 5 + 2, none⟩ = some (.slice none 0 0)
  t3 : ∀ i, i < N → w.cell? ⟨tb, i * 5 + 3, none⟩ = some (hv i)
  pc : ∀ i, i < N → PcAt w (hv i) (qs i)

theorem Chk.turned {w w' : World} {sb tb N : Nat} {st en : Nat → Int} {hv : Nat → Value} {qs : Nat → List (Int × Int)} (h : Chk w sb tb N st en hv qs) (t : Turned [] w w') : Chk w' sb tb N st en hv qs where
  s5 := (t.cell (p := ⟨sb, 5, none⟩) (World.block_lt_of_cell? _ _ h.s5) (by simp)).trans h.s5
  t0 := fun i hi => (t.cell (p := ⟨tb, i * 5, none⟩) (World.block_lt_of_cell? _ _ (h.t0 i hi)) (by simp)).trans (h.t0 i hi)
  t1 := fun i hi => (t.cell (p := ⟨tb, i * 5 + 1, none⟩) (World.block_lt_of_cell? _ _ (h.t1 i hi)) (by simp)).trans (h.t1 i hi)
  t2 := fun i hi => (t.cell (p := ⟨tb, i * 5 + 2, none⟩) (World.block_lt_of_cell? _ _ (h.t2 i hi)) (by simp)).trans (h.t2 i hi)
  t3 := fun i hi => (t.cell (p := ⟨tb, i * 5 + 3, none⟩) (World.block_lt_of_cell? _ _ (h.t3 i hi)) (by simp)).trans (h.t3 i hi)
  pc := fun i hi => (h.pc i hi).turned t (by simp)

theorem PcAt.form {w : World} {v : Value} {ps : List (Int × Int)} (h : PcAt w v ps) : ∃ pv cap, v = .slice pv ps.length cap := by
  rcases h with ⟨rfl, rfl⟩ | ⟨g, cap, rfl, _⟩
  · exact ⟨none, 0, rfl⟩
  · exact ⟨_, cap, rfl⟩

def KH (sb : Nat) (kv pa pb : Int) (N i : Nat) : List (Nat × Value) :=
  [(33, .pointer (some ⟨sb, 0, none⟩)), (34, .int .i64 kv), (35, .int .u64 pa), (36, .int .u64 pb), (294, .int .i64 N), (295, .int .i64 i)]

def P12 (l0 : List (Nat × Value)) (sb : Nat) (kv pa pb : Int) (N i : Nat) (w : World) : Exit → Act → World → Prop
  | .normal, a, w' => ∃ f, a = fr f ∧ Kn f l0 ∧ Kn f (KH sb kv pa pb N (i + 1)) ∧ Turned [] w w'
  | _, _, _ => False
end Go.Proofs.Ybulkcfyi
