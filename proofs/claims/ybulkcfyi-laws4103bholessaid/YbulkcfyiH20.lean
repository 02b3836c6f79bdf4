/-
  The argument 'sts', opened.
-/
import Derived.Test.YbulkcfyiH0
import Derived.Deep.Slices
import Derived.OpenShut
namespace Go.Proofs.Ybulkcfyi
open Go.RowKit Go.Stop Go.Deep Go.ChangeShapes Go.WideShapes

theorem Yba.cells26 : Yba.prog.cellsOf 26 = 3 := by kernel_rfl
theorem Yba.cells24 : Yba.prog.cellsOf 24 = 1 := by kernel_rfl
theorem Yba.cells42 : Yba.prog.cellsOf 42 = 2 := by kernel_rfl
theorem Yba.cells22 : Yba.prog.cellsOf 22 = 1 := by kernel_rfl

section
variable {H : Type} {enc : TypeId × Value → H} {W : World} {spare : Nat → Bool} {held : Bool}

/-- The cells behind an address that can be read: it is a plain one. -/
theorem plain_addr {W : World} {a : Addr} {k : Nat} {v : Value} (h : W.cell? (a.add (0 * k)) = some v) : ∃ g o, a = ⟨g, o, none⟩ := by
  obtain ⟨g, o, spot⟩ := a
  have hspot : spot = none := by simpa [Addr.add] using World.cell?_spot h
  exact ⟨g, o, by rw [hspot]⟩

set_option maxRecDepth 100000 in
theorem open_pairs {fuel : Nat} {cs : List Value} {x : DataW H × List MemPlace} (h : DataW.trod enc Yba.prog W 0 spare held fuel 24 cs = some x) :
    ∃ (p : Option Addr) (l c : Nat) (zs : List (Int × Int)), cs = [.slice p l c] ∧ zs.length = l ∧ (p = none → l = 0 ∧ c = 0) ∧ (l = 0 ∨ ∃ g o, p = some ⟨g, o, none⟩ ∧ ∀ j, j < l → W.cell? ⟨g, o + j * 2, none⟩ = some (.int .u64 (zs.getD j (0, 0)).1) ∧ W.cell? ⟨g, o + j * 2 + 1, none⟩ = some (.int .u64 (zs.getD j (0, 0)).2)) := by
  rcases open_slice Yba.underlying24 h with ⟨rfl, _⟩ | ⟨a, len, cap, m, n, D, Pl, rfl, _, hl, _, hm, _, hx⟩
  · exact ⟨none, 0, 0, [], rfl, rfl, fun _ => ⟨rfl, rfl⟩, .inl rfl⟩
  have hlm : len ≤ m := by rw [hm]; split <;> omega
  have each : ∀ j, j < len → ∃ z : Int × Int, W.cell? (a.add (j * 2)) = some (.int .u64 z.1) ∧ W.cell? (a.add (j * 2 + 1)) = some (.int .u64 z.2) := by
    intro j hj
    obtain ⟨cs', h1, h2⟩ := hx j (by omega)
    rw [Yba.cells42] at h1
    obtain ⟨_, hlen, hcell⟩ := World.cells?_some h1
    obtain ⟨xs, k, _, _, _, hxl, hf⟩ := DataW.trod_array Yba.underlying42 h2
    match xs, hxl, cs', hlen with
    | [y0, y1], _, [v0, v1], _ =>
      have g0 := hf 0 (by decide)
      have g1 := hf 1 (by decide)
      simp [Yba.cells22] at g0 g1
      obtain ⟨s, e0, _, _⟩ := DataW.trod_int Yba.underlying22 g0
      obtain ⟨e, e1, _, _⟩ := DataW.trod_int Yba.underlying22 g1
      simp only [List.cons.injEq, and_true] at e0 e1
      subst e0 e1
      have d0 := hcell 0 (by omega)
      have d1 := hcell 1 (by omega)
      rw [add_add] at d0 d1
      exact ⟨(s, e), by simpa using d0, by simpa using d1⟩
  obtain ⟨z, hz⟩ := choose_lt each
  refine ⟨some a, len, cap, (List.range len).map z, rfl, by simp, (fun h => by cases h), ?_⟩
  by_cases h0 : len = 0
  · exact .inl h0
  · obtain ⟨g, o, rfl⟩ := plain_addr (hz 0 (by omega)).1
    refine .inr ⟨g, o, rfl, fun j hj => ?_⟩
    have e : ((List.range len).map z).getD j (0, 0) = z j := by simp [List.getD_eq_getElem?_getD, hj]
    rw [e, Nat.add_assoc, ← add_plain, ← add_plain]
    exact hz j hj

set_option maxRecDepth 100000 in
theorem open_sts {fuel : Nat} {cs : List Value} {x : DataW H × List MemPlace} (h : DataW.trod enc Yba.prog W 0 spare held fuel 23 cs = some x) :
    ∃ (p : Option Addr) (N C : Nat) (st en : Nat → Int) (hp : Nat → Option Addr) (hl hc : Nat → Nat) (hs : Nat → List (Int × Int)), cs = [.slice p N C] ∧ Sts W p N st en hp hl hc hs := by
  rcases open_slice Yba.underlying23 h with ⟨rfl, _⟩ | ⟨a, len, cap, m, n, D, Pl, rfl, _, hl, _, hm, _, hx⟩
  · exact ⟨none, 0, 0, fun _ => 0, fun _ => 0, fun _ => none, fun _ => 0, fun _ => 0, fun _ => [], rfl, ⟨.inl rfl, fun i hi => by omega⟩⟩
  have hlm : len ≤ m := by rw [hm]; split <;> omega
  have each : ∀ i, i < len → ∃ q : Int × Int × Option Addr × Nat × Nat × List (Int × Int), W.cell? (a.add (i * 3)) = some (.int .u64 q.1) ∧ W.cell? (a.add (i * 3 + 1)) = some (.int .u64 q.2.1) ∧ W.cell? (a.add (i * 3 + 2)) = some (.slice q.2.2.1 q.2.2.2.1 q.2.2.2.2.1) ∧
      q.2.2.2.2.2.length = q.2.2.2.1 ∧ (q.2.2.1 = none → q.2.2.2.1 = 0 ∧ q.2.2.2.2.1 = 0) ∧ (q.2.2.2.1 = 0 ∨ ∃ g o, q.2.2.1 = some ⟨g, o, none⟩ ∧ ∀ j, j < q.2.2.2.1 → W.cell? ⟨g, o + j * 2, none⟩ = some (.int .u64 (q.2.2.2.2.2.getD j (0, 0)).1) ∧ W.cell? ⟨g, o + j * 2 + 1, none⟩ = some (.int .u64 (q.2.2.2.2.2.getD j (0, 0)).2)) := by
    intro i hi
    obtain ⟨cs', h1, h2⟩ := hx i (by omega)
    rw [Yba.cells26] at h1
    obtain ⟨_, hlen, hcell⟩ := World.cells?_some h1
    obtain ⟨xs, k, _, _, _, hxl, hf⟩ := DataW.trod_struct Yba.underlying26 h2
    match xs, hxl, cs', hlen with
    | [y0, y1, y2], _, [v0, v1, v2], _ =>
      have g0 := hf 0 _ rfl
      have g1 := hf 1 _ rfl
      have g2 := hf 2 _ rfl
      simp [Yba.cells22, Yba.cells24] at g0 g1 g2
      obtain ⟨s, e0, _, _⟩ := DataW.trod_int Yba.underlying22 g0
      obtain ⟨e, e1, _, _⟩ := DataW.trod_int Yba.underlying22 g1
      obtain ⟨p, l, c, zs, e2, r1, r2, r3⟩ := open_pairs g2
      simp only [List.cons.injEq, and_true] at e0 e1 e2
      subst e0 e1 e2
      have d0 := hcell 0 (by omega)
      have d1 := hcell 1 (by omega)
      have d2 := hcell 2 (by omega)
      rw [add_add] at d0 d1 d2
      exact ⟨(s, e, p, l, c, zs), by simpa using d0, by simpa using d1, by simpa using d2, r1, r2, r3⟩
  obtain ⟨q, hq⟩ := choose_lt each
  refine ⟨some a, len, cap, fun i => (q i).1, fun i => (q i).2.1, fun i => (q i).2.2.1, fun i => (q i).2.2.2.1, fun i => (q i).2.2.2.2.1, fun i => (q i).2.2.2.2.2, rfl, ⟨?_, fun i hi => ⟨(hq i hi).2.2.2.1, (hq i hi).2.2.2.2.1, (hq i hi).2.2.2.2.2⟩⟩⟩
  by_cases h0 : len = 0
  · exact .inl h0
  · obtain ⟨g, o, rfl⟩ := plain_addr (hq 0 (by omega)).1
    refine .inr ⟨g, o, rfl, fun i hi => ?_⟩
    have := hq i hi
    rw [Nat.add_assoc, Nat.add_assoc, ← add_plain, ← add_plain, ← add_plain]
    exact ⟨this.1, this.2.1, this.2.2.1⟩
end
end Go.Proofs.Ybulkcfyi
