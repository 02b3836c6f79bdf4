/-
  An array of 20 bytes, opened.
-/
import Derived.Test.YbulkcfzkBytes
import Derived.ProofKit
import Derived.OpenShut
namespace Go.Proofs.Ybulkcfzk
open Go.ChangeShapes Go.WideShapes Go.ChangeAt Go.RowKit

theorem Yba.own : ownKnob Yba.prog.godebug = none := by kernel_rfl
theorem Yba.laidOut : laidOutB Yba.prog = true := by kernel_rfl

/-- The numbers of a row whose cells are all bytes. -/
theorem nums_of (l : List Value) (h : ∀ i, i < l.length → ∃ z, l[i]? = some (.int .u8 z) ∧ 0 ≤ z ∧ z ≤ 255) : ∃ zs : List Int, l = zs.map (Value.int .u8) ∧ Byt zs := by
  induction l with
  | nil => exact ⟨[], rfl, fun z hz => by cases hz⟩
  | cons v l ih =>
    obtain ⟨z, hz, hb⟩ := h 0 (by simp)
    obtain ⟨zs, rfl, hzs⟩ := ih (fun i hi => by
      have := h (i + 1) (by simpa using hi)
      simpa using this)
    have hz' : v = .int .u8 z := by simpa using hz
    subst hz'
    refine ⟨z :: zs, rfl, fun y hy => ?_⟩
    rcases List.mem_cons.1 hy with rfl | hy
    · exact hb
    · exact hzs y hy

theorem open20 {H : Type} {enc : TypeId × Value → H} {w : World} {base : Nat} {spare : Nat → Bool} {held : Bool} {cs : Array Value} {d : DataW H} {p : List MemPlace} (hsz : cs.size = 20)
    (h : DataW.Trod enc Yba.prog w base spare held 61 (.agg cs) d p) : ∃ zs : List Int, cs = cellsU8 zs ∧ zs.length = 20 ∧ Byt zs := by
  obtain ⟨fuel, hf⟩ := h
  obtain ⟨xs, m, _, hx, hl, hxl, hall⟩ := DataW.trod_array Yba.underlying61 hf
  obtain ⟨l⟩ := cs
  have hll : l.length = 20 := by simpa using hsz
  obtain ⟨zs, hz, hb⟩ := nums_of l (fun i hi => by
    have hi20 : i < 20 := by omega
    have e := hall i hi20
    rw [Yba.cells5, Nat.mul_one] at e
    have ex : ∃ y, xs[i]? = some y := ⟨_, List.getElem?_eq_getElem (by omega)⟩
    obtain ⟨y, hy⟩ := ex
    rw [hy] at e
    obtain ⟨z, ez, _, wz⟩ := DataW.trod_int Yba.underlying5 e
    have hd : (List.drop i l).take 1 = [l[i]] := by rw [List.drop_eq_getElem_cons (by omega)]; rfl
    have ez' : (List.drop i l).take 1 = [.int .u8 z] := ez
    rw [hd] at ez'
    have ev : l[i] = .int .u8 z := by simpa using ez'
    exact ⟨z, by rw [List.getElem?_eq_getElem (by omega), ev], bounds_u8 wz⟩)
  subst hz
  exact ⟨zs, rfl, by simpa using hll, hb⟩

set_option maxRecDepth 100000 in
theorem agg20 {w : World} {base : Nat} {v : Value} (h : Value.okWide Yba.prog w .any base 61 v) : ∃ cs, v = .agg cs ∧ cs.size = 20 := by
  obtain ⟨cs, rfl, hsz, _⟩ : ∃ cs, v = .agg cs ∧ cs.size = Yba.prog.cellsOf 61 ∧ Row.okWide Yba.prog w .any base 61 cs := by
    simpa [Value.okWide, Yba.underlying61] using h
  rw [Yba.cells61] at hsz
  exact ⟨cs, rfl, hsz⟩
end Go.Proofs.Ybulkcfzk
