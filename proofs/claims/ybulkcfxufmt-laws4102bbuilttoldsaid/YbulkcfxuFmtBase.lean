/-
  The closed facts on the two sentinels, a world in which they lie so, and a slice of bytes as it was read: for both laws.
-/
import Derived.Test.YbulkcfxuFmtRows
import Derived.Test.YbulkcfxuFmtLaw
import Derived.ProofKit
import Derived.Stop.JoinedTold
import Derived.Stop.JoinedAt
import Derived.Stop.Texts
import Derived.Stop.LaidErr
import Derived.Stop.LaidTwo
import Derived.SevenTiedAt
namespace Go.Proofs.YbulkcfxuFmt
open Go.ChangeShapes Go.WideShapes Go.ChangeAt Go.RowKit Go.Kit
open Go.Extern.Stop Go.Stop Go.Extern

/-! ### The names and the numbers of the two variables -/
def nm0 : String := Rows.lawS4102BRawSpec.vars.getD 0 ""
def nm1 : String := Rows.lawS4102BRawSpec.vars.getD 1 ""
theorem Ybaf.own : ownKnob Ybaf.prog.godebug = none := by kernel_rfl
theorem Ybaf.laidOut : laidOutB Ybaf.pinned.checked.prog = true := by kernel_rfl
theorem Ybaf.stops : Ybaf.pinned.checked.prog.stops = ["fmt.errorf"] := by kernel_rfl
theorem Ybaf.stopKnobs : Ybaf.pinned.checked.prog.stopKnobs = [] := by kernel_rfl
theorem Ybaf.quiet (os : Os) : Stop.quiet Ybaf.pinned.checked.prog os := by
  intro k hk
  rw [Ybaf.stopKnobs] at hk
  cases hk
theorem Ybaf.g0 : Ybaf.prog.globalNamed nm0 = some 0 := by kernel_rfl
theorem Ybaf.g1 : Ybaf.prog.globalNamed nm1 = some 1 := by kernel_rfl
theorem Ybaf.g0Type : (Ybaf.prog.globals[0]?).map (·.type) = some 28 := by kernel_rfl
theorem Ybaf.g1Type : (Ybaf.prog.globals[1]?).map (·.type) = some 28 := by kernel_rfl
theorem Ybaf.cells60 : Ybaf.prog.cellsOf 60 = 1 := by kernel_rfl
theorem Ybaf.cells9 : Ybaf.prog.cellsOf 9 = 1 := by kernel_rfl
theorem Ybaf.cells5 : Ybaf.prog.cellsOf 5 = 1 := by kernel_rfl
theorem Ybaf.row58 (u : TypeId) (h : Ybaf.prog.typeName? 3 u = some starName) : u = 58 :=
  typeName_ptr_named (nm := "errors.errorString") (by kernel_rfl) (by kernel_rfl) (by decide) u (h.trans (by kernel_rfl))

/-! ### A world in which the two sentinels lie as the program's text lays them -/
abbrev text0 : ByteArray := { data := #[110, 111, 116, 32, 97, 32, 76, 111, 100, 101, 115, 116, 111, 114, 101, 32, 115, 116, 111, 114, 101] }
abbrev text1 : ByteArray := { data := #[117, 110, 115, 117, 112, 112, 111, 114, 116, 101, 100, 32, 102, 111, 114, 109, 97, 116, 32, 118, 101, 114, 115, 105, 111, 110] }
def lowOf (P : Program) : Nat := (World.holding P default ⟨#[], #[], []⟩).heap.size
def laidWorldOf (P : Program) (os : Os) : World :=
  let w0 := World.holding P os ⟨#[.cells #[.string text0] 60, .cells #[.string text1] 60], #[], []⟩
  { w0 with heap := (w0.heap.modify 0 fun
      | .cells _ t frozen => .cells #[.iface 58 (.pointer (some ⟨lowOf P, 0, none⟩))] t frozen
      | o => o).modify 1 fun
      | .cells _ t frozen => .cells #[.iface 58 (.pointer (some ⟨lowOf P + 1, 0, none⟩))] t frozen
      | o => o }
theorem laid_met (os : Os) (args : Array Value) : laidMet Ybaf.prog Rows.lawS4102BRawRow.laid ((laidWorldOf Ybaf.prog os).forCall (fun _ _ => 0) ⟨#[], args, []⟩).memory :=
  laidMet_of_run (ps := [.cell 0 0, .cell (lowOf Ybaf.prog) 0, .cell 1 0, .cell (lowOf Ybaf.prog + 1) 0]) 8 (by kernel_rfl) (by kernel_rfl) (by kernel_rfl)

/-- What a slice of bytes that was read gives. -/
theorem byts_of {H : Type} {enc : TypeId × Value → H} {P : Program} {W : World} {t e : TypeId} {fuel : Nat} {sa : Option Addr} {len cap : Nat} {x : DataW H × List MemPlace} (ht : P.underlying t = some (.slice e)) (he : P.underlying e = some (.int .u8)) (hc : P.cellsOf e = 1)
    (h : DataW.trod enc P W 0 (fun _ => true) true fuel t (Value.slice sa len cap).cells.toList = some x) : ∃ zs, Byts W sa len zs := by
  rcases open_ints ht he hc h with ⟨hcs, hx⟩ | ⟨a, len', cap', zs, hcs, _, hl, hm, hz, hx, hcell, hwz⟩
  · simp [Value.cells] at hcs
    obtain ⟨rfl, rfl, rfl⟩ := hcs
    exact ⟨[], Or.inl rfl⟩
  · simp [Value.cells] at hcs
    obtain ⟨rfl, rfl, rfl⟩ := hcs
    simp only [if_true] at hz
    by_cases hl0 : len = 0
    · exact ⟨[], Or.inl hl0⟩
    · obtain ⟨b, off, spot⟩ := a
      have hspot : spot = none := by simpa [Addr.add] using World.cell?_spot (hcell 0 (by omega))
      subst hspot
      refine ⟨zs.take len, Or.inr ⟨b, off, rfl, by rw [List.length_take]; omega, fun i hi => ?_, fun z hz' => ?_⟩⟩
      · have := hcell i (by omega)
        rw [add_plain] at this
        rw [this]
        simp [List.getD, hi]
      · have hw := hwz z (List.mem_of_mem_take hz')
        have e1 : IntKind.u8.min = 0 := rfl
        have e2 : IntKind.u8.max = 255 := rfl
        simpa [Lit.wf, e1, e2] using hw

end Go.Proofs.YbulkcfxuFmt
