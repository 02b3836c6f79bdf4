/-
  DERIVED. GIVEN WITH THE SEED: THE CARDS: each row of YbulkcfxuFmtRows.lean that lists a variable, with what it lists TIED to the program's text (the seventh form; the later family's looks); each row that meets fmt, with fmt's text TOLD by the authors' own Lean function (tested against real Go, not proved from fmt's source: count such statements apart). THE CARD IS WHAT COUNTS. Prove the row's statement (the work); the ties are given (YbulkcfxuFmtTie.lean); close each card by the builder's one call (the guide's Derived/Test/ToyasCard.lean, 'card_holds'). Laid BY PROGRAM, IN A SANDBOX (cutbox-door.mjs). By AI agents, Wed Nov 11 2026. No macro, syntax, notation, axiom, sorry.
-/
import Derived.Test.YbulkcfxuFmtRows
import GoSem.ClaimSeven
namespace Go.Proofs.YbulkcfxuFmt
namespace Rows

/-- THE TOLD AND TIED CARD OF 'lodestore.LawS4102BRaw'. -/
def lawS4102BRawCard : Claim7 := { stood := { row := lawS4102BRawRow, standIns := [], harness := (true, "361101ba6c3a6f8ee04dd3aaabbe357aed67bb6dc4a6d818078b14e8ada7fa7d"), looks := true }, told := true, laidByText := true, laidKinds := [.sentinel, .sentinel], laidTests := true, laidLooks := .later, goes := false }
def LawS4102BRawToldSaid : Prop := Claim7.holds Ybaf.pinned (.plain (OpenSpec.ofChange lawS4102BRawSpec)) lawS4102BRawCard
/-- ITS FALSE NEIGHBOUR. Refute it at one input. -/
def LawS4102BRawToldWrongFalsely : Prop := Claim7.holds Ybaf.pinned (.plain (OpenSpec.ofChange lawS4102BRawWrong)) lawS4102BRawCard

/-- THE TOLD AND TIED CARD OF 'lodestore.LawS4102BBuilt'. -/
def lawS4102BBuiltCard : Claim7 := { stood := { row := lawS4102BBuiltRow, standIns := [], harness := (true, "361101ba6c3a6f8ee04dd3aaabbe357aed67bb6dc4a6d818078b14e8ada7fa7d"), looks := true }, told := true, laidByText := true, laidKinds := [.sentinel, .sentinel], laidTests := true, laidLooks := .later, goes := false }
def LawS4102BBuiltToldSaid : Prop := Claim7.holds Ybaf.pinned (.plain (OpenSpec.ofChange lawS4102BBuiltSpec)) lawS4102BBuiltCard
/-- ITS FALSE NEIGHBOUR. Refute it at one input. -/
def LawS4102BBuiltToldWrongFalsely : Prop := Claim7.holds Ybaf.pinned (.plain (OpenSpec.ofChange lawS4102BBuiltWrong)) lawS4102BBuiltCard
end Rows
end Go.Proofs.YbulkcfxuFmt
