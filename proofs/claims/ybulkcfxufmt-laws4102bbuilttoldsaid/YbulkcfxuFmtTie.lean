/-
  DERIVED. GIVEN WITH THE SEED: THE PROGRAM's TIES (one call each: nine closed facts by the kernel) AND EACH ROW's TIE, after the 31st guide's Derived/Test/Toyas{Tie, Card}.lean. No idea stands in it: it is a product of the set-up. Laid BY PROGRAM, IN A SANDBOX (cutbox-door.mjs). By AI agents, Wed Nov 11 2026. No macro, syntax, notation, axiom, sorry.
-/
import Derived.Test.YbulkcfxuFmtRows
import Derived.LaidByTextLater
import Derived.SevenTiedAt
import Derived.LaidSub
import Derived.LaidOnce
namespace Go.Proofs.YbulkcfxuFmt
open Go
set_option maxRecDepth 100000
theorem seatTie1 : Ybaf.prog.laidByTextLater [("example.com/lodestore/lodestore.ErrNotStore", Rows.laid_example_com_lodestore_lodestore_ErrNotStore), ("example.com/lodestore/lodestore.ErrVersion", Rows.laid_example_com_lodestore_lodestore_ErrVersion)] [.sentinel, .sentinel] true :=
  Program.laidByTextLater_by_one 47 8 2 (by kernel_rfl) (by kernel_rfl) (by kernel_rfl) (by kernel_rfl) (by kernel_rfl) (by kernel_rfl) (fun _ _ => by kernel_rfl)
theorem noOwnUnsafe : Ybaf.pinned.checked.prog.headLifts.contains "ownunsafe" = false := by kernel_rfl
theorem tie : Ybaf.prog.laidByTextLater [("example.com/lodestore/lodestore.ErrNotStore", Rows.laid_example_com_lodestore_lodestore_ErrNotStore), ("example.com/lodestore/lodestore.ErrVersion", Rows.laid_example_com_lodestore_lodestore_ErrVersion)] [.sentinel, .sentinel] true :=
  Program.laidByTextLater.sub seatTie1 ["example.com/lodestore/lodestore.ErrNotStore", "example.com/lodestore/lodestore.ErrVersion"] (by kernel_rfl) (by kernel_rfl)
theorem lawS4102BRaw_row_tie : Rows.lawS4102BRawRow.laidByTextAt .later Ybaf.pinned [.sentinel, .sentinel] true :=
  OpenClaim.laidByTextAt_later rfl rfl tie noOwnUnsafe
theorem lawS4102BBuilt_row_tie : Rows.lawS4102BBuiltRow.laidByTextAt .later Ybaf.pinned [.sentinel, .sentinel] true :=
  OpenClaim.laidByTextAt_later rfl rfl tie noOwnUnsafe
end Go.Proofs.YbulkcfxuFmt
