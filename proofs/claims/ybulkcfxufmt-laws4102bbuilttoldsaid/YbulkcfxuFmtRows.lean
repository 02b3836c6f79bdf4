/-
  NARROWER THAN 'FOR EVERY INPUT', by the rows' own cells (each row's printed sentence says how): LawS4102BRaw: ifaces, laid · LawS4102BBuilt: ifaces, laid.
  DERIVED. THE GIVEN ROWS OF THIS SEAT. 2 by the template 'for every input the law returns true; each argument reads behind the call as it read before'; 0 by the template 'total and deterministic' (their statements: YbulkcfxuFmtTotals.lean).
  GIVEN WITH THE SEED: the statements are not yours to turn. If you find one false, say at which input.
  Laid BY PROGRAM, IN A SANDBOX (cutbox-rows.mjs): the forced cells as the released guide's own fill.sh prints them over the translation e83dcca8958160fa… (all of the seat's roots in one cut). By AI agents, Wed Nov 11 2026. No macro, syntax, notation, axiom, sorry.
-/
import Derived.Test.YbulkcfxuFmtChecked
import GoSem.Claim
import GoSem.ClaimJoined
import GoSem.ClaimMapViews
import Derived.JoinedTies
import Derived.KernelRfl
namespace Go.Proofs.YbulkcfxuFmt
/- THE CELL 'sum', in the pinned program and in every row, IS THE sha256 OF THE DUMP (.gsa) THAT YbulkcfxuFmtProg.lean LOADS. Nothing in Lean hashes anything: it is a label: what it is worth is what the hold of that sum in a sandbox is worth. -/
noncomputable def Ybaf.pinned : Pinned := { name := "ybulkcfxufmt", sum := "e83dcca8958160fa2bd5e55547f1ca9527e397075b1901e7d7d6981f20012d95", checked := Ybaf.checked }
namespace Rows
def none {H : Type} : Left H := { results := [], args := [] }

/- WHAT THE LISTED PACKAGE-LEVEL VARIABLES READ AS WHEN THE CALL BEGINS. Each datum BY PROGRAM (the guide's laid-datum.mjs) off the statement by which the dump's own 'gosem.cut.vars' lays the variable. In a bare row this is a premise. The card (YbulkcfxuFmtCards.lean) ties it to the program's text. -/
def laid_example_com_lodestore_lodestore_ErrNotStore {H : Type} : DataW H := .iface "*errors.errorString" (.ptr (.agg [.lit (.string [110, 111, 116, 32, 97, 32, 76, 111, 100, 101, 115, 116, 111, 114, 101, 32, 115, 116, 111, 114, 101])]))
def laid_example_com_lodestore_lodestore_ErrVersion {H : Type} : DataW H := .iface "*errors.errorString" (.ptr (.agg [.lit (.string [117, 110, 115, 117, 112, 112, 111, 114, 116, 101, 100, 32, 102, 111, 114, 109, 97, 116, 32, 118, 101, 114, 115, 105, 111, 110])]))

/-- 'lodestore.LawS4102BRaw': WHATEVER THE INPUT: true; the input reads as it did. -/
def lawS4102BRawSpec : ChangeSpec := { name := "lawS4102BRaw", vars := ["example.com/lodestore/lodestore.ErrNotStore", "example.com/lodestore/lodestore.ErrVersion"], fn := fun _ => fun
  | [d, g1, g2] => { results := [.lit (.bool true)], args := [d], vars := [g1, g2] }
  | _ => none }
def lawS4102BRawRow : OpenClaim := { program := "ybulkcfxufmt", sum := "e83dcca8958160fa2bd5e55547f1ca9527e397075b1901e7d7d6981f20012d95", func := "example.com/lodestore/lodestore.LawS4102BRaw", spec := "lawS4102BRaw", stops := ["fmt.errorf"], inPlace := ["fmt.errorf", "internal/reflectlite.TypeOf"], unfollowed := true, recurses := true, named := ["example.com/lodestore/lodestore.ErrNotStore", "example.com/lodestore/lodestore.ErrVersion", "encoding/binary.LittleEndian"], ifaces := true, apart := false, laid := [("example.com/lodestore/lodestore.ErrNotStore", laid_example_com_lodestore_lodestore_ErrNotStore), ("example.com/lodestore/lodestore.ErrVersion", laid_example_com_lodestore_lodestore_ErrVersion)] }
/-- NO THEOREM (fmt's text is open here; it may be false): for the released tool's asking of the row's closed facts alone. THE STATEMENT IS 'LawS4102BRawToldSaid' (YbulkcfxuFmtCards.lean). -/
def LawS4102BRawFormAsk : Prop := lawS4102BRawRow.holds Ybaf.pinned (OpenSpec.ofChange lawS4102BRawSpec)

/-- ITS FALSE NEIGHBOUR: 'it returns false'. Refute it at one input. -/
def lawS4102BRawWrong : ChangeSpec := { name := "lawS4102BRaw", vars := ["example.com/lodestore/lodestore.ErrNotStore", "example.com/lodestore/lodestore.ErrVersion"], fn := fun _ => fun
  | [d, g1, g2] => { results := [.lit (.bool false)], args := [d], vars := [g1, g2] }
  | _ => none }
def LawS4102BRawWrongFormAsk : Prop := lawS4102BRawRow.holds Ybaf.pinned (OpenSpec.ofChange lawS4102BRawWrong)

/-- 'lodestore.LawS4102BBuilt': WHATEVER THE INPUT: true; the input reads as it did. -/
def lawS4102BBuiltSpec : ChangeSpec := { name := "lawS4102BBuilt", vars := ["example.com/lodestore/lodestore.ErrNotStore", "example.com/lodestore/lodestore.ErrVersion"], fn := fun _ => fun
  | [d1, d2, d3, d4, g1, g2] => { results := [.lit (.bool true)], args := [d1, d2, d3, d4], vars := [g1, g2] }
  | _ => none }
def lawS4102BBuiltRow : OpenClaim := { program := "ybulkcfxufmt", sum := "e83dcca8958160fa2bd5e55547f1ca9527e397075b1901e7d7d6981f20012d95", func := "example.com/lodestore/lodestore.LawS4102BBuilt", spec := "lawS4102BBuilt", stops := ["fmt.errorf"], inPlace := ["fmt.errorf", "internal/reflectlite.TypeOf"], unfollowed := true, recurses := true, named := ["example.com/lodestore/lodestore.ErrNotStore", "example.com/lodestore/lodestore.ErrVersion", "encoding/binary.LittleEndian"], ifaces := true, apart := false, laid := [("example.com/lodestore/lodestore.ErrNotStore", laid_example_com_lodestore_lodestore_ErrNotStore), ("example.com/lodestore/lodestore.ErrVersion", laid_example_com_lodestore_lodestore_ErrVersion)] }
/-- NO THEOREM (fmt's text is open here; it may be false): for the released tool's asking of the row's closed facts alone. THE STATEMENT IS 'LawS4102BBuiltToldSaid' (YbulkcfxuFmtCards.lean). -/
def LawS4102BBuiltFormAsk : Prop := lawS4102BBuiltRow.holds Ybaf.pinned (OpenSpec.ofChange lawS4102BBuiltSpec)

/-- ITS FALSE NEIGHBOUR: 'it returns false'. Refute it at one input. -/
def lawS4102BBuiltWrong : ChangeSpec := { name := "lawS4102BBuilt", vars := ["example.com/lodestore/lodestore.ErrNotStore", "example.com/lodestore/lodestore.ErrVersion"], fn := fun _ => fun
  | [d1, d2, d3, d4, g1, g2] => { results := [.lit (.bool false)], args := [d1, d2, d3, d4], vars := [g1, g2] }
  | _ => none }
def LawS4102BBuiltWrongFormAsk : Prop := lawS4102BBuiltRow.holds Ybaf.pinned (OpenSpec.ofChange lawS4102BBuiltWrong)

end Rows
end Go.Proofs.YbulkcfxuFmt
