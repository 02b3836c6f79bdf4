/-
  No cell of these rows narrows 'for every input' (looked for: loops, veiled, ifaces, maps, wideKeys, modest, calm, conditions, laid).
  DERIVED. THE GIVEN ROWS OF THIS SEAT. 4 by the template 'for every input the law returns true; each argument reads behind the call as it read before'; 0 by the template 'total and deterministic' (their statements: YbulkcfzkTotals.lean).
  GIVEN WITH THE SEED: the statements are not yours to turn. If you find one false, say at which input.
  Laid BY PROGRAM, IN A SANDBOX (cutbox-rows.mjs): the forced cells as the released guide's own fill.sh prints them over the translation eb00dbbc5f986f53… (all of the seat's roots in one cut). By AI agents, Wed Nov 11 2026. No macro, syntax, notation, axiom, sorry.
-/
import Derived.Test.YbulkcfzkChecked
import GoSem.Claim
import GoSem.ClaimJoined
import GoSem.ClaimMapViews
import Derived.JoinedTies
import Derived.KernelRfl
namespace Go.Proofs.Ybulkcfzk
/- THE CELL 'sum', in the pinned program and in every row, IS THE sha256 OF THE DUMP (.gsa) THAT YbulkcfzkProg.lean LOADS. Nothing in Lean hashes anything: it is a label: what it is worth is what the hold of that sum in a sandbox is worth. -/
noncomputable def Yba.pinned : Pinned := { name := "ybulkcfzk", sum := "eb00dbbc5f986f537ae3a40c572faeb86a2d68e2566b0ada2555f0c2d49b165e", checked := Yba.checked }
namespace Rows
def none {H : Type} : Left H := { results := [], args := [] }

/-- 'changegroup.LawS4105APick': WHATEVER THE INPUT: true; the input reads as it did. -/
def lawS4105APickSpec : ChangeSpec := { name := "lawS4105APick", fn := fun _ => fun
  | [d] => { results := [.lit (.bool true)], args := [d] }
  | _ => none }
def lawS4105APickRow : OpenClaim := { program := "ybulkcfzk", sum := "eb00dbbc5f986f537ae3a40c572faeb86a2d68e2566b0ada2555f0c2d49b165e", func := "example.com/bundlewright/bundlewright/changegroup.LawS4105APick", spec := "lawS4105APick", apart := false }
def LawS4105APickSaid : Prop := lawS4105APickRow.holds Yba.pinned (OpenSpec.ofChange lawS4105APickSpec)

/-- ITS FALSE NEIGHBOUR: 'it returns false'. Refute it at one input. -/
def lawS4105APickWrong : ChangeSpec := { name := "lawS4105APick", fn := fun _ => fun
  | [d] => { results := [.lit (.bool false)], args := [d] }
  | _ => none }
def LawS4105APickWrongFalsely : Prop := lawS4105APickRow.holds Yba.pinned (OpenSpec.ofChange lawS4105APickWrong)

/-- 'changegroup.LawS4105AWrite': WHATEVER THE INPUT: true; the input reads as it did. -/
def lawS4105AWriteSpec : ChangeSpec := { name := "lawS4105AWrite", fn := fun _ => fun
  | [d1, d2, d3, d4, d5] => { results := [.lit (.bool true)], args := [d1, d2, d3, d4, d5] }
  | _ => none }
def lawS4105AWriteRow : OpenClaim := { program := "ybulkcfzk", sum := "eb00dbbc5f986f537ae3a40c572faeb86a2d68e2566b0ada2555f0c2d49b165e", func := "example.com/bundlewright/bundlewright/changegroup.LawS4105AWrite", spec := "lawS4105AWrite", apart := false }
def LawS4105AWriteSaid : Prop := lawS4105AWriteRow.holds Yba.pinned (OpenSpec.ofChange lawS4105AWriteSpec)

/-- ITS FALSE NEIGHBOUR: 'it returns false'. Refute it at one input. -/
def lawS4105AWriteWrong : ChangeSpec := { name := "lawS4105AWrite", fn := fun _ => fun
  | [d1, d2, d3, d4, d5] => { results := [.lit (.bool false)], args := [d1, d2, d3, d4, d5] }
  | _ => none }
def LawS4105AWriteWrongFalsely : Prop := lawS4105AWriteRow.holds Yba.pinned (OpenSpec.ofChange lawS4105AWriteWrong)

/-- 'changegroup.LawS4105BBytes': WHATEVER THE INPUT: true; the input reads as it did. -/
def lawS4105BBytesSpec : ChangeSpec := { name := "lawS4105BBytes", fn := fun _ => fun
  | [d1, d2] => { results := [.lit (.bool true)], args := [d1, d2] }
  | _ => none }
def lawS4105BBytesRow : OpenClaim := { program := "ybulkcfzk", sum := "eb00dbbc5f986f537ae3a40c572faeb86a2d68e2566b0ada2555f0c2d49b165e", func := "example.com/bundlewright/bundlewright/changegroup.LawS4105BBytes", spec := "lawS4105BBytes", inPlace := ["internal/bytealg.Compare"], named := ["encoding/binary.BigEndian"], apart := false }
def LawS4105BBytesSaid : Prop := lawS4105BBytesRow.holds Yba.pinned (OpenSpec.ofChange lawS4105BBytesSpec)

/-- ITS FALSE NEIGHBOUR: 'it returns false'. Refute it at one input. -/
def lawS4105BBytesWrong : ChangeSpec := { name := "lawS4105BBytes", fn := fun _ => fun
  | [d1, d2] => { results := [.lit (.bool false)], args := [d1, d2] }
  | _ => none }
def LawS4105BBytesWrongFalsely : Prop := lawS4105BBytesRow.holds Yba.pinned (OpenSpec.ofChange lawS4105BBytesWrong)

/-- 'changegroup.LawS4105BOneByte': WHATEVER THE INPUT: true; the input reads as it did. -/
def lawS4105BOneByteSpec : ChangeSpec := { name := "lawS4105BOneByte", fn := fun _ => fun
  | [d1, d2, d3] => { results := [.lit (.bool true)], args := [d1, d2, d3] }
  | _ => none }
def lawS4105BOneByteRow : OpenClaim := { program := "ybulkcfzk", sum := "eb00dbbc5f986f537ae3a40c572faeb86a2d68e2566b0ada2555f0c2d49b165e", func := "example.com/bundlewright/bundlewright/changegroup.LawS4105BOneByte", spec := "lawS4105BOneByte", inPlace := ["internal/bytealg.Compare"], named := ["encoding/binary.BigEndian"], apart := false }
def LawS4105BOneByteSaid : Prop := lawS4105BOneByteRow.holds Yba.pinned (OpenSpec.ofChange lawS4105BOneByteSpec)

/-- ITS FALSE NEIGHBOUR: 'it returns false'. Refute it at one input. -/
def lawS4105BOneByteWrong : ChangeSpec := { name := "lawS4105BOneByte", fn := fun _ => fun
  | [d1, d2, d3] => { results := [.lit (.bool false)], args := [d1, d2, d3] }
  | _ => none }
def LawS4105BOneByteWrongFalsely : Prop := lawS4105BOneByteRow.holds Yba.pinned (OpenSpec.ofChange lawS4105BOneByteWrong)

end Rows
end Go.Proofs.Ybulkcfzk
