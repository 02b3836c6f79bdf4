/-
  No cell of these rows narrows 'for every input' (looked for: loops, veiled, ifaces, maps, wideKeys, modest, calm, conditions, laid).
  DERIVED. THE GIVEN ROWS OF THIS SEAT. 4 by the template 'for every input the law returns true; each argument reads behind the call as it read before'; 0 by the template 'total and deterministic' (their statements: YbulkcfyiTotals.lean).
  GIVEN WITH THE SEED: the statements are not yours to turn. If you find one false, say at which input.
  Laid BY PROGRAM, IN A SANDBOX (cutbox-rows.mjs): the forced cells as the released guide's own fill.sh prints them over the translation 42a3c043154e25ea… (all of the seat's roots in one cut). By AI agents, Wed Nov 11 2026. No macro, syntax, notation, axiom, sorry.
-/
import Derived.Test.YbulkcfyiChecked
import GoSem.Claim
import GoSem.ClaimJoined
import GoSem.ClaimMapViews
import Derived.JoinedTies
import Derived.KernelRfl
namespace Go.Proofs.Ybulkcfyi
/- THE CELL 'sum', in the pinned program and in every row, IS THE sha256 OF THE DUMP (.gsa) THAT YbulkcfyiProg.lean LOADS. Nothing in Lean hashes anything: it is a label: what it is worth is what the hold of that sum in a sandbox is worth. -/
noncomputable def Yba.pinned : Pinned := { name := "ybulkcfyi", sum := "42a3c043154e25ea880bf9c860a6acf88922caa57d5fb972f883d5bf88d07388", checked := Yba.checked }
namespace Rows
def none {H : Type} : Left H := { results := [], args := [] }

/-- 'ringwright.LawS4103BHoles': WHATEVER THE INPUT: true; the input reads as it did. -/
def lawS4103BHolesSpec : ChangeSpec := { name := "lawS4103BHoles", fn := fun _ => fun
  | [d1, d2, d3, d4, d5, d6, d7, d8, d9, d10, d11] => { results := [.lit (.bool true)], args := [d1, d2, d3, d4, d5, d6, d7, d8, d9, d10, d11] }
  | _ => none }
def lawS4103BHolesRow : OpenClaim := { program := "ybulkcfyi", sum := "42a3c043154e25ea880bf9c860a6acf88922caa57d5fb972f883d5bf88d07388", func := "example.com/ringwright/ringwright.LawS4103BHoles", spec := "lawS4103BHoles", inPlace := ["slices.overlaps[example.com/ringwright/ringwright.piece]"], unfollowed := true, recurses := true, plainKeys := false, apart := false }
def LawS4103BHolesSaid : Prop := lawS4103BHolesRow.holds Yba.pinned (OpenSpec.ofChange lawS4103BHolesSpec)

/-- ITS FALSE NEIGHBOUR: 'it returns false'. Refute it at one input. -/
def lawS4103BHolesWrong : ChangeSpec := { name := "lawS4103BHoles", fn := fun _ => fun
  | [d1, d2, d3, d4, d5, d6, d7, d8, d9, d10, d11] => { results := [.lit (.bool false)], args := [d1, d2, d3, d4, d5, d6, d7, d8, d9, d10, d11] }
  | _ => none }
def LawS4103BHolesWrongFalsely : Prop := lawS4103BHolesRow.holds Yba.pinned (OpenSpec.ofChange lawS4103BHolesWrong)

/-- 'ringwright.LawS4103BLink': WHATEVER THE INPUT: true; the input reads as it did. -/
def lawS4103BLinkSpec : ChangeSpec := { name := "lawS4103BLink", fn := fun _ => fun
  | [d1, d2, d3, d4, d5, d6, d7, d8, d9] => { results := [.lit (.bool true)], args := [d1, d2, d3, d4, d5, d6, d7, d8, d9] }
  | _ => none }
def lawS4103BLinkRow : OpenClaim := { program := "ybulkcfyi", sum := "42a3c043154e25ea880bf9c860a6acf88922caa57d5fb972f883d5bf88d07388", func := "example.com/ringwright/ringwright.LawS4103BLink", spec := "lawS4103BLink", inPlace := ["slices.overlaps[example.com/ringwright/ringwright.piece]"], unfollowed := true, recurses := true, plainKeys := false, apart := false }
def LawS4103BLinkSaid : Prop := lawS4103BLinkRow.holds Yba.pinned (OpenSpec.ofChange lawS4103BLinkSpec)

/-- ITS FALSE NEIGHBOUR: 'it returns false'. Refute it at one input. -/
def lawS4103BLinkWrong : ChangeSpec := { name := "lawS4103BLink", fn := fun _ => fun
  | [d1, d2, d3, d4, d5, d6, d7, d8, d9] => { results := [.lit (.bool false)], args := [d1, d2, d3, d4, d5, d6, d7, d8, d9] }
  | _ => none }
def LawS4103BLinkWrongFalsely : Prop := lawS4103BLinkRow.holds Yba.pinned (OpenSpec.ofChange lawS4103BLinkWrong)

/-- 'ringwright.LawS4103CSendsOut': WHATEVER THE INPUT: true; the input reads as it did. -/
def lawS4103CSendsOutSpec : ChangeSpec := { name := "lawS4103CSendsOut", fn := fun _ => fun
  | [d1, d2, d3, d4, d5, d6, d7, d8, d9] => { results := [.lit (.bool true)], args := [d1, d2, d3, d4, d5, d6, d7, d8, d9] }
  | _ => none }
def lawS4103CSendsOutRow : OpenClaim := { program := "ybulkcfyi", sum := "42a3c043154e25ea880bf9c860a6acf88922caa57d5fb972f883d5bf88d07388", func := "example.com/ringwright/ringwright.LawS4103CSendsOut", spec := "lawS4103CSendsOut", inPlace := ["slices.overlaps[example.com/ringwright/ringwright.piece]"], unfollowed := true, recurses := true, plainKeys := false, apart := false }
def LawS4103CSendsOutSaid : Prop := lawS4103CSendsOutRow.holds Yba.pinned (OpenSpec.ofChange lawS4103CSendsOutSpec)

/-- ITS FALSE NEIGHBOUR: 'it returns false'. Refute it at one input. -/
def lawS4103CSendsOutWrong : ChangeSpec := { name := "lawS4103CSendsOut", fn := fun _ => fun
  | [d1, d2, d3, d4, d5, d6, d7, d8, d9] => { results := [.lit (.bool false)], args := [d1, d2, d3, d4, d5, d6, d7, d8, d9] }
  | _ => none }
def LawS4103CSendsOutWrongFalsely : Prop := lawS4103CSendsOutRow.holds Yba.pinned (OpenSpec.ofChange lawS4103CSendsOutWrong)

/-- 'ringwright.LawS4103CSelf': WHATEVER THE INPUT: true; the input reads as it did. -/
def lawS4103CSelfSpec : ChangeSpec := { name := "lawS4103CSelf", fn := fun _ => fun
  | [d1, d2, d3, d4, d5, d6, d7, d8, d9] => { results := [.lit (.bool true)], args := [d1, d2, d3, d4, d5, d6, d7, d8, d9] }
  | _ => none }
def lawS4103CSelfRow : OpenClaim := { program := "ybulkcfyi", sum := "42a3c043154e25ea880bf9c860a6acf88922caa57d5fb972f883d5bf88d07388", func := "example.com/ringwright/ringwright.LawS4103CSelf", spec := "lawS4103CSelf", inPlace := ["slices.overlaps[example.com/ringwright/ringwright.piece]"], unfollowed := true, recurses := true, plainKeys := false, apart := false }
def LawS4103CSelfSaid : Prop := lawS4103CSelfRow.holds Yba.pinned (OpenSpec.ofChange lawS4103CSelfSpec)

/-- ITS FALSE NEIGHBOUR: 'it returns false'. Refute it at one input. -/
def lawS4103CSelfWrong : ChangeSpec := { name := "lawS4103CSelf", fn := fun _ => fun
  | [d1, d2, d3, d4, d5, d6, d7, d8, d9] => { results := [.lit (.bool false)], args := [d1, d2, d3, d4, d5, d6, d7, d8, d9] }
  | _ => none }
def LawS4103CSelfWrongFalsely : Prop := lawS4103CSelfRow.holds Yba.pinned (OpenSpec.ofChange lawS4103CSelfWrong)

end Rows
end Go.Proofs.Ybulkcfyi
