/-
  What pathTold leaves where a stretch takes the piece that no path was found for.
-/
import Derived.Test.YbulkcfyiSwN
import Derived.Test.YbulkcfyiPieces2
namespace Go.Proofs.Ybulkcfyi
open Go.RowKit Go.Stop

/-- The sweep's end, put off. -/
def later (un now tmo : Int) : Int := if un < IntKind.u64.wrap (now + IntKind.u64.wrap (2 * tmo)) then IntKind.u64.wrap (now + IntKind.u64.wrap (2 * tmo)) else un
/-- The piece, along the stretch. -/
def pieceOf (f t fr sj : Int) : Int × Int := if t < f then (sj, fr) else (fr, sj)

structure Told21 (w w' : World) (sb tb k : Nat) (un' : Int) (ps : List (Int × Int)) (p : Int × Int) : Prop where
  until' : w'.cell? ⟨sb, 3, none⟩ = some (.int .u64 un')
  holes : ∃ hv, w'.cell? ⟨tb, k * 5 + 3, none⟩ = some hv ∧ PcAt w' hv (if p ∈ ps then ps else ps ++ [p])
  cells : ∀ a : Addr, a.block < w.heap.size → a ≠ ⟨sb, 3, none⟩ → a ≠ ⟨tb, k * 5 + 3, none⟩ → w'.cell? a = w.cell? a
  turned : Turned [sb, tb] w w'
end Go.Proofs.Ybulkcfyi
