/-
  LawS4103BLink, its cases joined.
-/
import Derived.Test.YbulkcfyiLinkN
import Derived.Test.YbulkcfyiLinkRF
import Derived.Test.YbulkcfyiLinkRT
import Derived.Test.YbulkcfyiLinkFF
import Derived.Test.YbulkcfyiLinkFT
namespace Go.Proofs.Ybulkcfyi
open Go.RowKit Go.Stop

theorem link_any (id st en fr sj tmo now un sd : Int) (w : World) (bs : 0 ≤ sd ∧ sd ≤ 255) :
    Calls Yba.prog 4 #[.int .u64 id, .int .u64 st, .int .u64 en, .int .u64 fr, .int .u64 sj, .int .u64 tmo, .int .u64 now, .int .u64 un, .int .u8 sd] w fun e w' => e = .returned (.bool true) ∧ Below w.heap.size w w' := by
  by_cases hins : Ins st en fr sj
  · by_cases hr : IntKind.u64.wrap (sj - st) < IntKind.u64.wrap (fr - st)
    · cases hb : (sd % 2 == 1)
      · exact link_rf id st en fr sj tmo now un sd w bs hins hr hb
      · exact link_rt id st en fr sj tmo now un sd w bs hins hr hb
    · cases hb : (sd % 2 == 1)
      · exact link_ff id st en fr sj tmo now un sd w bs hins hr hb
      · exact link_ft id st en fr sj tmo now un sd w bs hins hr hb
  · exact link_none id st en fr sj tmo now un sd w bs hins
end Go.Proofs.Ybulkcfyi
