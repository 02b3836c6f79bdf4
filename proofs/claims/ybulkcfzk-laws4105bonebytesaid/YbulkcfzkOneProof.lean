/-
  LawS4105BOneByte: the row.
-/
import Derived.Test.YbulkcfzkOpen
import Derived.Test.YbulkcfzkOne
namespace Go.Proofs.Ybulkcfzk
open Go.ChangeShapes Go.WideShapes Go.ChangeAt Go.RowKit

set_option maxRecDepth 100000 in
theorem one_lifted (os : Os) (started : os.Started) (H : Type) (enc : TypeId × Value → H) :
    ReturnsInHanded {} Yba.checked os 6 .any (Rows.lawS4105BOneByteSpec.pre6 enc Yba.prog Yba.f6 Rows.lawS4105BOneByteRow.domain false) (Rows.lawS4105BOneByteSpec.post enc Yba.prog Yba.f6 false true false false) := by
  refine returnsInHanded_of_change (C := Yba.checked) Yba.own started (by kernel_rfl) Yba.func6
    (ChangeSpec.witness6 (enc := enc) (C := Yba.checked) false ⟨#[], #[.agg zero20, .int .u8 0, .int .u8 0], []⟩ 8 (by kernel_rfl) (by kernel_rfl) (by kernel_rfl) (by kernel_rfl)) ?_
  intro W base args ds gs before hval0 hW _ _
  have hval : ∀ (j : Nat) t v, Yba.f6.params[j]? = some t → args[j]? = some v → Value.okWide Yba.prog W .any base t v := hval0
  have hW' := hW
  obtain ⟨p, q, hA0, hV, rfl, hfz, hnd⟩ := hW
  have hA : DataW.TrodAll enc Yba.prog W 0 (fun _ => true) true Yba.f6.params.toList args.toList ds p := hA0
  rw [Yba.params6] at hA hval
  obtain ⟨v0, v1, v2, d0, d1, d2, p0, p1, p2, rfl, rfl, rfl, h0, h1, h2⟩ := trodAll_three hA
  obtain ⟨rfl, rfl⟩ := trodVars_none hV
  obtain ⟨c0, rfl, z0⟩ := agg20 (hval 0 61 v0 rfl rfl)
  obtain ⟨k, rfl, rfl, rfl, wk⟩ := open_int Yba.underlying5 (hval 1 5 v1 rfl rfl) h1
  obtain ⟨v, rfl, rfl, rfl, wv⟩ := open_int Yba.underlying5 (hval 2 5 v2 rfl rfl) h2
  obtain ⟨xs, rfl, lx, bx⟩ := open20 z0 h0
  have hlt : ∀ x ∈ p0, x.block < W.heap.size := fun x hx => hW'.lt x (by simp [hx])
  refine (one_any xs k v W lx bx (bounds_u8 wk) (bounds_u8 wv)).mono fun e W' ⟨he, hn⟩ => ?_
  subst he
  refine ⟨_, rfl, _, _, _, [], p0 ++ [] ++ [], [], hW', ?_, ?_, ?_, hn.frame _, fun h => by cases h⟩
  · exact trodAll_mk1 (shut_bool Yba.underlying4 true)
  · have eapp : p0 ++ [] ++ [] = p0 ++ ([] ++ []) := by simp
    rw [eapp]
    exact trodAll_mk3 (Below.trod Yba.laidOut (by kernel_rfl) (of_decide_eq_true (by kernel_rfl)) h0 hn hlt) (shut_int Yba.underlying5 wk) (shut_int Yba.underlying5 wv)
  · rfl

/-- THE STATEMENT. -/
theorem oneHolds : Rows.LawS4105BOneByteSaid :=
  OpenClaim.holds_of_wide 6 Yba.f6 rfl rfl rfl rfl rfl rfl rfl ⟨rfl, rfl, rfl, rfl, rfl⟩ rfl rfl rfl rfl rfl (by kernel_rfl) Yba.func6 (by kernel_rfl)
    (of_decide_eq_true (by kernel_rfl)) (by unfold Func.isWrapper; rw [if_neg (of_decide_eq_false (by kernel_rfl))]; exact ⟨rfl, rfl⟩)
    (fun os started H enc _ => one_lifted os started H enc)
end Go.Proofs.Ybulkcfzk
