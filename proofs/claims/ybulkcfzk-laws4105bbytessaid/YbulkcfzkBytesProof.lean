/-
  LawS4105BBytes: the row.
-/
import Derived.Test.YbulkcfzkOpen
namespace Go.Proofs.Ybulkcfzk
open Go.ChangeShapes Go.WideShapes Go.ChangeAt Go.RowKit

set_option maxRecDepth 100000 in
theorem bytes_lifted (os : Os) (started : os.Started) (H : Type) (enc : TypeId × Value → H) :
    ReturnsInHanded {} Yba.checked os 5 .any (Rows.lawS4105BBytesSpec.pre6 enc Yba.prog Yba.f5 Rows.lawS4105BBytesRow.domain false) (Rows.lawS4105BBytesSpec.post enc Yba.prog Yba.f5 false true false false) := by
  refine returnsInHanded_of_change (C := Yba.checked) Yba.own started (by kernel_rfl) Yba.func5
    (ChangeSpec.witness6 (enc := enc) (C := Yba.checked) false ⟨#[], #[.agg zero20, .agg zero20], []⟩ 8 (by kernel_rfl) (by kernel_rfl) (by kernel_rfl) (by kernel_rfl)) ?_
  intro W base args ds gs before hval0 hW _ _
  have hval : ∀ (j : Nat) t v, Yba.f5.params[j]? = some t → args[j]? = some v → Value.okWide Yba.prog W .any base t v := hval0
  have hW' := hW
  obtain ⟨p, q, hA0, hV, rfl, hfz, hnd⟩ := hW
  have hA : DataW.TrodAll enc Yba.prog W 0 (fun _ => true) true Yba.f5.params.toList args.toList ds p := hA0
  rw [Yba.params5] at hA hval
  obtain ⟨v0, v1, d0, d1, p0, p1, rfl, rfl, rfl, h0, h1⟩ := trodAll_two hA
  obtain ⟨rfl, rfl⟩ := trodVars_none hV
  obtain ⟨c0, rfl, z0⟩ := agg20 (hval 0 61 v0 rfl rfl)
  obtain ⟨c1, rfl, z1⟩ := agg20 (hval 1 61 v1 rfl rfl)
  obtain ⟨xs, rfl, lx, bx⟩ := open20 z0 h0
  obtain ⟨ys, rfl, ly, by'⟩ := open20 z1 h1
  have hlt : ∀ x ∈ p0 ++ p1, x.block < W.heap.size := fun x hx => hW'.lt x (List.mem_append_left _ hx)
  refine (bytes_any xs ys W lx ly bx by').mono fun e W' ⟨he, hn⟩ => ?_
  subst he
  refine ⟨_, rfl, _, _, _, [], p0 ++ p1, [], hW', ?_, ?_, ?_, hn.frame _, fun h => by cases h⟩
  · exact trodAll_mk1 (shut_bool Yba.underlying4 true)
  · exact trodAll_mk2 (Below.trod Yba.laidOut (by kernel_rfl) (of_decide_eq_true (by kernel_rfl)) h0 hn (fun x hx => hlt x (List.mem_append_left _ hx))) (Below.trod Yba.laidOut (by kernel_rfl) (of_decide_eq_true (by kernel_rfl)) h1 hn (fun x hx => hlt x (List.mem_append_right _ hx)))
  · rfl

/-- THE STATEMENT. -/
theorem bytesHolds : Rows.LawS4105BBytesSaid :=
  OpenClaim.holds_of_wide 5 Yba.f5 rfl rfl rfl rfl rfl rfl rfl ⟨rfl, rfl, rfl, rfl, rfl⟩ rfl rfl rfl rfl rfl (by kernel_rfl) Yba.func5 (by kernel_rfl)
    (of_decide_eq_true (by kernel_rfl)) (by unfold Func.isWrapper; rw [if_neg (of_decide_eq_false (by kernel_rfl))]; exact ⟨rfl, rfl⟩)
    (fun os started H enc _ => bytes_lifted os started H enc)

end Go.Proofs.Ybulkcfzk
