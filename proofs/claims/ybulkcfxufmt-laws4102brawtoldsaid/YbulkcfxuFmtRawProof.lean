/-
  LawS4102BRaw: the row's step, and the told and tied card.
-/
import Derived.Test.YbulkcfxuFmtBase
import Derived.Test.YbulkcfxuFmtTie
import Derived.Test.YbulkcfxuFmtCards
namespace Go.Proofs.YbulkcfxuFmt
open Go.ChangeShapes Go.WideShapes Go.ChangeAt Go.RowKit Go.Kit
open Go.Extern.Stop Go.Stop Go.Extern

set_option maxRecDepth 100000 in
theorem raw_lifted (os : Os) (started : os.Started) (H : Type) (enc : TypeId × Value → H) :
    ReturnsInTold none {} Ybaf.checked os 3 .any Input.okWide ((OpenSpec.ofChange Rows.lawS4102BRawSpec).preRow enc Ybaf.prog Ybaf.f3 Rows.lawS4102BRawRow.domain false Rows.lawS4102BRawRow.laid) (fun F => ((OpenSpec.ofChange Rows.lawS4102BRawSpec).at F).post enc Ybaf.prog Ybaf.f3 false true false false) (aloneAtReturn Ybaf.prog) nothingAlways := by
  refine returnsInTold_of_row (C := Ybaf.checked) (s := OpenSpec.ofChange Rows.lawS4102BRawSpec) (by kernel_rfl) Ybaf.own started (by kernel_rfl) Ybaf.func3
    (OpenSpec.witness_stopped_at (enc := enc) (C := Ybaf.checked) false (laidWorldOf Ybaf.prog os) #[.slice none 0 0] rfl (by kernel_rfl) (by kernel_rfl) (by kernel_rfl)
      (OpenSpec.preRow_of_B rfl 8 (by kernel_rfl) (by kernel_rfl) (laid_met os _))) ?_
  intro F W base args ds gs before _ hF hval0 hW _ _ _ hL0 _
  have hL : laidMet Ybaf.prog [(nm0, .iface starName (.ptr (.agg [.lit (.string text0.data.toList)]))), (nm1, .iface starName (.ptr (.agg [.lit (.string text1.data.toList)])))] W := hL0
  have hval : ∀ (j : Nat) t v, Ybaf.f3.params[j]? = some t → args[j]? = some v → Value.okWide Ybaf.prog W .any base t v := hval0
  have hW' := hW
  obtain ⟨p, q, hA0, hV0, rfl, hfz, hnd⟩ := hW
  have hA : DataW.TrodAll enc Ybaf.prog W 0 (fun _ => true) true Ybaf.f3.params.toList args.toList ds p := hA0
  have hV : DataW.TrodVars enc Ybaf.prog W (fun _ => true) [nm0, nm1] gs q := hV0
  rw [Ybaf.params3] at hA hval
  obtain ⟨v0, d0, rfl, rfl, h0⟩ := trodAll_one hA
  obtain ⟨sa, len, cap, rfl⟩ := okWide_slice Ybaf.underlying22 (hval 0 22 v0 rfl rfl)
  have h0k := h0
  obtain ⟨fuel, hf⟩ := h0
  obtain ⟨a0, a1, s0, s1, c0, c1, t0, t1, hv0, hv1, hc0, hs0, hz0, hc1, hs1, hz1, hne, hb0, hb1⟩ := laid_sentinels2 hL Ybaf.g0 Ybaf.g0Type Ybaf.g1 Ybaf.g1Type Ybaf.underlying28 Ybaf.row58 Ybaf.underlying58 Ybaf.underlying60 rfl rfl Ybaf.underlying9 Ybaf.cells60 Ybaf.cells9
  have vr : ∀ {X : World}, X.var? Ybaf.prog nm0 = some #[.iface 58 (.pointer (some a0))] → X.var? Ybaf.prog nm1 = some #[.iface 58 (.pointer (some a1))] → ∀ sp : Nat → Bool,
      DataW.TrodVars enc Ybaf.prog X sp [nm0, nm1] [tok enc (.iface 58 (.pointer (some a0))), tok enc (.iface 58 (.pointer (some a1)))] [.cell 0 0, .cell 1 0] :=
    fun x0 x1 sp => vars_read2 enc Ybaf.g0 Ybaf.g0Type Ybaf.underlying28 x0 trivial Ybaf.g1 Ybaf.g1Type Ybaf.underlying28 x1 trivial sp
  obtain ⟨rfl, rfl⟩ := hV.unique (vr hv0 hv1 _)
  clear hA0 hV0 hval0 hL0 hL
  have hg0 : W.cell? ⟨0, 0, none⟩ = some (.iface 58 (.pointer (some a0))) := by simpa using World.var?_cell Ybaf.g0 hv0 0
  have hg1 : W.cell? ⟨1, 0, none⟩ = some (.iface 58 (.pointer (some a1))) := by simpa using World.var?_cell Ybaf.g1 hv1 0
  have S : Sent W a0 a1 s1 c0 c1 t0 t1 := ⟨hg0, hg1, hc1, hne, hb0, hb1⟩
  have hlt : ∀ x ∈ p, x.block < W.heap.size := fun x hx => hW'.lt x (List.mem_append_left _ hx)
  have hargs : ∀ (W' : World), Below W.heap.size W W' → DataW.Trod enc Ybaf.prog W' 0 (fun b => decide (b < W.heap.size)) true 22 (.slice sa len cap) d0 p :=
    fun W' hn => Below.trod Ybaf.laidOut (by kernel_rfl) (of_decide_eq_true (by kernel_rfl)) h0k hn hlt
  obtain ⟨zs, hB⟩ := byts_of Ybaf.underlying22 Ybaf.underlying5 Ybaf.cells5 hf
  refine (raw_any sa len cap zs a0 a1 s1 c0 c1 t0 t1 W S hB).mono fun e W' ⟨he, hn⟩ => ?_
  subst he
  refine ⟨_, rfl, _, _, _, [], p, [.cell 0 0, .cell 1 0], hW', ?_, ?_, ?_, hn.frame _, fun h => by cases h⟩
  · exact trodAll_mk1 (shut_bool Ybaf.underlying4 true)
  · exact trodAll_mk1 (hargs _ hn)
  · exact vr (var?_below hn Ybaf.g0 (World.block_lt_of_cell? _ _ hg0) hv0) (var?_below hn Ybaf.g1 (World.block_lt_of_cell? _ _ hg1) hv1) _

/-- ████ THE STATEMENT ████ -/
theorem rawTold : Rows.LawS4102BRawToldSaid :=
  Claim7.holds_of_told_tied_any_at .later 3 Ybaf.f3 "fmt.errorf" [] [] _ _ _ _ _ (by kernel_rfl) rfl rfl rfl Ybaf.laidOut (by kernel_rfl) rfl ⟨rfl, rfl, rfl, rfl, rfl, rfl, rfl⟩ rfl rfl (by kernel_rfl) (by kernel_rfl) Ybaf.func3 (by kernel_rfl)
    (of_decide_eq_true (by kernel_rfl)) (of_decide_eq_true (by kernel_rfl)) Ybaf.stops.symm rfl Ybaf.stopKnobs.symm (by kernel_rfl)
    (by kernel_rfl) (by kernel_rfl) (by kernel_rfl) (by kernel_rfl) (by kernel_rfl) (by kernel_rfl) (by kernel_rfl) (by kernel_rfl) (by kernel_rfl) rfl (by kernel_rfl) rfl rfl
    rfl rfl
    rfl (by kernel_rfl) (by kernel_rfl) (by kernel_rfl) (by decide) (by kernel_rfl) lawS4102BRaw_row_tie
    (OpenClaim.moreEntering_of (by kernel_rfl) (by kernel_rfl) (by kernel_rfl) (by kernel_rfl) (by kernel_rfl) (by kernel_rfl) (by kernel_rfl) (by kernel_rfl) (by kernel_rfl) (by kernel_rfl))
    ⟨_, WideRow.started_initial, Ybaf.quiet _⟩
    (fun os started _ H enc _ => raw_lifted os started H enc)
end Go.Proofs.YbulkcfxuFmt
