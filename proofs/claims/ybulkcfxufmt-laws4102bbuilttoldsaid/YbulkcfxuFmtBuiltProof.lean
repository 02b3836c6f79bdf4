/-
  LawS4102BBuilt: the row's step, and the told and tied card.
-/
import Derived.Test.YbulkcfxuFmtBase
import Derived.Test.YbulkcfxuFmtBuilt
import Derived.OpenShut
import Derived.Test.YbulkcfxuFmtTie
import Derived.Test.YbulkcfxuFmtCards
namespace Go.Proofs.YbulkcfxuFmt
open Go.ChangeShapes Go.WideShapes Go.ChangeAt Go.RowKit Go.Kit
open Go.Extern.Stop Go.Stop Go.Extern

theorem nil_of {H : Type} {enc : TypeId × Value → H} {P : Program} {W : World} {t e : TypeId} {fuel : Nat} {sa : Option Addr} {len cap : Nat} {x : DataW H × List MemPlace} (ht : P.underlying t = some (.slice e)) (he : P.underlying e = some (.int .u8)) (hc : P.cellsOf e = 1)
    (h : DataW.trod enc P W 0 (fun _ => true) true fuel t (Value.slice sa len cap).cells.toList = some x) : sa = none → len = 0 ∧ cap = 0 := by
  rcases open_ints ht he hc h with ⟨hcs, hx⟩ | ⟨a, len', cap', zs, hcs, _, hl, hm, hz, hx, hcell, hwz⟩
  · simp [Value.cells] at hcs
    obtain ⟨rfl, rfl, rfl⟩ := hcs
    exact fun _ => ⟨rfl, rfl⟩
  · simp [Value.cells] at hcs
    obtain ⟨rfl, rfl, rfl⟩ := hcs
    exact fun e => by cases e

set_option maxRecDepth 100000 in
theorem built_lifted (os : Os) (started : os.Started) (H : Type) (enc : TypeId × Value → H) :
    ReturnsInTold none {} Ybaf.checked os 4 .any Input.okWide ((OpenSpec.ofChange Rows.lawS4102BBuiltSpec).preRow enc Ybaf.prog Ybaf.f4 Rows.lawS4102BBuiltRow.domain false Rows.lawS4102BBuiltRow.laid) (fun F => ((OpenSpec.ofChange Rows.lawS4102BBuiltSpec).at F).post enc Ybaf.prog Ybaf.f4 false true false false) (aloneAtReturn Ybaf.prog) nothingAlways := by
  refine returnsInTold_of_row (C := Ybaf.checked) (s := OpenSpec.ofChange Rows.lawS4102BBuiltSpec) (by kernel_rfl) Ybaf.own started (by kernel_rfl) Ybaf.func4
    (OpenSpec.witness_stopped_at (enc := enc) (C := Ybaf.checked) false (laidWorldOf Ybaf.prog os) #[.int .u16 0, .int .u16 0, .slice none 0 0, .int .u8 0] rfl (by kernel_rfl) (by kernel_rfl) (by kernel_rfl)
      (OpenSpec.preRow_of_B rfl 8 (by kernel_rfl) (by kernel_rfl) (laid_met os _))) ?_
  intro F W base args ds gs before _ hF hval0 hW _ _ _ hL0 _
  have hL : laidMet Ybaf.prog [(nm0, .iface starName (.ptr (.agg [.lit (.string text0.data.toList)]))), (nm1, .iface starName (.ptr (.agg [.lit (.string text1.data.toList)])))] W := hL0
  have hval : ∀ (j : Nat) t v, Ybaf.f4.params[j]? = some t → args[j]? = some v → Value.okWide Ybaf.prog W .any base t v := hval0
  have hW' := hW
  obtain ⟨p, q, hA0, hV0, rfl, hfz, hnd⟩ := hW
  have hA : DataW.TrodAll enc Ybaf.prog W 0 (fun _ => true) true Ybaf.f4.params.toList args.toList ds p := hA0
  have hV : DataW.TrodVars enc Ybaf.prog W (fun _ => true) [nm0, nm1] gs q := hV0
  rw [Ybaf.params4] at hA hval
  obtain ⟨v0, v1, v2, v3, d0, d1, d2, d3, p0, p1, p2, p3, rfl, rfl, rfl, h0, h1, h2, h3⟩ := trodAll_four hA
  obtain ⟨x, rfl, rfl, rfl, wx⟩ := open_int Ybaf.underlying24 (hval 0 24 v0 rfl rfl) h0
  obtain ⟨y, rfl, rfl, rfl, wy⟩ := open_int Ybaf.underlying24 (hval 1 24 v1 rfl rfl) h1
  obtain ⟨z, rfl, rfl, rfl, wz⟩ := open_int Ybaf.underlying5 (hval 3 5 v3 rfl rfl) h3
  obtain ⟨sa, len, cap, rfl⟩ := okWide_slice Ybaf.underlying22 (hval 2 22 v2 rfl rfl)
  have h2k := h2
  obtain ⟨fuel, hf⟩ := h2
  obtain ⟨a0, a1, s0, s1, c0, c1, t0, t1, hv0, hv1, hc0, hs0, hz0, hc1, hs1, hz1, hne, hb0, hb1⟩ := laid_sentinels2 hL Ybaf.g0 Ybaf.g0Type Ybaf.g1 Ybaf.g1Type Ybaf.underlying28 Ybaf.row58 Ybaf.underlying58 Ybaf.underlying60 rfl rfl Ybaf.underlying9 Ybaf.cells60 Ybaf.cells9
  have vr : ∀ {X : World}, X.var? Ybaf.prog nm0 = some #[.iface 58 (.pointer (some a0))] → X.var? Ybaf.prog nm1 = some #[.iface 58 (.pointer (some a1))] → ∀ sp : Nat → Bool,
      DataW.TrodVars enc Ybaf.prog X sp [nm0, nm1] [tok enc (.iface 58 (.pointer (some a0))), tok enc (.iface 58 (.pointer (some a1)))] [.cell 0 0, .cell 1 0] :=
    fun x0 x1 sp => vars_read2 enc Ybaf.g0 Ybaf.g0Type Ybaf.underlying28 x0 trivial Ybaf.g1 Ybaf.g1Type Ybaf.underlying28 x1 trivial sp
  obtain ⟨rfl, rfl⟩ := hV.unique (vr hv0 hv1 _)
  clear hA0 hV0 hval0 hL0 hL
  have hg0 : W.cell? ⟨0, 0, none⟩ = some (.iface 58 (.pointer (some a0))) := by simpa using World.var?_cell Ybaf.g0 hv0 0
  have hg1 : W.cell? ⟨1, 0, none⟩ = some (.iface 58 (.pointer (some a1))) := by simpa using World.var?_cell Ybaf.g1 hv1 0
  have S : Sent W a0 a1 s1 c0 c1 t0 t1 := ⟨hg0, hg1, hc1, hne, hb0, hb1⟩
  simp only [List.append_nil, List.nil_append] at hW'
  have hlt : ∀ x ∈ p2, x.block < W.heap.size := fun x hx => hW'.lt x (List.mem_append_left _ hx)
  have hargs : ∀ (W' : World), Below W.heap.size W W' → DataW.Trod enc Ybaf.prog W' 0 (fun b => decide (b < W.heap.size)) true 22 (.slice sa len cap) d2 p2 :=
    fun W' hn => Below.trod Ybaf.laidOut (by kernel_rfl) (of_decide_eq_true (by kernel_rfl)) h2k hn hlt
  obtain ⟨zs, hB⟩ := byts_of Ybaf.underlying22 Ybaf.underlying5 Ybaf.cells5 hf
  have hnil := nil_of Ybaf.underlying22 Ybaf.underlying5 Ybaf.cells5 hf
  refine (built_any x y z sa len cap zs a0 a1 s1 c0 c1 t0 t1 W (bounds_u16 wx) (bounds_u16 wy) (bounds_u8 wz) hnil hB S).mono fun e W' ⟨he, hn⟩ => ?_
  subst he
  refine ⟨_, rfl, _, _, _, [], p2, [.cell 0 0, .cell 1 0], hW', ?_, ?_, ?_, hn.frame _, fun h => by cases h⟩
  · exact trodAll_mk1 (shut_bool Ybaf.underlying4 true)
  · have q := trodAll_mk4 (shut_int (H := H) (enc := enc) (P := Ybaf.prog) (w := W') (base := 0) (spare := fun b => decide (b < W.heap.size)) (held := true) Ybaf.underlying24 wx) (shut_int Ybaf.underlying24 wy) (hargs _ hn) (shut_int Ybaf.underlying5 wz)
    simp only [List.append_nil, List.nil_append] at q
    exact q
  · exact vr (var?_below hn Ybaf.g0 (World.block_lt_of_cell? _ _ hg0) hv0) (var?_below hn Ybaf.g1 (World.block_lt_of_cell? _ _ hg1) hv1) _

/-- ████ THE STATEMENT ████ -/
theorem builtTold : Rows.LawS4102BBuiltToldSaid :=
  Claim7.holds_of_told_tied_any_at .later 4 Ybaf.f4 "fmt.errorf" [] [] _ _ _ _ _ (by kernel_rfl) rfl rfl rfl Ybaf.laidOut (by kernel_rfl) rfl ⟨rfl, rfl, rfl, rfl, rfl, rfl, rfl⟩ rfl rfl (by kernel_rfl) (by kernel_rfl) Ybaf.func4 (by kernel_rfl)
    (of_decide_eq_true (by kernel_rfl)) (of_decide_eq_true (by kernel_rfl)) Ybaf.stops.symm rfl Ybaf.stopKnobs.symm (by kernel_rfl)
    (by kernel_rfl) (by kernel_rfl) (by kernel_rfl) (by kernel_rfl) (by kernel_rfl) (by kernel_rfl) (by kernel_rfl) (by kernel_rfl) (by kernel_rfl) rfl (by kernel_rfl) rfl rfl
    rfl rfl
    rfl (by kernel_rfl) (by kernel_rfl) (by kernel_rfl) (by decide) (by kernel_rfl) lawS4102BBuilt_row_tie
    (OpenClaim.moreEntering_of (by kernel_rfl) (by kernel_rfl) (by kernel_rfl) (by kernel_rfl) (by kernel_rfl) (by kernel_rfl) (by kernel_rfl) (by kernel_rfl) (by kernel_rfl) (by kernel_rfl))
    ⟨_, WideRow.started_initial, Ybaf.quiet _⟩
    (fun os started _ H enc _ => built_lifted os started H enc)
end Go.Proofs.YbulkcfxuFmt
