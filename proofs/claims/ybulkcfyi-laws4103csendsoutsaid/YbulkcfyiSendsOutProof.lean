/-
  LawS4103CSendsOut: the row (the seat's shell, its hole filled).
-/
import Derived.Test.YbulkcfyiRows
import Derived.Test.YbulkcfyiOut
import Derived.WalkKit
import Derived.ProofKit
import Derived.OpenShut
import Derived.ShutString
import Derived.ChangeOld
import Derived.Below
namespace Go.Proofs.Ybulkcfyi.lawS4103CSendsOut
open Go.ChangeShapes Go.WideShapes Go.ChangeAt Go.RowKit
open Go.ChangeMaps (open_string shut_string)
set_option linter.unusedVariables false

theorem own : ownKnob Yba.prog.godebug = none := by kernel_rfl
theorem laidOut : laidOutB Yba.prog = true := by kernel_rfl

/-- WHAT THE WALK IS TOLD OF A SLICE OF INTEGERS THAT CAME IN: it is nil; or it leads to a row of 'cap' cells, the numbers 'zs' (the first 'len' are its elements, the rest its spare room), each fitting its kind. -/
def IsRow (k : IntKind) (w : World) (a : Option Addr) (len cap : Nat) (zs : List Int) : Prop :=
  (a = none ∧ len = 0 ∧ cap = 0 ∧ zs = []) ∨
  ∃ x, a = some x ∧ len ≤ cap ∧ cap ≤ maxLen ∧ zs.length = cap ∧ (∀ i, i < zs.length → w.cell? (x.add i) = some (.int k (zs.getD i 0))) ∧ ∀ n ∈ zs, (Lit.int k n).wf = true

/-! ### STEP 1: THE WALK: the Go text returns true, AND WRITES NOTHING THAT WAS THERE: 'Below w.heap.size w w'' (Derived/Below.lean: '.refl', '.alloc', '.drew', '.setCell' at a new block, '.trans'). Open each 'IsRow' by 'rcases' AHEAD of 'go_enter'; part every test ahead of the walk. -/
theorem walk (a0 : Int) (a1 : Int) (a2 : Int) (a3 : Int) (a4 : Int) (a5 : Int) (a6 : Int) (a7 : Int) (a8 : Option Addr) (len8 cap8 : Nat) (z8 : List Int) (w : World) (w0 : (Lit.int .u64 a0).wf = true) (w1 : (Lit.int .u64 a1).wf = true) (w2 : (Lit.int .u64 a2).wf = true) (w3 : (Lit.int .u64 a3).wf = true) (w4 : (Lit.int .u8 a4).wf = true) (w5 : (Lit.int .u64 a5).wf = true) (w6 : (Lit.int .u64 a6).wf = true) (w7 : (Lit.int .u64 a7).wf = true) (w8 : IsRow .u64 w a8 len8 cap8 z8) :
    Calls Yba.prog 5 #[.int .u64 a0, .int .u64 a1, .int .u64 a2, .int .u64 a3, .int .u8 a4, .int .u64 a5, .int .u64 a6, .int .u64 a7, .slice a8 len8 cap8] w fun e w' => e = .returned (.bool true) ∧ Below w.heap.size w w' := by
  have b0 : 0 ≤ a0 ∧ a0 < 18446744073709551616 := by have := bounds_u64 w0; omega
  by_cases hn : 1024 < len8
  · exact out_long a0 a1 a2 a3 a4 a5 a6 a7 a8 len8 cap8 w hn
  · have hx : (a8 = none → len8 = 0 ∧ cap8 = 0) ∧ ∃ zs, IdsAt w a8 len8 zs := by
      rcases w8 with ⟨rfl, rfl, rfl, rfl⟩ | ⟨x, rfl, hl, hm, hz, hc, hw⟩
      · exact ⟨fun _ => ⟨rfl, rfl⟩, [], .inl rfl⟩
      · refine ⟨(fun h => by cases h), ?_⟩
        by_cases h0 : len8 = 0
        · exact ⟨[], .inl h0⟩
        · obtain ⟨b, off, rfl, hcc⟩ := ints_at hc (by omega)
          refine ⟨z8.take len8, .inr ⟨b, off, rfl, by simp; omega, fun i hi => ?_⟩⟩
          rw [hcc i (by omega)]
          simp [List.getD_eq_getElem?_getD, hi]
    obtain ⟨hp, zs, hB⟩ := hx
    by_cases ht : a2 = a0
    · refine out_short a0 a1 a2 a3 a4 a5 a6 a7 _ a8 len8 cap8 zs w (by omega) hp hB (bounds_u8 w4) (.inl ⟨by simp [ht], rfl⟩) ?_
      rw [beq_eq_false_iff_ne]
      exact xor_one a0 b0
    · exact out_short a0 a1 a2 a3 a4 a5 a6 a7 a2 a8 len8 cap8 zs w (by omega) hp hB (bounds_u8 w4) (.inr ⟨by simp [ht], rfl⟩) (by simp [ht])

/-! ### THE ROW's STEP: WRITTEN OUT: LEAVE IT -/
set_option maxRecDepth 100000 in
theorem lifted (os : Os) (started : os.Started) (H : Type) (enc : TypeId × Value → H) :
    ReturnsInHanded {} Yba.checked os 5 .any (Rows.lawS4103CSendsOutSpec.pre6 enc Yba.prog Yba.f5 Rows.lawS4103CSendsOutRow.domain false) (Rows.lawS4103CSendsOutSpec.post enc Yba.prog Yba.f5 false true false false) := by
  refine returnsInHanded_of_change (C := Yba.checked) own started (by kernel_rfl) Yba.func5
    (ChangeSpec.witness6 (enc := enc) (C := Yba.checked) false ⟨#[], #[.int .u64 0, .int .u64 0, .int .u64 0, .int .u64 0, .int .u8 0, .int .u64 0, .int .u64 0, .int .u64 0, .slice none 0 0], []⟩ 8 (by kernel_rfl) (by kernel_rfl) (by kernel_rfl) (by kernel_rfl)) ?_
  intro W base args ds gs before hval0 hW hcnd _
  have hval : ∀ (j : Nat) t v, Yba.f5.params[j]? = some t → args[j]? = some v → Value.okWide Yba.prog W .any base t v := hval0
  have hW' := hW
  obtain ⟨p, q, hA0, hV, rfl, hfz, hnd⟩ := hW
  have hA : DataW.TrodAll enc Yba.prog W 0 (fun _ => true) true Yba.f5.params.toList args.toList ds p := hA0
  rw [Yba.params5] at hA hval
  obtain ⟨v0, vs0, d0, ds0, p0, q0, hargs, rfl, rfl, h0, r0⟩ := trodAll_cons hA
  obtain ⟨v1, vs1, d1, ds1, p1, q1, rfl, rfl, rfl, h1, r1⟩ := trodAll_cons r0
  obtain ⟨v2, vs2, d2, ds2, p2, q2, rfl, rfl, rfl, h2, r2⟩ := trodAll_cons r1
  obtain ⟨v3, vs3, d3, ds3, p3, q3, rfl, rfl, rfl, h3, r3⟩ := trodAll_cons r2
  obtain ⟨v4, vs4, d4, ds4, p4, q4, rfl, rfl, rfl, h4, r4⟩ := trodAll_cons r3
  obtain ⟨v5, vs5, d5, ds5, p5, q5, rfl, rfl, rfl, h5, r5⟩ := trodAll_cons r4
  obtain ⟨v6, vs6, d6, ds6, p6, q6, rfl, rfl, rfl, h6, r6⟩ := trodAll_cons r5
  obtain ⟨v7, vs7, d7, ds7, p7, q7, rfl, rfl, rfl, h7, r7⟩ := trodAll_cons r6
  obtain ⟨v8, vs8, d8, ds8, p8, q8, rfl, rfl, rfl, h8, r8⟩ := trodAll_cons r7
  obtain ⟨rfl, rfl, rfl⟩ := trodAll_nil r8
  obtain rfl : args = #[v0, v1, v2, v3, v4, v5, v6, v7, v8] := by cases args; simp_all
  obtain ⟨rfl, rfl⟩ := trodVars_none hV
  obtain ⟨a0, rfl, rfl, rfl, w0⟩ := open_int Yba.underlying36 (hval 0 36 v0 rfl rfl) h0
  obtain ⟨a1, rfl, rfl, rfl, w1⟩ := open_int Yba.underlying36 (hval 1 36 v1 rfl rfl) h1
  obtain ⟨a2, rfl, rfl, rfl, w2⟩ := open_int Yba.underlying36 (hval 2 36 v2 rfl rfl) h2
  obtain ⟨a3, rfl, rfl, rfl, w3⟩ := open_int Yba.underlying36 (hval 3 36 v3 rfl rfl) h3
  obtain ⟨a4, rfl, rfl, rfl, w4⟩ := open_int Yba.underlying5 (hval 4 5 v4 rfl rfl) h4
  obtain ⟨a5, rfl, rfl, rfl, w5⟩ := open_int Yba.underlying28 (hval 5 28 v5 rfl rfl) h5
  obtain ⟨a6, rfl, rfl, rfl, w6⟩ := open_int Yba.underlying22 (hval 6 22 v6 rfl rfl) h6
  obtain ⟨a7, rfl, rfl, rfl, w7⟩ := open_int Yba.underlying22 (hval 7 22 v7 rfl rfl) h7
  obtain ⟨a8, len8, cap8, rfl⟩ := okWide_slice Yba.underlying39 (hval 8 39 v8 rfl rfl)
  have k8 := h8
  have lt8 : ∀ x ∈ p8, x.block < W.heap.size := by obtain ⟨m, hm⟩ := k8; exact DataW.trod_lt m _ _ _ hm
  obtain ⟨z8, w8⟩ : ∃ zs, IsRow .u64 W a8 len8 cap8 zs := by
    obtain ⟨fuel, hf⟩ := h8
    rcases open_ints Yba.underlying39 Yba.underlying36 (by kernel_rfl) hf with ⟨hcs, _⟩ | ⟨x, l, c, zs, hcs, _, hl, hm, hz, _, hcell, hwz⟩
    · simp [Value.cells] at hcs
      obtain ⟨rfl, rfl, rfl⟩ := hcs
      exact ⟨[], .inl ⟨rfl, rfl, rfl, rfl⟩⟩
    · simp [Value.cells] at hcs
      obtain ⟨rfl, rfl, rfl⟩ := hcs
      exact ⟨zs, .inr ⟨_, rfl, hl, hm, by simpa using hz, hcell, hwz⟩⟩
  clear hA0 hval0
  refine (walk a0 a1 a2 a3 a4 a5 a6 a7 a8 len8 cap8 z8 W w0 w1 w2 w3 w4 w5 w6 w7 w8).mono fun e W' ⟨he, bel⟩ => ?_
  subst he
  exact ⟨_, rfl, _, _, _, [], _, [], hW', trodAll_mk1 (shut_bool Yba.underlying4 _), (trodAll_cons_mk (shut_int Yba.underlying36 w0) (trodAll_cons_mk (shut_int Yba.underlying36 w1) (trodAll_cons_mk (shut_int Yba.underlying36 w2) (trodAll_cons_mk (shut_int Yba.underlying36 w3) (trodAll_cons_mk (shut_int Yba.underlying5 w4) (trodAll_cons_mk (shut_int Yba.underlying28 w5) (trodAll_cons_mk (shut_int Yba.underlying22 w6) (trodAll_cons_mk (shut_int Yba.underlying22 w7) (trodAll_cons_mk (Below.trod laidOut (by kernel_rfl) (of_decide_eq_true (by kernel_rfl)) k8 bel lt8) trodAll_mk0))))))))), rfl, bel.frame _, fun h => by cases h⟩

theorem over : Rows.lawS4103CSendsOutRow.holds Yba.pinned (OpenSpec.ofChange Rows.lawS4103CSendsOutSpec) :=
  OpenClaim.holds_of_wide 5 Yba.f5 rfl rfl rfl rfl rfl rfl rfl ⟨rfl, rfl, rfl, rfl, rfl⟩ rfl rfl rfl rfl rfl (by kernel_rfl) Yba.func5 (by kernel_rfl)
    (of_decide_eq_true (by kernel_rfl)) (by unfold Func.isWrapper; rw [if_neg (of_decide_eq_false (by kernel_rfl))]; exact ⟨rfl, rfl⟩)
    (fun os started H enc _ => lifted os started H enc)

end Go.Proofs.Ybulkcfyi.lawS4103CSendsOut

namespace Go.Proofs.Ybulkcfyi
/-- THE STATEMENT. -/
theorem sendsOut : Rows.LawS4103CSendsOutSaid := lawS4103CSendsOut.over
end Go.Proofs.Ybulkcfyi
