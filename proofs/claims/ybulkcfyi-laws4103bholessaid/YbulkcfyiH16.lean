/-
  LawS4103BHoles: behind the search.
-/
import Derived.Test.YbulkcfyiH15
namespace Go.Proofs.Ybulkcfyi
open Go.RowKit Go.Stop
attribute [local go_sem ↓] Go.wp_at_zero Go.wp_at_succ

/-- It returns true; nothing that was there has turned. -/
def Yes (w : World) : Exit → Act → World → Prop
  | .ret, a, w' => ∃ f, a = fr f ∧ f 22 = .bool true ∧ Turned [] w w'
  | _, _, _ => False

set_option maxHeartbeats 16000000 in
set_option maxRecDepth 100000 in
theorem tailB (id tag mt frm sj tmo now un sd : Int) (mb : Bool) (p : Option Addr) (N C : Nat) (st en : Nat → Int) (hp : Nat → Option Addr) (hl hc : Nat → Nat) (hs : Nat → List (Int × Int)) (w0 : World) (S : Hid (Sts w0 p N st en hp hl hc hs)) (hN : N ≤ 1024) (hll : ∀ i, i < N → hl i ≤ 1024) (sb tb : Nat) (kv pa pb un' : Int) (w : World) (B0 : Hid (Below w0.heap.size w0 w)) (hv : Nat → Value) (qs : Nat → List (Int × Int)) (hch : Hid (Chk w sb tb N st en hv qs))
    (hqs : ∀ i, i < N → qs i = if kv = i ∧ (pa, pb) ∉ hs i then hs i ++ [(pa, pb)] else hs i) (s3 : w.cell? ⟨sb, 3, none⟩ = some (.int .u64 un')) (hun : (kv < 0 ∧ un' = un) ∨ (0 ≤ kv ∧ un' = later un now (orT tmo 2)))
    (f : Nat → Value) (hk : Kn f (KB id tag mt frm sj tmo now un sd mb p N C)) (hk1 : Kn f [(33, .pointer (some ⟨sb, 0, none⟩)), (34, .int .i64 kv), (35, .int .u64 pa), (36, .int .u64 pb)]) :
    Code.wp Yba.prog (tl 19 (Yba.f3.body.getD .skip)) (Yes w) (fr f) w := by
  conv => arg 2; whnf
  obtain ⟨k0, k1, k2, k3, k4, k5, k6, k7, k8, k9, k10, _⟩ := hk
  obtain ⟨k33, k34, k35, k36, _⟩ := hk1
  rw [fr_lit, k0, k1, k2, k3, k4, k5, k6, k7, k8, k9, k10, k33, k34, k35, k36]
  clear k0 k1 k2 k3 k4 k5 k6 k7 k8 k9 k10 k33 k34 k35 k36
  have HQS : Hid (∀ i, i < N → qs i = if kv = i ∧ (pa, pb) ∉ hs i then hs i ++ [(pa, pb)] else hs i) := hqs
  have HLL : Hid (∀ i, i < N → hl i ≤ 1024) := hll
  clear hqs hll
  have fin : ∀ f' : Nat → Value, Kn f' (KB id tag mt frm sj tmo now un sd mb p N C) → Kn f' (KH sb kv pa pb N 0) → ∀ Q : Exit → Act → World → Prop, (∀ a w', X15 w a w' → Q (.exit 8) a w') → Code.wp Yba.prog (inn (sq2 (sq1 (tl 22 (Yba.f3.body.getD .skip))))) Q (fr f') w :=
    fun f' h1 h2 Q hQ => of_onExit (loop5 id tag mt frm sj tmo now un sd mb p N C st en hp hl hc hs w0 S hN HLL.out sb tb kv pa pb w B0 hv qs hch HQS.out f' h1 h2) hQ
  have FIN : Hid (∀ f' : Nat → Value, Kn f' (KB id tag mt frm sj tmo now un sd mb p N C) → Kn f' (KH sb kv pa pb N 0) → ∀ Q : Exit → Act → World → Prop, (∀ a w', X15 w a w' → Q (.exit 8) a w') → Code.wp Yba.prog (inn (sq2 (sq1 (tl 22 (Yba.f3.body.getD .skip))))) Q (fr f') w) := fin
  clear fin S B0 hch HQS HLL
  rcases hun with ⟨hkv, rfl⟩ | ⟨hkv, hu⟩
  · have n1 : (un' != un') = false := by simp
    go_wp2
    refine reopen (R := fun a => Code.wp Yba.prog _ _ a _) rfl rfl ?_
    intro f' hf'
    refine FIN.out f' ⟨hf' 0, hf' 1, hf' 2, hf' 3, hf' 4, hf' 5, hf' 6, hf' 7, hf' 8, hf' 9, hf' 10, trivial⟩ ⟨hf' 33, hf' 34, hf' 35, hf' 36, hf' 294, hf' 295, trivial⟩ _ ?_
    rintro a w3 ⟨f3, rfl, ht⟩
    have HT : Hid (Turned [] _ w3) := ht
    clear ht hf' FIN
    rw [fr_lit]
    go_wp2
    exact ⟨_, fr_of rfl rfl, rfl, HT.out⟩
  · unfold later at hu
    by_cases hx : un < IntKind.u64.wrap (now + IntKind.u64.wrap (2 * orT tmo 2))
    · rw [if_pos hx] at hu
      subst hu
      go_wp2_with (go_at_call 9; refine (bwait_any now tmo _).mono ?_; rintro e w' ⟨rfl, rfl⟩)
      refine reopen (R := fun a => Code.wp Yba.prog _ _ a _) rfl rfl ?_
      intro f' hf'
      refine FIN.out f' ⟨hf' 0, hf' 1, hf' 2, hf' 3, hf' 4, hf' 5, hf' 6, hf' 7, hf' 8, hf' 9, hf' 10, trivial⟩ ⟨hf' 33, hf' 34, hf' 35, hf' 36, hf' 294, hf' 295, trivial⟩ _ ?_
      rintro a w3 ⟨f3, rfl, ht⟩
      have HT : Hid (Turned [] _ w3) := ht
      clear ht hf' FIN
      rw [fr_lit]
      go_wp2
      exact ⟨_, fr_of rfl rfl, rfl, HT.out⟩
    · rw [if_neg hx] at hu
      subst hu
      go_wp2_with (go_at_call 9; refine (bwait_any now tmo _).mono ?_; rintro e w' ⟨rfl, rfl⟩)
      refine reopen (R := fun a => Code.wp Yba.prog _ _ a _) rfl rfl ?_
      intro f' hf'
      refine FIN.out f' ⟨hf' 0, hf' 1, hf' 2, hf' 3, hf' 4, hf' 5, hf' 6, hf' 7, hf' 8, hf' 9, hf' 10, trivial⟩ ⟨hf' 33, hf' 34, hf' 35, hf' 36, hf' 294, hf' 295, trivial⟩ _ ?_
      rintro a w3 ⟨f3, rfl, ht⟩
      have HT : Hid (Turned [] _ w3) := ht
      clear ht hf' FIN
      rw [fr_lit]
      go_wp2
      exact ⟨_, fr_of rfl rfl, rfl, HT.out⟩
end Go.Proofs.Ybulkcfyi
