/-
  send and tellPath: a message for another node goes out.
-/
import Derived.Test.YbulkcfyiSend
import Derived.Test.YbulkcfyiPath0
import Derived.Deep.RegionWith
namespace Go.Proofs.Ybulkcfyi
open Go.RowKit Go.Stop
attribute [local go_sem ↓] Go.wp_at_zero Go.wp_at_succ

set_option maxHeartbeats 400000 in
theorem taken_yes (kd : Int) (w : World) (h : kd = 19 ∨ kd = 3) : Calls Yba.prog 44 #[.int .u8 kd] w fun e w' => e = .returned (.bool true) ∧ w' = w := by
  rcases h with rfl | rfl
  all_goals
    go_enter Yba.func44, Yba.ntmps44
    go_wp2
    go_ret
    exact ⟨rfl, rfl⟩

set_option maxHeartbeats 400000 in
theorem taken_no (kd : Int) (w : World) (h : kd = 20 ∨ kd = 21) : Calls Yba.prog 44 #[.int .u8 kd] w fun e w' => e = .returned (.bool false) ∧ w' = w := by
  rcases h with rfl | rfl
  all_goals
    go_enter Yba.func44, Yba.ntmps44
    go_wp2
    go_ret
    exact ⟨rfl, rfl⟩

theorem nilAheadS (a : Addr) (w : World) : (nilAhead 300 86 (.pointer (some a)) "Send").run Yba.prog w = .ok (some false) w := by kernel_rfl
theorem methodS (a : Addr) (w : World) : (Go.method 300 86 (.pointer (some a)) "Send").run Yba.prog w = .ok (94, .pointer (some a)) w := by kernel_rfl

/-- What a message that went out leaves: the network's one message, the node's serial. -/
def Went (w w' : World) (B nb : Nat) (kd id to : Int) (n : Nat) (zs : List Int) (sj tm sr pr : Int) : Prop :=
  ∃ g cap p' c', w'.cell? ⟨nb, 0, none⟩ = some (.slice (some ⟨g, 0, none⟩) 1 cap) ∧ w.heap.size ≤ g ∧ MsgAt w' g kd id to p' n c' sj tm sr ∧ IdsAt w' p' n zs ∧
    w'.cell? ⟨B, 20, none⟩ = some (.int .u64 pr) ∧ w'.cell? ⟨B, 73, none⟩ = some (.slice none 0 0) ∧ Turned [B, nb] w w'

set_option maxHeartbeats 800000 in
theorem send_plain (B nb : Nat) (kd id fr to sj tm sr pr : Int) (p : Option Addr) (n c : Nat) (zs : List Int) (w : World) (hk : kd = 20 ∨ kd = 21) (hp : p = none → n = 0 ∧ c = 0) (hB : IdsAt w p n zs) (hn : n ≤ 1024)
    (n0 : w.cell? ⟨B, 0, none⟩ = some (.int .u64 id)) (n4 : w.cell? ⟨B, 4, none⟩ = some (.iface 86 (.pointer (some ⟨nb, 0, none⟩)))) (n20 : w.cell? ⟨B, 20, none⟩ = some (.int .u64 pr)) (n73 : w.cell? ⟨B, 73, none⟩ = some (.slice none 0 0))
    (c0 : w.cell? ⟨nb, 0, none⟩ = some (.slice none 0 0)) (f0 : w.frozen? ⟨nb, 0, none⟩ = false) (hne : B ≠ nb) :
    Calls Yba.prog 30 #[.pointer (some ⟨B, 0, none⟩), .agg (msgCells kd fr to p n c sj tm sr)] w fun e w' => e = .returned (.tuple #[]) ∧ Went w w' B nb kd id to n zs sj tm sr pr := by
  have hBl := World.block_lt_of_cell? _ _ n0
  have hnb := World.block_lt_of_cell? _ _ c0
  have HP : Hid ((p = none → n = 0 ∧ c = 0) ∧ IdsAt w p n zs) := ⟨hp, hB⟩
  have HF : Hid (w.cell? ⟨nb, 0, none⟩ = some (.slice none 0 0) ∧ w.frozen? ⟨nb, 0, none⟩ = false) := ⟨c0, f0⟩
  have HN : Hid (w.cell? ⟨B, 20, none⟩ = some (.int .u64 pr) ∧ w.cell? ⟨B, 73, none⟩ = some (.slice none 0 0) ∧ B ≠ nb) := ⟨n20, n73, hne⟩
  clear hp hB c0 f0 n20 n73 hne
  have na := nilAheadS ⟨nb, 0, none⟩
  have nm := methodS ⟨nb, 0, none⟩
  unfold msgCells
  go_enter Yba.func30, Yba.ntmps30
  go_wp2_with fail
  refine (taken_no kd _ hk).mono ?_
  rintro e w' ⟨rfl, rfl⟩
  go_wp2_with fail
  have hcn : ∀ o, (w.alloc o).cell? ⟨nb, 0, none⟩ = some (.slice none 0 0) := fun o => cell?_alloc_old o HF.out.1
  have hfn : ∀ o, (w.alloc o).frozen? ⟨nb, 0, none⟩ = false := fun o => (World.frozen?_alloc_old _ _ _ (by simp; omega)).trans HF.out.2
  have hta : ∀ o, Below w.heap.size w (w.alloc o).drew := fun o => ((Below.refl _ w).alloc (Nat.le_refl _) o).drew
  have HC : Hid ((∀ o, (w.alloc o).cell? ⟨nb, 0, none⟩ = some (.slice none 0 0)) ∧ (∀ o, (w.alloc o).frozen? ⟨nb, 0, none⟩ = false) ∧ ∀ o, Below w.heap.size w (w.alloc o).drew) := ⟨hcn, hfn, hta⟩
  clear hcn hfn hta
  go_region_with (go_at_call 94; refine (csend_any nb kd id to sj tm sr p n c zs _ HP.out.1 ?_ hn ?_ ?_).mono ?_; exact HP.out.2.below (HC.out.2.2 _); exact HC.out.1 _; exact HC.out.2.1 _; rintro e w' ⟨rfl, g, cap, p', c', m1, m2, m3, m4, m5⟩)
  all_goals
    go_wp2
    go_end0
    have bw : Below w.heap.size w _ := HC.out.2.2 (.cells #[.int .u8 kd, .int .u64 id, .int .u64 to, .slice p n c, .int .u64 sj, .int .u64 tm, .int .u64 sr] 67)
    refine ⟨rfl, g, cap, p', c', m1, by simp at m2; omega, m3, m4, ?_, ?_, ((Turned.of_below bw).trans (m5.mono (by simp)))⟩
    · rw [m5.cell (p := ⟨B, 20, none⟩) (by simp; omega) (by simpa using HN.out.2.2), bw.cell (p := ⟨B, 20, none⟩) hBl]; exact HN.out.1
    · rw [m5.cell (p := ⟨B, 73, none⟩) (by simp; omega) (by simpa using HN.out.2.2), bw.cell (p := ⟨B, 73, none⟩) hBl]; exact HN.out.2.1

set_option maxHeartbeats 800000 in
theorem send_once (B nb : Nat) (kd id fr to sj tm sr pr : Int) (p : Option Addr) (n c : Nat) (zs : List Int) (w : World) (hk : kd = 19 ∨ kd = 3) (hp : p = none → n = 0 ∧ c = 0) (hB : IdsAt w p n zs) (hpB : ∀ a, p = some a → a.block ≠ B) (hn : n ≤ 1024)
    (n0 : w.cell? ⟨B, 0, none⟩ = some (.int .u64 id)) (n4 : w.cell? ⟨B, 4, none⟩ = some (.iface 86 (.pointer (some ⟨nb, 0, none⟩)))) (n20 : w.cell? ⟨B, 20, none⟩ = some (.int .u64 pr)) (n73 : w.cell? ⟨B, 73, none⟩ = some (.slice none 0 0)) (f20 : w.frozen? ⟨B, 20, none⟩ = false)
    (c0 : w.cell? ⟨nb, 0, none⟩ = some (.slice none 0 0)) (f0 : w.frozen? ⟨nb, 0, none⟩ = false) (hne : B ≠ nb) :
    Calls Yba.prog 30 #[.pointer (some ⟨B, 0, none⟩), .agg (msgCells kd fr to p n c sj tm sr)] w fun e w' => e = .returned (.tuple #[]) ∧ Went w w' B nb kd id to n zs sj tm (IntKind.u64.wrap (pr + 1)) (IntKind.u64.wrap (pr + 1)) := by
  have hBl := World.block_lt_of_cell? _ _ n0
  have hnb := World.block_lt_of_cell? _ _ c0
  have HP : Hid ((p = none → n = 0 ∧ c = 0) ∧ IdsAt w p n zs ∧ ∀ a, p = some a → a.block ≠ B) := ⟨hp, hB, hpB⟩
  have HF : Hid (w.cell? ⟨nb, 0, none⟩ = some (.slice none 0 0) ∧ w.frozen? ⟨nb, 0, none⟩ = false) := ⟨c0, f0⟩
  have HN : Hid (w.cell? ⟨B, 20, none⟩ = some (.int .u64 pr) ∧ w.cell? ⟨B, 73, none⟩ = some (.slice none 0 0) ∧ B ≠ nb) := ⟨n20, n73, hne⟩
  clear hp hB c0 f0 n73 hne hpB
  have na := nilAheadS ⟨nb, 0, none⟩
  have nm := methodS ⟨nb, 0, none⟩
  unfold msgCells
  go_enter Yba.func30, Yba.ntmps30
  go_wp2_with fail
  refine (taken_yes kd _ hk).mono ?_
  rintro e w' ⟨rfl, rfl⟩
  go_wp2_with fail
  clear n20 f20
  obtain ⟨v, ev⟩ : ∃ v, v = w.setCell ⟨B, 20, none⟩ (.int .u64 (IntKind.u64.wrap (pr + 1))) := ⟨_, rfl⟩
  rw [← ev]
  have zv : v.heap.size = w.heap.size := by rw [ev]; simp [World.setCell]
  have oth : ∀ a : Addr, a ≠ ⟨B, 20, none⟩ → v.cell? a = w.cell? a := fun a ha => by rw [ev]; exact World.cell?_setCell_other _ _ _ _ (Ne.symm ha)
  have v0 : v.cell? ⟨B, 0, none⟩ = some (.int .u64 id) := (oth _ (by simp)).trans n0
  have v4 : v.cell? ⟨B, 4, none⟩ = some (.iface 86 (.pointer (some ⟨nb, 0, none⟩))) := (oth _ (by simp)).trans n4
  have v73 : v.cell? ⟨B, 73, none⟩ = some (.slice none 0 0) := (oth _ (by simp)).trans HN.out.2.1
  have v20 : v.cell? ⟨B, 20, none⟩ = some (.int .u64 (IntKind.u64.wrap (pr + 1))) := by rw [ev]; exact World.cell?_setCell_same _ _ _ HN.out.1
  have vn : v.cell? ⟨nb, 0, none⟩ = some (.slice none 0 0) := (oth _ (by simp)).trans HF.out.1
  have tv : Turned [B] w v := by rw [ev]; exact (Turned.refl [B] w).setCell _ (.inr (by simp)) _
  have vf : v.frozen? ⟨nb, 0, none⟩ = false := (tv.frozen (p := ⟨nb, 0, none⟩) hnb (by simpa using Ne.symm HN.out.2.2)).trans HF.out.2
  have vi : IdsAt v p n zs := HP.out.2.1.turned tv (fun a ha => by simpa using HP.out.2.2 a ha)
  have HP' : Hid ((p = none → n = 0 ∧ c = 0) ∧ IdsAt v p n zs) := ⟨HP.out.1, vi⟩
  have HF' : Hid (v.cell? ⟨nb, 0, none⟩ = some (.slice none 0 0) ∧ v.frozen? ⟨nb, 0, none⟩ = false) := ⟨vn, vf⟩
  have HN' : Hid (v.cell? ⟨B, 20, none⟩ = some (.int .u64 (IntKind.u64.wrap (pr + 1))) ∧ v.cell? ⟨B, 73, none⟩ = some (.slice none 0 0) ∧ B ≠ nb ∧ Turned [B] w v) := ⟨v20, v73, HN.out.2.2, tv⟩
  clear oth v0 vn vf vi tv v20 v73 ev HP HF HN n0 n4
  have hcn : ∀ o, (v.alloc o).cell? ⟨nb, 0, none⟩ = some (.slice none 0 0) := fun o => cell?_alloc_old o HF'.out.1
  have hfn : ∀ o, (v.alloc o).frozen? ⟨nb, 0, none⟩ = false := fun o => (World.frozen?_alloc_old _ _ _ (by simp; omega)).trans HF'.out.2
  have hta : ∀ o, Below v.heap.size v (v.alloc o).drew := fun o => ((Below.refl _ v).alloc (Nat.le_refl _) o).drew
  have HC : Hid ((∀ o, (v.alloc o).cell? ⟨nb, 0, none⟩ = some (.slice none 0 0)) ∧ (∀ o, (v.alloc o).frozen? ⟨nb, 0, none⟩ = false) ∧ ∀ o, Below v.heap.size v (v.alloc o).drew) := ⟨hcn, hfn, hta⟩
  clear hcn hfn hta
  go_region_with (go_at_call 94; refine (csend_any nb kd id to sj tm (IntKind.u64.wrap (pr + 1)) p n c zs _ HP'.out.1 ?_ hn ?_ ?_).mono ?_; exact HP'.out.2.below (HC.out.2.2 _); exact HC.out.1 _; exact HC.out.2.1 _; rintro e w' ⟨rfl, g, cap, p', c', m1, m2, m3, m4, m5⟩)
  all_goals
    go_wp2
    go_end0
    have bw : Below v.heap.size v _ := HC.out.2.2 (.cells #[.int .u8 kd, .int .u64 id, .int .u64 to, .slice p n c, .int .u64 sj, .int .u64 tm, .int .u64 (IntKind.u64.wrap (pr + 1))] 67)
    refine ⟨rfl, g, cap, p', c', m1, by simp at m2; omega, m3, m4, ?_, ?_, ((HN'.out.2.2.2.mono (by simp)).trans ((Turned.of_below bw).trans (m5.mono (by simp))))⟩
    · rw [m5.cell (p := ⟨B, 20, none⟩) (by simp; omega) (by simpa using HN'.out.2.2.1), bw.cell (p := ⟨B, 20, none⟩) (by simp; omega)]; exact HN'.out.1
    · rw [m5.cell (p := ⟨B, 73, none⟩) (by simp; omega) (by simpa using HN'.out.2.2.1), bw.cell (p := ⟨B, 73, none⟩) (by simp; omega)]; exact HN'.out.2.1

end Go.Proofs.Ybulkcfyi
