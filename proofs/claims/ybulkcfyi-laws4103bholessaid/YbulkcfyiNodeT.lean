/-
  NewNode with no neighbour: what each slot of its last statement holds.
-/
import Derived.Test.YbulkcfyiNil
import Derived.Test.YbulkcfyiSlots
namespace Go.Proofs.Ybulkcfyi
open Go.RowKit

theorem make_links : ∀ w, (Instr.makeSlice 55 (.int .i64 0) (.int .i64 0)).run Yba.prog w = .ok (.slice (some ⟨w.heap.size, 0, none⟩) 0 0) (w.alloc (.cells #[] 103)) := fun _ => by kernel_rfl

/-- 'cmp.Or(x, y)'. -/
def orT (x y : Int) : Int := if x = 0 then y else x
theorem or_any (g : Nat) (x y : Int) (w : World) (c0 : w.cell? ⟨g, 0, none⟩ = some (.int .u64 x)) (c1 : w.cell? ⟨g, 1, none⟩ = some (.int .u64 y)) :
    Calls Yba.prog 18 #[.slice (some ⟨g, 0, none⟩) 2 2] w fun e w' => e = .returned (.int .u64 (orT x y)) ∧ w' = w := or_two g x y w c0 c1

def ringArr : Array Value := #[.bool true, .bool false, .int .u64 0, .bool false, .int .u64 0, .int .u64 0, .int .u64 0, .bool false, .int .u64 0, .int .u64 0, .int .u8 0, .int .u64 0, .int .u64 0, .int .u64 0, .int .u64 0, .int .u64 0, .int .u64 0, .int .u8 0, .int .u64 0, .int .u64 0, .slice none 0 0, .int .u64 0, .int .u64 0, .int .u64 0, .int .u64 0, .bool false, .int .u64 0, .slice none 0 0, .bool false, .bool false, .bool false, .int .u64 0, .int .u64 0, .int .i64 0, .int .i64 0, .slice none 0 0, .bool false, .int .u64 0, .int .u64 0, .int .u64 0]
def nodeArr (id l t : Int) (net clk : Value) (lk gr : Nat) (n3 n16 m16 n18 m18 n72 : Int) : Array Value := #[.int .u64 id, .int .i64 l, .int .u64 t, .int .u64 n3, net, clk, .slice none 0 0, .slice (some ⟨lk, 0, none⟩) 0 0, .slice none 0 0, .int .u64 0, .slice none 0 0, .slice none 0 0, .int .i64 0, .slice none 0 0, .slice none 0 0, .int .u64 0, .int .u64 n16, .int .u64 m16, .int .u64 n18, .int .u64 m18, .int .u64 0, .slice none 0 0, .int .i64 0, .slice none 0 0, .int .i64 0, .int .u64 0, .slice none 0 0, .bool true, .bool false, .int .u64 0, .bool false, .int .u64 0, .int .u64 0, .int .u64 0, .bool false, .int .u64 0, .int .u64 0, .int .u8 0, .int .u64 0, .int .u64 0, .int .u64 0, .int .u64 0, .int .u64 0, .int .u64 0, .int .u8 0, .int .u64 0, .int .u64 0, .slice none 0 0, .int .u64 0, .int .u64 0, .int .u64 0, .int .u64 0, .bool false, .int .u64 0, .slice none 0 0, .bool false, .bool false, .bool false, .int .u64 0, .int .u64 0, .int .i64 0, .int .i64 0, .slice none 0 0, .bool false, .int .u64 0, .int .u64 0, .int .u64 0, .slice none 0 0, .slice none 0 0, .slice none 0 0, .slice none 0 0, .pointer (some ⟨gr, 0, none⟩), .int .u64 n72, .slice none 0 0, .slice none 0 0]

theorem build_node (id l t : Int) (tn tc : TypeId) (an ac : Addr) (lk gr : Nat) (n3 n16 m16 n18 m18 n72 : Int) (w : World) :
    (Instr.build 77 #[(0, .int .u64 id), (1, .int .i64 l), (2, .int .u64 t), (3, .int .u64 n3), (16, .agg #[.int .u64 n16, .int .u64 m16]), (17, .agg #[.int .u64 n18, .int .u64 m18]), (23, .agg ringArr), (28, .pointer (some ⟨gr, 0, none⟩)), (29, .int .u64 n72), (4, .iface tn (.pointer (some an))), (5, .iface tc (.pointer (some ac))), (6, .slice none 0 0), (7, .slice (some ⟨lk, 0, none⟩) 0 0), (8, .slice none 0 0)]).run Yba.prog w =
      .ok (.agg (nodeArr id l t (.iface tn (.pointer (some an))) (.iface tc (.pointer (some ac))) lk gr n3 n16 m16 n18 m18 n72)) w := by kernel_rfl
theorem box_node (id l t : Int) (tn tc : TypeId) (an ac : Addr) (lk gr : Nat) (n3 n16 m16 n18 m18 n72 : Int) (w : World) :
    (Instr.box 77 (.agg (nodeArr id l t (.iface tn (.pointer (some an))) (.iface tc (.pointer (some ac))) lk gr n3 n16 m16 n18 m18 n72))).run Yba.prog w =
      .ok (.pointer (some ⟨w.heap.size, 0, none⟩)) (w.alloc (.cells (nodeArr id l t (.iface tn (.pointer (some an))) (.iface tc (.pointer (some ac))) lk gr n3 n16 m16 n18 m18 n72) 77)) := by kernel_rfl

/-- The node's cells that the laws look at. -/
structure NodeAt (w : World) (b : Nat) (id t : Int) (net clk : Value) : Prop where
  c0 : w.cell? ⟨b, 0, none⟩ = some (.int .u64 id)
  c2 : w.cell? ⟨b, 2, none⟩ = some (.int .u64 t)
  c4 : w.cell? ⟨b, 4, none⟩ = some net
  c5 : w.cell? ⟨b, 5, none⟩ = some clk
  c6 : w.cell? ⟨b, 6, none⟩ = some (.slice none 0 0)
  c8 : w.cell? ⟨b, 8, none⟩ = some (.slice none 0 0)
  c20 : w.cell? ⟨b, 20, none⟩ = some (.int .u64 0)
  c73 : w.cell? ⟨b, 73, none⟩ = some (.slice none 0 0)
  f20 : w.frozen? ⟨b, 20, none⟩ = false
  f73 : w.frozen? ⟨b, 73, none⟩ = false

theorem NodeAt.later {w w' : World} {b : Nat} {id t : Int} {net clk : Value} (h : NodeAt w b id t net clk) {B : Nat} (hb : Below B w w') (hlt : b < B) : NodeAt w' b id t net clk where
  c0 := (hb.cell (p := ⟨b, 0, none⟩) hlt).trans h.c0
  c2 := (hb.cell (p := ⟨b, 2, none⟩) hlt).trans h.c2
  c4 := (hb.cell (p := ⟨b, 4, none⟩) hlt).trans h.c4
  c5 := (hb.cell (p := ⟨b, 5, none⟩) hlt).trans h.c5
  c6 := (hb.cell (p := ⟨b, 6, none⟩) hlt).trans h.c6
  c8 := (hb.cell (p := ⟨b, 8, none⟩) hlt).trans h.c8
  c20 := (hb.cell (p := ⟨b, 20, none⟩) hlt).trans h.c20
  c73 := (hb.cell (p := ⟨b, 73, none⟩) hlt).trans h.c73
  f20 := (hb.frozen (p := ⟨b, 20, none⟩) hlt).trans h.f20
  f73 := (hb.frozen (p := ⟨b, 73, none⟩) hlt).trans h.f73

theorem node_new (id l t : Int) (net clk : Value) (lk gr : Nat) (n3 n16 m16 n18 m18 n72 : Int) (w : World) :
    NodeAt (w.alloc (.cells (nodeArr id l t net clk lk gr n3 n16 m16 n18 m18 n72) 77)) w.heap.size id t net clk := by
  have hg : (w.alloc (.cells (nodeArr id l t net clk lk gr n3 n16 m16 n18 m18 n72) 77)).heap[w.heap.size]? = some (.cells (nodeArr id l t net clk lk gr n3 n16 m16 n18 m18 n72) 77 (0, 0)) := by
    show (w.heap.push _)[w.heap.size]? = _
    simp
  constructor
  all_goals first | exact (cell_of_row _ _ _ _ _ _ hg).trans rfl | exact frozen_of_row _ _ _ _ _ hg

/-- Two integers in a slice of their own. -/
def TwoAt (v : Value) (w : World) : Prop := ∃ (g : Nat) (x y : Int), v = .slice (some ⟨g, 0, none⟩) 2 2 ∧ g < w.heap.size ∧ w.cell? ⟨g, 0, none⟩ = some (.int .u64 x) ∧ w.cell? ⟨g, 1, none⟩ = some (.int .u64 y)

def nodeT (id l t : Int) (net clk : Value) (cfg lk base : Nat) (k : Tmp) (v : Value) (w : World) : Prop :=
  match k with
  | 0 => v = .int .u64 id
  | 2 => v = net
  | 3 => v = clk
  | 6 => v = .pointer (some ⟨cfg, 0, none⟩)
  | 11 => v = .slice none 0 0
  | 14 => v = .slice (some ⟨lk, 0, none⟩) 0 0
  | 16 => v = .int .u64 t
  | 58 => v = .int .u64 id
  | 59 => v = .pointer (some ⟨cfg, 0, none⟩)
  | 60 => v = .int .i64 l
  | 61 => v = .int .u64 t
  | 62 => v = .pointer (some ⟨cfg, 2, none⟩)
  | 63 => v = .int .u64 0
  | 64 => v = .int .u64 t
  | 65 => ∃ n : Int, v = .int .u64 n
  | 66 => TwoAt v w
  | 67 => ∃ n : Int, v = .int .u64 n
  | 68 => v = .pointer (some ⟨cfg, 3, none⟩)
  | 69 => v = .int .u64 0
  | 70 => TwoAt v w
  | 71 => ∃ n : Int, v = .int .u64 n
  | 72 => ∃ n m : Int, v = .agg #[.int .u64 n, .int .u64 m]
  | 73 => v = .pointer (some ⟨cfg, 4, none⟩)
  | 74 => v = .int .u64 0
  | 75 => TwoAt v w
  | 76 => ∃ n : Int, v = .int .u64 n
  | 77 => ∃ n m : Int, v = .agg #[.int .u64 n, .int .u64 m]
  | 78 => v = .agg ringArr
  | 79 => v = .pointer (some ⟨cfg, 5, none⟩)
  | 80 => v = .int .u64 0
  | 81 => v = .int .u64 id
  | 82 => ∃ g : Nat, v = .pointer (some ⟨g, 0, none⟩)
  | 83 => ∃ g : Nat, v = .iface 106 (.pointer (some ⟨g, 0, none⟩))
  | 84 => ∃ g : Nat, v = .pointer (some ⟨g, 0, none⟩)
  | 85 => v = .pointer (some ⟨cfg, 6, none⟩)
  | 86 => v = .int .u64 0
  | 87 => v = .int .u64 t
  | 88 => TwoAt v w
  | 89 => ∃ n : Int, v = .int .u64 n
  | 90 => v = net
  | 91 => v = clk
  | 92 => v = .slice none 0 0
  | 93 => v = .slice (some ⟨lk, 0, none⟩) 0 0
  | 94 => v = .int .u64 id
  | 95 => v = .slice none 0 0
  | 96 => v = .pointer (some ⟨cfg, 0, none⟩)
  | 97 => v = .int .i64 l
  | 98 => v = .slice none 0 0
  | 99 => ∃ (gr : Nat) (n3 n16 m16 n18 m18 n72 : Int), v = .agg (nodeArr id l t net clk lk gr n3 n16 m16 n18 m18 n72)
  | 100 => ∃ b : Nat, v = .pointer (some ⟨b, 0, none⟩) ∧ base ≤ b ∧ b < w.heap.size ∧ NodeAt w b id t net clk
  | 10 => ∃ b : Nat, v = .pointer (some ⟨b, 0, none⟩) ∧ base ≤ b ∧ b < w.heap.size ∧ NodeAt w b id t net clk
  | _ => True

theorem TwoAt.later {v : Value} {w w' : World} (hb : Below w.heap.size w w') (h : TwoAt v w) : TwoAt v w' := by
  obtain ⟨g, x, y, e, hg, h0, h1⟩ := h
  exact ⟨g, x, y, e, Nat.lt_of_lt_of_le hg hb.size, (hb.cell (p := ⟨g, 0, none⟩) hg).trans h0, (hb.cell (p := ⟨g, 1, none⟩) hg).trans h1⟩

theorem nodeT_mono (id l t : Int) (net clk : Value) (cfg lk base : Nat) (k : Tmp) (v : Value) (w w' : World) (hb : Below w.heap.size w w') (h : nodeT id l t net clk cfg lk base k v w) : nodeT id l t net clk cfg lk base k v w' := by
  unfold nodeT at h ⊢
  split at h <;> first | exact h | exact TwoAt.later hb h | (obtain ⟨b, e, h1, h2, h3⟩ := h; exact ⟨b, e, h1, Nat.lt_of_lt_of_le h2 hb.size, h3.later hb h2⟩)
end Go.Proofs.Ybulkcfyi
