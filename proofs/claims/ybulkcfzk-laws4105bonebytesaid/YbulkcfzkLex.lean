/-
  The plain law: bytes compared one by one, first byte first; the first eight as one number.
-/
import Derived.Lib.Bytealg
import Derived.Lib.BytesEntry
namespace Go.Proofs.Ybulkcfzk

/-- Two rows of numbers, the first place that differs decides. -/
def lex : List Int → List Int → Int
  | a :: as, b :: bs => if a < b then -1 else if b < a then 1 else lex as bs
  | _, _ => 0

def sgn (x y : Int) : Int := if x < y then -1 else if y < x then 1 else 0

/-- The number that a row of bytes spells, the greatest byte first. -/
def key : List Int → Int
  | [] => 0
  | a :: as => a * 256 ^ as.length + key as

def Byt (l : List Int) : Prop := ∀ z ∈ l, 0 ≤ z ∧ z ≤ 255

theorem Byt.tail {a : Int} {l : List Int} (h : Byt (a :: l)) : Byt l := fun z hz => h z (List.mem_cons_of_mem _ hz)
theorem Byt.head {a : Int} {l : List Int} (h : Byt (a :: l)) : 0 ≤ a ∧ a ≤ 255 := h a (List.mem_cons_self ..)

theorem key_bounds : ∀ (l : List Int), Byt l → 0 ≤ key l ∧ key l < 256 ^ l.length
  | [], _ => by simp [key]
  | a :: l, h => by
    have ih := key_bounds l h.tail
    have ha := h.head
    have e : (256 : Int) ^ (l.length + 1) = 256 ^ l.length * 256 := Int.pow_succ ..
    simp only [key, List.length_cons, e]
    have hp : (0 : Int) < 256 ^ l.length := Int.pow_pos (by decide)
    generalize (256 : Int) ^ l.length = p at *
    have h1 : 0 ≤ a * p := Int.mul_nonneg ha.1 (Int.le_of_lt hp)
    have h2 : a * p ≤ 255 * p := Int.mul_le_mul_of_nonneg_right ha.2 (Int.le_of_lt hp)
    omega

theorem lex_key : ∀ (a b : List Int), a.length = b.length → Byt a → Byt b → lex a b = sgn (key a) (key b)
  | [], [], _, _, _ => by simp [lex, key, sgn]
  | [], _ :: _, h, _, _ => by simp at h
  | _ :: _, [], h, _, _ => by simp at h
  | x :: a, y :: b, h, ha, hb => by
    have hl : a.length = b.length := by simpa using h
    have ih := lex_key a b hl ha.tail hb.tail
    have ka := key_bounds a ha.tail
    have kb := key_bounds b hb.tail
    rw [hl] at ka
    simp only [lex, key, hl, ih]
    have hp : (0 : Int) < 256 ^ b.length := Int.pow_pos (by decide)
    generalize (256 : Int) ^ b.length = p at *
    generalize key a = m at *
    generalize key b = n at *
    have hx : x * p + 1 * p ≤ y * p ∨ ¬ x < y := by
      rcases Int.lt_or_le x y with h' | h'
      · left
        rw [← Int.add_mul]
        exact Int.mul_le_mul_of_nonneg_right (by omega) (Int.le_of_lt hp)
      · right; omega
    have hy : y * p + 1 * p ≤ x * p ∨ ¬ y < x := by
      rcases Int.lt_or_le y x with h' | h'
      · left
        rw [← Int.add_mul]
        exact Int.mul_le_mul_of_nonneg_right (by omega) (Int.le_of_lt hp)
      · right; omega
    have he : x * p = y * p ∨ ¬ x = y := by
      rcases Decidable.em (x = y) with h' | h'
      · left; rw [h']
      · right; exact h'
    generalize x * p = u at *
    generalize y * p = v at *
    unfold sgn
    by_cases c1 : x < y
    · rw [if_pos c1, if_pos (by omega)]
    · rw [if_neg c1]
      by_cases c2 : y < x
      · rw [if_pos c2, if_neg (by omega), if_pos (by omega)]
      · rw [if_neg c2]
        have e : u = v := by omega
        subst e
        have e1 : (u + m < u + n) ↔ m < n := by omega
        have e2 : (u + n < u + m) ↔ n < m := by omega
        simp only [e1, e2]

theorem lex_append : ∀ (a b c d : List Int), a.length = b.length → lex (a ++ c) (b ++ d) = if lex a b = 0 then lex c d else lex a b
  | [], [], c, d, _ => by simp [lex]
  | [], _ :: _, _, _, h => by simp at h
  | _ :: _, [], _, _, h => by simp at h
  | x :: a, y :: b, c, d, h => by
    have ih := lex_append a b c d (by simpa using h)
    simp only [List.cons_append, lex, ih]
    by_cases c1 : x < y
    · simp [c1]
    · by_cases c2 : y < x
      · simp [c1, c2]
      · simp [c1, c2]

theorem lex_self : ∀ (a : List Int), lex a a = 0
  | [] => rfl
  | x :: a => by simp [lex, lex_self a, Int.lt_irrefl]

theorem lex_neg : ∀ (a b : List Int), lex b a = - lex a b
  | [], [] => rfl
  | [], _ :: _ => by simp [lex]
  | _ :: _, [] => by simp [lex]
  | x :: a, y :: b => by
    have ih := lex_neg a b
    simp only [lex, ih]
    by_cases c1 : x < y
    · simp [c1, show ¬ y < x by omega]
    · by_cases c2 : y < x
      · simp [c1, c2]
      · simp [c1, c2]

theorem lex_three : ∀ (a b : List Int), lex a b = -1 ∨ lex a b = 0 ∨ lex a b = 1
  | [], [] => by simp [lex]
  | [], _ :: _ => by simp [lex]
  | _ :: _, [] => by simp [lex]
  | x :: a, y :: b => by
    have ih := lex_three a b
    simp only [lex]
    split
    · simp
    · split
      · simp
      · exact ih

theorem lex_set : ∀ (a : List Int) (i : Nat) (v : Int), i < a.length → lex a (a.set i v) = sgn (a.getD i 0) v
  | [], _, _, h => by simp at h
  | x :: a, 0, v, _ => by simp [lex, sgn, lex_self]
  | x :: a, i + 1, v, h => by
    have ih := lex_set a i v (by simpa using h)
    simp [lex, Int.lt_irrefl, ih]

theorem u8_lt {x y : Int} (hx : 0 ≤ x ∧ x ≤ 255) (hy : 0 ≤ y ∧ y ≤ 255) : (x.toNat.toUInt8 < y.toNat.toUInt8) ↔ x < y := by
  rw [UInt8.lt_iff_toNat_lt]
  simp only [Nat.toUInt8, UInt8.toNat_ofNat']
  rw [Nat.mod_eq_of_lt (by omega), Nat.mod_eq_of_lt (by omega)]
  omega

theorem lex_bytes : ∀ (a b : List Int), a.length = b.length → Byt a → Byt b → Lib.compareBytes (Lib.bytesOf a) (Lib.bytesOf b) = lex a b
  | [], [], _, _, _ => by simp [lex, Lib.bytesOf, Lib.compareBytes]
  | [], _ :: _, h, _, _ => by simp at h
  | _ :: _, [], h, _, _ => by simp at h
  | x :: a, y :: b, h, ha, hb => by
    have ih := lex_bytes a b (by simpa using h) ha.tail hb.tail
    simp only [Lib.bytesOf, List.map_cons, Lib.compareBytes, lex] at ih ⊢
    rw [ih]
    simp only [u8_lt ha.head hb.head, u8_lt hb.head ha.head]

/-- What compareNodes computes. -/
def nodes (a b : List Int) : Int := if key (a.take 8) = key (b.take 8) then lex (a.drop 8) (b.drop 8) else sgn (key (a.take 8)) (key (b.take 8))

theorem Byt.take {l : List Int} (h : Byt l) (n : Nat) : Byt (l.take n) := fun z hz => h z (List.mem_of_mem_take hz)
theorem Byt.drop {l : List Int} (h : Byt l) (n : Nat) : Byt (l.drop n) := fun z hz => h z (List.mem_of_mem_drop hz)

theorem nodes_lex (a b : List Int) (hl : a.length = b.length) (ha : Byt a) (hb : Byt b) : nodes a b = lex a b := by
  have h1 := lex_append (a.take 8) (b.take 8) (a.drop 8) (b.drop 8) (by simp [hl])
  rw [List.take_append_drop, List.take_append_drop] at h1
  rw [h1, lex_key _ _ (by simp [hl]) (ha.take 8) (hb.take 8)]
  unfold nodes sgn
  by_cases e : key (a.take 8) = key (b.take 8)
  · rw [e]; simp [Int.lt_irrefl]
  · rw [if_neg e]
    by_cases c1 : key (a.take 8) < key (b.take 8)
    · simp [c1]
    · simp [c1, show key (b.take 8) < key (a.take 8) by omega]
end Go.Proofs.Ybulkcfzk
