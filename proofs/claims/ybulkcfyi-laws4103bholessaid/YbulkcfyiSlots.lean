/-
  A region that draws its order and whose operations only read and make memory: no walk over the orders. Each operation is shown once, for whatever state it may be met in: a predicate 'T' for each slot says what it holds (it may speak of the world, and must stand where the world only grows); an operation is shown from what 'T' says of the slots that it looks at.
-/
import Derived.Orders
import Derived.Below
namespace Go.Proofs.Ybulkcfyi
open Go Go.RowKit

/-- Does an operation of the region write this slot? -/
def writes (ops : Array Oper) (k : Tmp) : Bool := ops.any fun o => o.dst == some k

/-- What is looked up of the region, once: no guard; each edge that binds goes back; each slot that is written is written by one operation, and lies in the frame; whoever looks at a slot that is written waits for its writer. -/
def slotsOk (ops : Array Oper) (size : Nat) (fs : List Tmp) : Bool :=
  (fs.all fun k => !writes ops k) &&
  (List.range ops.size).all fun i =>
    match ops[i]? with
    | none => true
    | some o =>
      o.guard.isNone && (o.after.all fun e => !Region.binds .any e || decide (e.on < i)) &&
      (match o.dst with
       | none => true
       | some k => decide (k < size) && ((List.range ops.size).all fun j => j == i || ((ops[j]?).bind (·.dst)) != some k)) &&
      ((o.looksAt ops).all fun k => (writes ops k || fs.contains k) && ((List.range ops.size).all fun j => ((ops[j]?).bind (·.dst)) != some k || (o.after.any fun e => Region.binds .any e && e.on == j)))

/-- The slots that an operation looks at. -/
def opTmps (o : Op) : List Tmp := o.operands.toList.filterMap fun | .tmp t => some t | _ => none
theorem looksAt_eq (ops : Array Oper) (o : Oper) (h : o.guard = none) : o.looksAt ops = opTmps o.op := by
  simp [Oper.looksAt, h, opTmps]
  rfl

section
variable {P : Program} {ops : Array Oper} {Q : Exit → Act → World → Prop} {T : Tmp → Value → World → Prop}

theorem slotsOk_at {size : Nat} {fs : List Tmp} (h : slotsOk ops size fs = true) {i : Nat} {o : Oper} (ho : ops[i]? = some o) :
    o.guard = none ∧ (∀ e ∈ o.after, Region.binds .any e = true → e.on < i) ∧
    (∀ k, o.dst = some k → k < size ∧ ∀ j o', ops[j]? = some o' → j ≠ i → o'.dst ≠ some k) ∧
    (∀ k ∈ o.looksAt ops, (writes ops k = true ∨ k ∈ fs) ∧ ∀ j o', ops[j]? = some o' → o'.dst = some k → ∃ e ∈ o.after, Region.binds .any e = true ∧ e.on = j) := by
  have hi : i < ops.size := (Array.getElem?_eq_some_iff.1 ho).1
  unfold slotsOk at h
  rw [Bool.and_eq_true] at h
  have h1 := List.all_eq_true.1 h.2 i (List.mem_range.2 hi)
  simp only [ho, Bool.and_eq_true] at h1
  obtain ⟨⟨⟨h1, h2⟩, h3⟩, h4⟩ := h1
  refine ⟨by simpa using h1, fun e he hb => ?_, fun k hk => ?_, fun k hk => ?_⟩
  · have := Array.all_eq_true_iff_forall_mem.1 h2 e he
    simpa [hb] using this
  · simp only [hk, Bool.and_eq_true, decide_eq_true_eq] at h3
    refine ⟨h3.1, fun j o' hj hne hd => ?_⟩
    have hjs : j < ops.size := (Array.getElem?_eq_some_iff.1 hj).1
    have := List.all_eq_true.1 h3.2 j (List.mem_range.2 hjs)
    simp [hj, hd, hne] at this
  · have h5 := List.all_eq_true.1 h4 k hk
    simp only [Bool.and_eq_true] at h5
    refine ⟨by simpa using h5.1, fun j o' hj hd => ?_⟩
    have hjs : j < ops.size := (Array.getElem?_eq_some_iff.1 hj).1
    have h6 := List.all_eq_true.1 h5.2 j (List.mem_range.2 hjs)
    simp only [hj, Option.bind_some, hd, bne_self_eq_false, Bool.false_or] at h6
    obtain ⟨e, he, hb⟩ := Array.any_eq_true'.1 h6
    simp only [Bool.and_eq_true, beq_iff_eq] at hb
    exact ⟨e, he, hb.1, hb.2⟩

/-- The state in mid-region. -/
structure SlotsAt (ops : Array Oper) (T : Tmp → Value → World → Prop) (size : Nat) (fs : List Tmp) (ds : List Deferred) (w0 : World) (listed : Array Bool) (a : Act) (w : World) : Prop where
  size : a.tmps.size = size
  defers : a.defers = ds
  len : listed.size = ops.size
  below : Below w0.heap.size w0 w
  free : ∀ k ∈ fs, T k (a.eval (.tmp k)) w
  vals : ∀ i o k, ops[i]? = some o → listed.getD i false = true → o.dst = some k → T k (a.eval (.tmp k)) w

theorem writes_false {k : Tmp} (h : writes ops k = false) {j : Nat} {o : Oper} (ho : ops[j]? = some o) : o.dst ≠ some k := by
  intro hd
  have : writes ops k = true := Array.any_eq_true'.2 ⟨o, Array.mem_of_getElem? ho, by simp [hd]⟩
  rw [h] at this
  cases this

theorem writes_true {k : Tmp} (h : writes ops k = true) : ∃ (j : Nat) (o : Oper), ops[j]? = some o ∧ o.dst = some k := by
  obtain ⟨o, ho, hd⟩ := Array.any_eq_true'.1 h
  obtain ⟨j, hj, e⟩ := Array.mem_iff_getElem.1 ho
  exact ⟨j, o, by rw [Array.getElem?_eq_getElem hj, e], by simpa using hd⟩

/-- How many have come up. -/
def countTrue (listed : Array Bool) : Nat := (listed.toList.filter id).length

theorem filter_set_true : ∀ (l : List Bool) (i : Nat), l[i]? = some false → ((l.set i true).filter id).length = (l.filter id).length + 1
  | [], i, h => by simp at h
  | b :: l, 0, h => by
    obtain rfl : b = false := by simpa using h
    simp
  | b :: l, i + 1, h => by
    have ih := filter_set_true l i (by simpa using h)
    cases b <;> simp [ih]

theorem filter_all : ∀ (l : List Bool), (l.filter id).length = l.length → ∀ i, i < l.length → l[i]? = some true
  | [], _, i, h => by simp at h
  | b :: l, hl, i, h => by
    have hle : (l.filter id).length ≤ l.length := List.length_filter_le _ _
    cases b with
    | false => simp at hl; omega
    | true =>
      have ih := filter_all l (by simpa using hl)
      cases i with
      | zero => rfl
      | succ i => simpa using ih i (by simpa using h)

theorem wpAny_slots {size : Nat} {fs : List Tmp} {ds : List Deferred} {w0 : World} (ok : slotsOk ops size fs = true)
    (mono : ∀ k v w w', Below w.heap.size w w' → T k v w → T k v w')
    (steps : ∀ o ∈ ops.toList, ∀ a w, Below w0.heap.size w0 w → (∀ k ∈ o.looksAt ops, T k (a.eval (.tmp k)) w) →
      o.wp P a w (fun a' w' => ∃ v, a' = a.put o.dst v ∧ Below w.heap.size w w' ∧ ∀ k, o.dst = some k → T k v w') Q)
    (done : ∀ a w, a.tmps.size = size → a.defers = ds → Below w0.heap.size w0 w → (∀ k, writes ops k = true ∨ k ∈ fs → T k (a.eval (.tmp k)) w) → Q .normal a w) :
    ∀ (fuel : Nat) (listed : Array Bool) (a : Act) (w : World), countTrue listed + fuel = ops.size → SlotsAt ops T size fs ds w0 listed a w → wpAny P .any ops Q fuel listed a w := by
  -- all have come up
  have fin : ∀ (listed : Array Bool) (a : Act) (w : World), SlotsAt ops T size fs ds w0 listed a w → (∀ i, i < ops.size → listed.getD i false = true) → Q .normal a w := by
    intro listed a w S hall
    refine done a w S.size S.defers S.below fun k hk => ?_
    rcases hk with hk | hk
    · obtain ⟨j, o, hj, hd⟩ := writes_true hk
      exact S.vals j o k hj (hall j (Array.getElem?_eq_some_iff.1 hj).1) hd
    · exact S.free k hk
  -- nothing may come up: then all have
  have empty : ∀ (listed : Array Bool), listed.size = ops.size → Region.ready .any ops listed = [] → ∀ n i, i < n → i < ops.size → listed.getD i false = true := by
    intro listed hlen hr n
    induction n with
    | zero => intro i h; omega
    | succ n ih =>
      intro i hin hi
      by_cases hlt : i < n
      · exact ih i hlt hi
      · obtain rfl : i = n := by omega
        cases hl : listed.getD i false with
        | true => rfl
        | false =>
          have hget : listed[i]? = some false := by
            have hil : i < listed.size := by omega
            simp [hil] at hl
            simp [hil, hl]
          have hmem : i ∈ Region.ready .any ops listed := by
            refine mem_ready.2 ⟨by simp [hget], ops[i], by simp [hi], fun e he hb => ?_⟩
            have := (slotsOk_at ok (show ops[i]? = some ops[i] by simp [hi])).2.1 e he hb
            exact ih e.on this (by omega)
          rw [hr] at hmem
          cases hmem
  intro fuel
  induction fuel with
  | zero =>
    intro listed a w hc S
    have hall : ∀ i, i < ops.size → listed.getD i false = true := by
      intro i hi
      have h1 := filter_all listed.toList (by have := S.len; simp only [countTrue] at hc; simp; omega) i (by have := S.len; simp; omega)
      simp at h1
      simp [h1]
    refine ⟨?_, fin listed a w S hall⟩
    cases hr : Region.ready .any ops listed with
    | nil => rfl
    | cons i rest =>
      have hm : i ∈ Region.ready .any ops listed := by rw [hr]; simp
      obtain ⟨h0, o, ho, _⟩ := mem_ready.1 hm
      have := hall i (Array.getElem?_eq_some_iff.1 ho).1
      have hil : i < listed.size := by have := S.len; have := (Array.getElem?_eq_some_iff.1 ho).1; omega
      simp [hil] at h0 this
      rw [h0] at this
      cases this
  | succ fuel ih =>
    intro listed a w hc S
    refine ⟨fun hr => fin listed a w S fun i hi => empty listed S.len hr ops.size i hi hi, fun i hi => ?_⟩
    obtain ⟨h0, o, ho, hdeps⟩ := mem_ready.1 hi
    obtain ⟨hg, _, hdst, hlook⟩ := slotsOk_at ok ho
    have hio : i < ops.size := (Array.getElem?_eq_some_iff.1 ho).1
    have hil : i < listed.size := by have := S.len; omega
    have hfalse : listed[i]? = some false := by simp [hil] at h0; simp [hil, h0]
    have hst := steps o (Array.mem_toList_iff.2 (Array.mem_of_getElem? ho)) a w S.below (fun k hk => by
      rcases (hlook k hk).1 with hw | hw
      · obtain ⟨j, o', hj, hd⟩ := writes_true hw
        obtain ⟨e, he, hb, rfl⟩ := (hlook k hk).2 j o' hj hd
        exact S.vals e.on o' k hj (hdeps e he hb) hd
      · exact S.free k hw)
    unfold wpOp
    simp only [ho]
    have hwant : Region.wanted o (yielded ops a.tmps) = true := by simp [Region.wanted, hg]
    rw [if_pos hwant]
    refine .inl (Oper.wp_mono (fun a' w' hx => ?_) hst)
    obtain ⟨v, rfl, hb, hT⟩ := hx
    refine ih _ _ _ ?_ ⟨?_, ?_, ?_, S.below.trans (hb.mono S.below.size), fun k hk => ?_, fun j oj k hj hl hd => ?_⟩
    · have := filter_set_true listed.toList i (by simpa using hfalse)
      simp only [countTrue, Array.toList_setIfInBounds] at hc ⊢
      omega
    · rw [← S.size]; unfold Act.put; cases o.dst <;> simp
    · rw [← S.defers]; unfold Act.put; cases o.dst <;> rfl
    · simpa using S.len
    · have hkf : writes ops k = false := by
        unfold slotsOk at ok
        rw [Bool.and_eq_true] at ok
        simpa using List.all_eq_true.1 ok.1 k hk
      rw [Act.eval_put (fun d hd e => by cases e; exact writes_false hkf ho hd)]
      exact mono _ _ _ _ hb (S.free k hk)
    · by_cases hji : j = i
      · subst hji
        obtain rfl : oj = o := Option.some.inj (hj.symm.trans ho)
        have hks := (hdst k hd).1
        have he : (a.put oj.dst v).eval (.tmp k) = v := by
          rw [hd]
          have : k < a.tmps.size := by rw [S.size]; exact hks
          simp [Act.eval, Act.put, this]
        rw [he]
        exact hT k hd
      · have hne : ∀ d, o.dst = some d → (Operand.tmp k) ≠ .tmp d := fun d hod e => by
          cases e
          exact (hdst k hod).2 j oj hj hji hd
        rw [Act.eval_put hne]
        refine mono _ _ _ _ hb (S.vals j oj k hj ?_ hd)
        rw [getD_set_ne false (Ne.symm hji)] at hl
        exact hl

/-- **The rule.** -/
theorem wp_region_slots {id : Nat} {a0 : Act} {w0 : World} (fs : List Tmp) (T : Tmp → Value → World → Prop) (hm : P.follows .mixedOrders = true) (ok : slotsOk ops a0.tmps.size fs = true)
    (mono : ∀ k v w w', Below w.heap.size w w' → T k v w → T k v w')
    (start : ∀ k ∈ fs, T k (a0.eval (.tmp k)) w0.drew)
    (steps : ∀ o ∈ ops.toList, ∀ a w, Below w0.heap.size w0 w → (∀ k ∈ opTmps o.op, T k (a.eval (.tmp k)) w) →
      o.wp P a w (fun a' w' => ∃ v, a' = a.put o.dst v ∧ Below w.heap.size w w' ∧ ∀ k, o.dst = some k → T k v w') Q)
    (done : ∀ a w, a.tmps.size = a0.tmps.size → a.defers = a0.defers → Below w0.heap.size w0 w → (∀ k, writes ops k = true ∨ k ∈ fs → T k (a.eval (.tmp k)) w) → Q .normal a w) :
    (Code.region id ops true).wp P Q a0 w0 := by
  refine wp_region_any hm (wpAny_slots (T := T) (w0 := w0) ok mono (fun o ho a w hb hk => steps o ho a w hb (fun k hk' => hk k (by
      obtain ⟨i, hi, e⟩ := Array.mem_iff_getElem.1 (Array.mem_toList_iff.1 ho)
      rw [looksAt_eq ops o (slotsOk_at ok (show ops[i]? = some o by rw [Array.getElem?_eq_getElem hi, e])).1]
      exact hk'))) done ops.size _ a0 _ ?_ ⟨rfl, rfl, by simp, (Below.refl _ w0).drew, start, fun i o k hi hl hd => ?_⟩)
  · simp [countTrue]
  · rw [Array.getD_eq_getD_getElem?] at hl
    by_cases hs : i < ops.size
    · simp [hs] at hl
    · simp [hs] at hl
end
end Go.Proofs.Ybulkcfyi
