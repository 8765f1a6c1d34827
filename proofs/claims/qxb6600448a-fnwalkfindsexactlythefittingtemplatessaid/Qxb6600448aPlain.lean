/- Seat b6600448a: the law, plainly: no Go in sight. -/
import Derived.Test.Qxb6600448aRows
namespace Go.Proofs.Qxb6600448a.Tr
set_option linter.unusedVariables false

abbrev Txt := List UInt8
inductive Seg where
  | lit (s : Txt)
  | wild
  | deep
deriving DecidableEq

/-! ### the segments of a template -/
def segAt (t : List Txt) (j : Nat) : Seg := if t.getD j [] = [42, 42] ∧ j + 1 = t.length then .deep else if t.getD j [] = [42] then .wild else .lit (t.getD j [])
def pathOf : List Txt → List Seg
  | [] => []
  | [x] => [if x = [42, 42] then .deep else if x = [42] then .wild else .lit x]
  | x :: y :: r => (if x = [42] then .wild else .lit x) :: pathOf (y :: r)

theorem pathOf_length : ∀ t, (pathOf t).length = t.length
  | [] => rfl
  | [x] => rfl
  | x :: y :: r => by simp [pathOf, pathOf_length (y :: r)]
theorem pathOf_get : ∀ (t : List Txt) (j : Nat), j < t.length → (pathOf t)[j]? = some (segAt t j)
  | [], j, h => by simp at h
  | [x], j, h => by
    obtain rfl : j = 0 := by simp at h; omega
    simp [pathOf, segAt]
  | x :: y :: r, 0, h => by simp [pathOf, segAt]
  | x :: y :: r, j + 1, h => by
    have ih := pathOf_get (y :: r) j (by simpa using h)
    simp only [pathOf, List.getElem?_cons_succ, ih]
    simp [segAt]
theorem pathOf_take (t : List Txt) (j : Nat) (h : j < t.length) : (pathOf t).take (j + 1) = (pathOf t).take j ++ [segAt t j] := by
  have hl : j < (pathOf t).length := by rw [pathOf_length]; exact h
  rw [List.take_succ_eq_append_getElem hl]
  have := pathOf_get t j h
  rw [List.getElem?_eq_getElem hl] at this
  simp only [Option.some.injEq] at this
  rw [this]

/-! ### the parts of a path -/
def split : Txt → List Txt
  | [] => [[]]
  | c :: r => if c = 47 then [] :: split r else match split r with
    | h :: t => (c :: h) :: t
    | [] => [[c]]
theorem split_ne : ∀ s, split s ≠ []
  | [] => by simp [split]
  | c :: r => by
    unfold split
    split
    · simp
    · split <;> simp
theorem split_none : ∀ s : Txt, 47 ∉ s → split s = [s]
  | [], _ => rfl
  | c :: r, h => by
    simp only [List.mem_cons, not_or] at h
    unfold split
    rw [if_neg (Ne.symm h.1), split_none r h.2]
theorem split_step (c : UInt8) (r : Txt) (hc : c ≠ 47) (h : Txt) (t : List Txt) (hs : split r = h :: t) : split (c :: r) = (c :: h) :: t := by
  rw [split, if_neg hc, hs]
theorem split_at : ∀ (a b : Txt), 47 ∉ a → split (a ++ 47 :: b) = a :: split b
  | [], b, _ => by rw [List.nil_append, split, if_pos rfl]
  | c :: r, b, h => by
    simp only [List.mem_cons, not_or] at h
    exact split_step c (r ++ 47 :: b) (Ne.symm h.1) r (split b) (split_at r b h.2)

/-! ### fitting -/
def segOk (x y : Txt) : Bool := if x = [42] then !(y == []) else x == y
def fitq : List Seg → List Txt → Bool
  | [], ps => ps.isEmpty
  | [.deep], _ => true
  | .lit s :: q, x :: xs => s == x && fitq q xs
  | .wild :: q, x :: xs => !(x == []) && fitq q xs
  | _, _ => false
def allOk (t ps : List Txt) (k : Nat) : Bool := (List.range k).all fun i => segOk (t.getD i []) (ps.getD i [])
def lastDeep (t : List Txt) : Bool := decide (0 < t.length) && (t.getD (t.length - 1) [] == [42, 42])
def fitsB (t ps : List Txt) : Bool := if lastDeep t then decide (t.length - 1 ≤ ps.length) && allOk t ps (t.length - 1) else t.length == ps.length && allOk t ps t.length

theorem allOk_cons (x p : Txt) (t ps : List Txt) (k : Nat) : allOk (x :: t) (p :: ps) (k + 1) = (segOk x p && allOk t ps k) := by
  unfold allOk
  rw [List.range_succ_eq_map, List.all_cons, List.all_map]
  congr 1
theorem seg_one (x p : Txt) (q : List Seg) (ps : List Txt) (h : ¬ x = [42, 42] ∨ True) : fitq ((if x = [42] then Seg.wild else .lit x) :: q) (p :: ps) = (segOk x p && fitq q ps) := by
  by_cases hx : x = [42]
  · rw [if_pos hx]; unfold segOk; rw [if_pos hx]; rfl
  · rw [if_neg hx]; unfold segOk; rw [if_neg hx]; rfl
theorem seg_nil (x : Txt) (q : List Seg) : fitq ((if x = [42] then Seg.wild else .lit x) :: q) [] = false := by
  by_cases hx : x = [42]
  · rw [if_pos hx]; rfl
  · rw [if_neg hx]; rfl
theorem lastDeep_cons (x y : Txt) (r : List Txt) : lastDeep (x :: y :: r) = lastDeep (y :: r) := by
  unfold lastDeep
  simp

theorem fits_eq : ∀ (t ps : List Txt), fitsB t ps = fitq (pathOf t) ps
  | [], ps => by
    cases ps <;> simp [fitsB, lastDeep, fitq, pathOf, allOk]
  | [x], ps => by
    by_cases hx : x = [42, 42]
    · have : lastDeep [x] = true := by simp [lastDeep, hx]
      unfold fitsB
      rw [if_pos this]
      simp [pathOf, hx, fitq, allOk]
    · have : ¬ lastDeep [x] = true := by simp [lastDeep, hx]
      unfold fitsB
      rw [if_neg this]
      simp only [pathOf, if_neg hx]
      cases ps with
      | nil => rw [seg_nil]; rfl
      | cons p ps =>
        rw [seg_one x p [] ps (.inr trivial)]
        cases ps with
        | nil =>
          have := allOk_cons x p [] [] 0
          simp only [List.length_cons, List.length_nil] at this ⊢
          rw [this]; simp [fitq, allOk]
        | cons p' ps => simp [fitq]
  | x :: y :: r, ps => by
    have ih := fits_eq (y :: r)
    simp only [pathOf]
    cases ps with
    | nil =>
      rw [seg_nil]
      unfold fitsB
      split <;> simp
    | cons p ps =>
      rw [seg_one x p _ ps (.inr trivial), ← ih ps]
      unfold fitsB
      rw [lastDeep_cons]
      have e1 : (x :: y :: r).length - 1 = ((y :: r).length - 1) + 1 := by simp
      have e2 : (x :: y :: r).length = (y :: r).length + 1 := by simp
      split
      · rw [e1, allOk_cons, List.length_cons (a := p)]
        have : decide ((y :: r).length - 1 + 1 ≤ ps.length + 1) = decide ((y :: r).length - 1 ≤ ps.length) := by simp
        rw [this]
        cases segOk x p <;> simp
      · rw [e2, allOk_cons, List.length_cons (a := p)]
        have : ((y :: r).length + 1 == ps.length + 1) = ((y :: r).length == ps.length) := by rw [Bool.eq_iff_iff, beq_iff_eq, beq_iff_eq]; omega
        rw [this]
        cases segOk x p <;> simp

/-! ### strictly rising lists -/
def Up (l : List Nat) : Prop := l.Pairwise (· < ·)
theorem up_ext : ∀ (l m : List Nat), Up l → Up m → (∀ x, x ∈ l ↔ x ∈ m) → l = m
  | [], [], _, _, _ => rfl
  | [], b :: m, _, _, h => by have := (h b).2 (by simp); cases this
  | a :: l, [], _, _, h => by have := (h a).1 (by simp); cases this
  | a :: l, b :: m, hl, hm, h => by
    obtain ⟨h1, h2⟩ := List.pairwise_cons.1 hl
    obtain ⟨h3, h4⟩ := List.pairwise_cons.1 hm
    have hab : a = b := by
      rcases List.mem_cons.1 ((h a).1 (by simp)) with e | e
      · exact e
      · rcases List.mem_cons.1 ((h b).2 (by simp)) with e' | e'
        · exact e'.symm
        · have := h3 a e; have := h1 b e'; omega
    subst hab
    congr 1
    refine up_ext l m h2 h4 fun x => ⟨fun hx => ?_, fun hx => ?_⟩
    · rcases List.mem_cons.1 ((h x).1 (by simp [hx])) with e | e
      · subst e; have := h1 x hx; omega
      · exact e
    · rcases List.mem_cons.1 ((h x).2 (by simp [hx])) with e | e
      · subst e; have := h3 x hx; omega
      · exact e
theorem up_range (n : Nat) (f : Nat → Bool) : Up ((List.range n).filter f) := List.pairwise_lt_range.filter _
theorem filter_at (n i : Nat) (f : Nat → Bool) (hi : i < n) (hf : f i = true) : ((List.range n).filter f)[((List.range i).filter f).length]? = some i := by
  obtain ⟨k, rfl⟩ : ∃ k, n = i + 1 + k := ⟨n - (i + 1), by omega⟩
  rw [List.range_add, List.filter_append, List.range_succ, List.filter_append]
  simp [hf]
theorem filter_len (n : Nat) (f : Nat → Bool) (i : Nat) : ((List.range (i + 1)).filter f).length = ((List.range i).filter f).length + (if f i then 1 else 0) := by
  rw [List.range_succ, List.filter_append, List.length_append]
  cases h : f i <;> simp [List.filter, h]

/-- what sinking i into l leaves. -/
theorem up_sink {l : List Nat} {i j : Nat} (hl : Up l) (hi : i ∉ l) (hj : j ≤ l.length) (hd : ∀ x ∈ l.drop j, i < x) (hs : j = 0 ∨ l.getD (j - 1) 0 ≤ i) :
    Up (l.take j ++ i :: l.drop j) ∧ ∀ x, x ∈ l.take j ++ i :: l.drop j ↔ x = i ∨ x ∈ l := by
  have key : ∀ x ∈ l.take j, x < i := by
    intro x hx
    rcases hs with rfl | hs
    · simp at hx
    · obtain ⟨k, hk, rfl⟩ := List.getElem_of_mem hx
      rw [List.length_take] at hk
      have hjl : j - 1 < l.length := by omega
      have h1 : l.getD (j - 1) 0 = l[j - 1] := by simp [List.getD, List.getElem?_eq_getElem hjl]
      rw [h1] at hs
      rw [List.getElem_take]
      have hne : l[k] ≠ i := fun e => hi (by rw [← e]; exact List.getElem_mem _)
      rcases Nat.lt_or_ge k (j - 1) with h | h
      · have := List.pairwise_iff_getElem.1 hl k (j - 1) (by omega) hjl h
        omega
      · have : k = j - 1 := by omega
        subst this
        omega
  constructor
  · refine List.pairwise_append.2 ⟨hl.sublist (List.take_sublist _ _), List.pairwise_cons.2 ⟨hd, hl.sublist (List.drop_sublist _ _)⟩, ?_⟩
    intro a ha b hb
    have := key a ha
    rcases List.mem_cons.1 hb with rfl | hb
    · exact this
    · have := hd b hb; omega
  · intro x
    conv => rhs; rw [← List.take_append_drop j l]
    simp only [List.mem_append, List.mem_cons]
    constructor
    · rintro (h | h | h)
      · exact .inr (.inl h)
      · exact .inl h
      · exact .inr (.inr h)
    · rintro (h | h | h)
      · exact .inr (.inl h)
      · exact .inl h
      · exact .inr (.inr h)

end Go.Proofs.Qxb6600448a.Tr
