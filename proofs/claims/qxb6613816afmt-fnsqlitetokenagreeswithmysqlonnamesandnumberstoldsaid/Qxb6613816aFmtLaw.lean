/- The plain law: a token is read the same from its own text, and from whatever agrees with it two bytes beyond. -/
import Derived.Test.Qxb6613816aFmtPlain
namespace Go.Proofs.Qxb6613816aFmt.Tok
open Go

/-- l' agrees with l below n; at n and n + 1 it agrees or has ended. -/
def Pre (l l' : List UInt8) (n : Nat) : Prop := (∀ j, j < n → l'[j]? = l[j]?) ∧ (∀ j, j = n ∨ j = n + 1 → l'[j]? = l[j]? ∨ l'[j]? = none)

theorem pre_take (l : List UInt8) (n : Nat) : Pre l (l.take n) n :=
  ⟨fun j h => by simp [h], fun j h => by
    right; rw [List.getElem?_take]; rw [if_neg (by omega)]⟩

theorem pre_more (l t : List UInt8) (n : Nat) (h : n + 2 ≤ l.length) : Pre l (l.take (n + 2) ++ t) n := by
  have key : ∀ j, j < n + 2 → (l.take (n + 2) ++ t)[j]? = l[j]? := by
    intro j hj
    rw [List.getElem?_append_left (by simp; omega), List.getElem?_take, if_pos hj]
  exact ⟨fun j h => key j (by omega), fun j h => .inl (key j (by omega))⟩

section
variable {l l' : List UInt8} {n : Nat}
theorem Pre.same (h : Pre l l' n) {j : Nat} (hj : j < n) (p : UInt8 → Bool) : isAt l' j p = isAt l j p := by
  unfold isAt; rw [h.1 j hj]
theorem Pre.no (h : Pre l l' n) {j : Nat} (hj : j < n + 2) {p : UInt8 → Bool} (hp : isAt l j p = false) : isAt l' j p = false := by
  rcases Nat.lt_or_ge j n with h' | h'
  · rw [h.same h']; exact hp
  · rcases h.2 j (by omega) with e | e
    · unfold isAt at *; rw [e]; exact hp
    · unfold isAt; rw [e]; rfl
theorem Pre.up (h : Pre l l' n) {j : Nat} (hj : j < n + 2) {p : UInt8 → Bool} (hp : isAt l' j p = true) : isAt l j p = true := by
  cases e : isAt l j p with
  | true => rfl
  | false => rw [h.no hj e] at hp; cases hp
theorem Pre.run (h : Pre l l' n) {p : UInt8 → Bool} {a : Nat} (hr : run p l a ≤ n) : run p l' a = run p l a := by
  apply run_unique (run_ge _ _ _)
  · intro j h1 h2
    rw [h.same (by omega)]; exact run_all p l a j h1 h2
  · exact h.no (by omega) (run_stop p l a)
theorem Pre.cons {c : UInt8} {r : List UInt8} (h : Pre (c :: r) l' (n + 1)) : ∃ r', l' = c :: r' ∧ Pre r r' n := by
  have h0 := h.1 0 (by omega)
  cases l' with
  | nil => simp at h0
  | cons d r' =>
    have e : d = c := by simpa using h0
    subst e
    refine ⟨r', rfl, fun j hj => ?_, fun j hj => ?_⟩
    · simpa using h.1 (j + 1) (by omega)
    · simpa using h.2 (j + 1) (by omega)
theorem Pre.drop (h : Pre l l' n) {i m : Nat} (hm : i + m = n) : Pre (l.drop i) (l'.drop i) m := by
  subst hm
  refine ⟨fun j hj => ?_, fun j hj => ?_⟩
  · simp only [List.getElem?_drop]; exact h.1 _ (by omega)
  · simp only [List.getElem?_drop]; exact h.2 _ (by omega)
end

/-! ### the scanners -/
theorem hp2 (l : List UInt8) (a b : UInt8) : Lib.hasPrefix l [a, b] = (isAt l 0 (eql a.toNat) && isAt l 1 (eql b.toNat)) := by
  rcases l with _ | ⟨c, _ | ⟨d, r⟩⟩ <;> simp [Lib.hasPrefix, isAt, eql, List.isPrefixOf, ← UInt8.toNat_inj, eq_comm, Bool.beq_eq_decide_eq]
theorem hp3 (l : List UInt8) (a b c : UInt8) : Lib.hasPrefix l [a, b, c] = (isAt l 0 (eql a.toNat) && (isAt l 1 (eql b.toNat) && isAt l 2 (eql c.toNat))) := by
  rcases l with _ | ⟨x, _ | ⟨y, _ | ⟨z, r⟩⟩⟩ <;> simp [Lib.hasPrefix, isAt, eql, List.isPrefixOf, ← UInt8.toNat_inj, eq_comm, Bool.beq_eq_decide_eq]


theorem head_at (l : List UInt8) (p : UInt8 → Bool) (c : UInt8) (r : List UInt8) (e : l = c :: r) : isAt l 0 p = p c := by rw [e, isAt_cons0]

/-- at the end of what is read: nothing more, or a byte that is not q. -/
theorem pre_zero {l l' : List UInt8} (h : Pre l l' 0) : (∀ p, isAt l 0 p = false → isAt l' 0 p = false) := fun p hp => h.no (by omega) hp

theorem quo_local (q : Nat) : ∀ (l l' : List UInt8) (n : Nat), quo q l = some n → Pre l l' n → 1 ≤ n ∧ n ≤ l.length ∧ quo q l' = some n := by
  intro l
  induction l using quo.induct q with
  | case1 => intro l' n h _; simp [quo] at h
  | case2 c hc =>
    intro l' n h hp
    simp only [quo, hc, if_true, Option.some.injEq] at h
    subst h
    obtain ⟨r', rfl, hp'⟩ := hp.cons
    refine ⟨by omega, by simp, ?_⟩
    cases r' with
    | nil => simp [quo, hc]
    | cons d r' =>
      have := hp'.no (j := 0) (by omega) (p := any1) (by simp [isAt])
      simp [isAt, any1] at this
  | case3 c hc => intro l' n h _; simp [quo, hc] at h
  | case4 c d r hc hd ih =>
    intro l' n h hp
    simp only [quo, hc, hd, if_true] at h
    cases hq : quo q r with
    | none => simp [hq] at h
    | some m =>
      simp only [hq, Option.map_some, Option.some.injEq] at h
      subst h
      obtain ⟨r1, rfl, hp1⟩ := hp.cons
      obtain ⟨r2, rfl, hp2⟩ := hp1.cons
      obtain ⟨a, b, e⟩ := ih r2 m hq hp2
      refine ⟨by omega, by simp; omega, ?_⟩
      simp [quo, hc, hd, e]
  | case5 c d r hc hd =>
    intro l' n h hp
    have hd' : eql q d = false := by simpa using hd
    simp [quo, hc, hd'] at h
    subst h
    obtain ⟨r', rfl, hp'⟩ := hp.cons
    refine ⟨by omega, by simp, ?_⟩
    cases r' with
    | nil => simp [quo, hc]
    | cons d' r' =>
      have := hp'.no (j := 0) (by omega) (p := eql q) (by simp [isAt, hd'])
      simp [isAt] at this
      simp [quo, hc, this]
  | case6 c d r hc ih =>
    intro l' n h hp
    have hc' : eql q c = false := by simpa using hc
    simp only [quo, hc'] at h
    cases hq : quo q (d :: r) with
    | none => simp [hq] at h
    | some m =>
      simp [hq] at h
      subst h
      obtain ⟨r1, rfl, hp1⟩ := hp.cons
      obtain ⟨a, b, e⟩ := ih r1 m hq hp1
      refine ⟨by omega, by simp at b ⊢; omega, ?_⟩
      cases r1 with
      | nil => simp [quo] at e
      | cons d' r1 => simp [quo, hc', e]

theorem suf_local : ∀ (l l' : List UInt8) (n : Nat), suf l = some n → Pre l l' n → 1 ≤ n ∧ n ≤ l.length ∧ suf l' = some n
  | [], l', n, h, _ => by simp [suf] at h
  | c :: r, l', n, h, hp => by
    unfold suf at h
    by_cases h1 : eql 41 c = true
    · simp [h1] at h
      subst h
      obtain ⟨r', rfl, _⟩ := hp.cons
      exact ⟨by omega, by simp, by simp [suf, h1]⟩
    · have h1' : eql 41 c = false := by simpa using h1
      by_cases h2 : sps c = true
      · simp [h1', h2] at h
      · have h2' : sps c = false := by simpa using h2
        cases hq : suf r with
        | none => simp [h1', h2', hq] at h
        | some m =>
          simp [h1', h2', hq] at h
          subst h
          obtain ⟨r', rfl, hp'⟩ := hp.cons
          obtain ⟨a, b, e⟩ := suf_local r r' m hq hp'
          exact ⟨by omega, by simp; omega, by simp [suf, h1', h2', e]⟩

theorem quo_cons (q : Nat) (c : UInt8) (r : List UInt8) : quo q (c :: r) = if eql q c then (if isAt r 0 (eql q) then (quo q (r.drop 1)).map (· + 2) else some 1) else (quo q r).map (· + 1) := by
  cases r with
  | nil => simp [quo, isAt]
  | cons d r => simp [quo, isAt]
theorem par_cons (c : UInt8) (r : List UInt8) (nm : Bool) : par (c :: r) nm = if idc c then (par r true).map (· + 1) else if eql 40 c && nm then (suf r).map (· + 1)
      else if eql 58 c && isAt r 0 (eql 58) then (par (r.drop 1) nm).map (· + 2) else if nm then some 0 else none := by
  cases r with
  | nil => simp [par, isAt, suf]
  | cons d r => simp [par, isAt]
theorem cmt_cons (c : UInt8) (r : List UInt8) : cmt (c :: r) = if eql 42 c && isAt r 0 (eql 47) then some 2 else (cmt r).map (· + 1) := by
  cases r with
  | nil => simp [cmt, isAt]
  | cons d r => simp [cmt, isAt]

theorem map_some {o : Option Nat} {k n : Nat} (h : o.map (· + k) = some n) : ∃ m, o = some m ∧ n = m + k := by
  cases o with
  | none => simp at h
  | some m => simp at h; exact ⟨m, rfl, h.symm⟩

theorem par_local : ∀ (k : Nat) (l : List UInt8) (_ : l.length ≤ k) (nm : Bool) (l' : List UInt8) (n : Nat), par l nm = some n → Pre l l' n → n ≤ l.length ∧ par l' nm = some n := by
  intro k
  induction k with
  | zero =>
    intro l hl nm l' n h hp
    obtain rfl : l = [] := List.eq_nil_of_length_eq_zero (by omega)
    cases nm with
    | false => simp [par] at h
    | true =>
      simp [par] at h
      subst h
      refine ⟨by simp, ?_⟩
      cases l' with
      | nil => simp [par]
      | cons d r => have := hp.no (j := 0) (by omega) (p := any1) (by simp [isAt]); simp [isAt, any1] at this
  | succ k ih =>
    intro l hl nm l' n h hp
    cases l with
    | nil => exact ih [] (by simp) nm l' n h hp
    | cons c r =>
      simp at hl
      rw [par_cons] at h
      by_cases h1 : idc c = true
      · rw [if_pos h1] at h
        obtain ⟨m, hm, rfl⟩ := map_some h
        obtain ⟨r', rfl, hp'⟩ := hp.cons
        obtain ⟨a, b⟩ := ih r hl true r' m hm hp'
        exact ⟨by simp; omega, by rw [par_cons, if_pos h1, b]; rfl⟩
      · rw [if_neg h1] at h
        by_cases h2 : (eql 40 c && nm) = true
        · rw [if_pos h2] at h
          obtain ⟨m, hm, rfl⟩ := map_some h
          obtain ⟨r', rfl, hp'⟩ := hp.cons
          obtain ⟨a, b, e⟩ := suf_local r r' m hm hp'
          exact ⟨by simp; omega, by rw [par_cons, if_neg h1, if_pos h2, e]; rfl⟩
        · rw [if_neg h2] at h
          by_cases h3 : (eql 58 c && isAt r 0 (eql 58)) = true
          · rw [if_pos h3] at h
            obtain ⟨m, hm, rfl⟩ := map_some h
            obtain ⟨r', rfl, hp'⟩ := hp.cons
            have h3' : isAt r 0 (eql 58) = true := by simp only [Bool.and_eq_true] at h3; exact h3.2
            have h3'' : isAt r' 0 (eql 58) = true := by rw [hp'.same (by omega)]; exact h3'
            have hlr := isAt_lt h3'
            obtain ⟨a, b⟩ := ih (r.drop 1) (by simp; omega) nm (r'.drop 1) m hm (hp'.drop (by omega))
            refine ⟨by simp at a ⊢; omega, ?_⟩
            have h4 : (eql 58 c && isAt r' 0 (eql 58)) = true := by rw [h3'']; rw [h3'] at h3; exact h3
            rw [par_cons, if_neg h1, if_neg h2, if_pos h4, b]; rfl
          · rw [if_neg h3] at h
            cases nm with
            | false => simp at h
            | true =>
              simp at h
              subst h
              refine ⟨by simp, ?_⟩
              cases l' with
              | nil => simp [par]
              | cons d r' =>
                have n1 : idc d = false := by
                  have := hp.no (j := 0) (by omega) (p := idc) (by rw [isAt_cons0]; simpa using h1)
                  rwa [isAt_cons0] at this
                have n2 : eql 40 d = false := by
                  have := hp.no (j := 0) (by omega) (p := eql 40) (by rw [isAt_cons0]; simpa using h2)
                  rwa [isAt_cons0] at this
                have n3 : ¬ (eql 58 d && isAt r' 0 (eql 58)) = true := by
                  intro hx
                  simp only [Bool.and_eq_true] at hx
                  have u0 := hp.up (j := 0) (by omega) (p := eql 58) (by rw [isAt_cons0]; exact hx.1)
                  have u1 := hp.up (j := 1) (by omega) (p := eql 58) (by rw [isAt_succ]; exact hx.2)
                  rw [isAt_cons0] at u0
                  rw [isAt_succ] at u1
                  exact h3 (by rw [u0, u1]; rfl)
                rw [par_cons, if_neg (by simp [n1]), if_neg (by simp [n2]), if_neg n3]
                rfl

/-- a comment that is closed. -/
theorem cmt_local : ∀ (l l' : List UInt8) (n : Nat), cmt l = some n → Pre l l' n → 2 ≤ n ∧ n ≤ l.length ∧ cmt l' = some n
  | [], l', n, h, _ => by simp [cmt] at h
  | c :: r, l', n, h, hp => by
    rw [cmt_cons] at h
    by_cases h1 : (eql 42 c && isAt r 0 (eql 47)) = true
    · rw [if_pos h1] at h
      simp at h
      subst h
      obtain ⟨r', rfl, hp'⟩ := hp.cons
      have h2 : isAt r 0 (eql 47) = true := by simp only [Bool.and_eq_true] at h1; exact h1.2
      have h3 : isAt r' 0 (eql 47) = true := by rw [hp'.same (by omega)]; exact h2
      refine ⟨by omega, by have := isAt_lt h2; simp; omega, ?_⟩
      rw [cmt_cons, if_pos (by rw [h3]; rw [h2] at h1; exact h1)]
    · rw [if_neg h1] at h
      obtain ⟨m, hm, rfl⟩ := map_some h
      obtain ⟨r', rfl, hp'⟩ := hp.cons
      obtain ⟨a, b, e⟩ := cmt_local r r' m hm hp'
      refine ⟨by omega, by simp; omega, ?_⟩
      have h2 : ¬ (eql 42 c && isAt r' 0 (eql 47)) = true := by
        intro hx
        simp only [Bool.and_eq_true] at hx
        have u := hp'.up (j := 0) (by omega) hx.2
        exact h1 (by rw [hx.1, u]; rfl)
      rw [cmt_cons, if_neg h2, e]; rfl

/-- what ends with l is l. -/
theorem pre_end {l l' : List UInt8} (h : Pre l l' l.length) : l' = l := by
  apply List.ext_getElem?
  intro j
  rcases Nat.lt_trichotomy j l.length with hj | hj | hj
  · exact h.1 j hj
  · have e0 : l[j]? = none := List.getElem?_eq_none (by omega)
    rcases h.2 j (.inl hj) with e | e
    · exact e
    · rw [e, e0]
  · have e0 : l[j]? = none := List.getElem?_eq_none (by omega)
    have e1 : l'[l.length]? = none := by
      rcases h.2 l.length (.inl rfl) with e | e
      · rw [e]; simp
      · exact e
    rw [e0]
    rw [List.getElem?_eq_none_iff] at e1
    exact List.getElem?_eq_none (by omega)

end Go.Proofs.Qxb6613816aFmt.Tok
