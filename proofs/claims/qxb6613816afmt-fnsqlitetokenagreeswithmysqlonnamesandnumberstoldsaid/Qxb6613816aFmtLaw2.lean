/- The plain law of the whole token. -/
import Derived.Test.Qxb6613816aFmtLaw
namespace Go.Proofs.Qxb6613816aFmt.Tok
open Go

theorem dig_dgu (c : UInt8) (h : dig c = true) : dgu c = true := by simp [dgu, h]
theorem exq_idc (c : UInt8) (h : exq c = true) : idc c = true := by
  simp only [exq, Bool.or_eq_true, decide_eq_true_eq] at h
  simp only [idc, ltr, Bool.or_eq_true, Bool.and_eq_true, decide_eq_true_eq]
  omega
theorem any_of {l : List UInt8} {i : Nat} {p : UInt8 → Bool} (h : isAt l i p = true) : isAt l i any1 = true := isAt_mono (fun _ _ => rfl) h

theorem numI_le (l : List UInt8) : numI l ≤ l.length := run_le _ _ _ (Nat.zero_le _)
theorem numJ_ge (l : List UInt8) : numI l ≤ numJ l := by
  unfold numJ; split
  · have := run_ge dgu l (numI l + 1); omega
  · omega
theorem numJ_le (l : List UInt8) : numJ l ≤ l.length := by
  unfold numJ; split
  · rename_i h; exact run_le _ _ _ (isAt_lt h)
  · exact numI_le l
theorem numX_parts {l : List UInt8} (h : numX l = true) : isAt l (numJ l) exq = true ∧ (isAt l (numJ l + 1) dig = true ∨ (isAt l (numJ l + 1) sgn = true ∧ isAt l (numJ l + 2) dig = true)) := by
  simpa [numX] using h
theorem numE_le (rad : UInt8 → Bool) (l : List UInt8) : numE rad l ≤ l.length := by
  unfold numE; split
  · rename_i h
    simp only [numH, Bool.and_eq_true] at h
    exact run_le _ _ _ (isAt_lt h.2)
  · split
    · rename_i h
      obtain ⟨_, h1⟩ := numX_parts h
      refine run_le _ _ _ ?_
      rcases h1 with h1 | ⟨h1, h2⟩
      · have := isAt_lt h1; omega
      · have := isAt_lt h1; omega
    · exact numJ_le l
theorem numE_geJ (rad : UInt8 → Bool) (l : List UInt8) (h : numH rad l = false) : numJ l ≤ numE rad l := by
  unfold numE; rw [h]; simp only [Bool.false_eq_true, if_false]
  split
  · have := run_ge dgu l (numJ l + 2); omega
  · omega
theorem numE_pos (rad : UInt8 → Bool) (l : List UInt8) (h : g7 l = true) : 1 ≤ numE rad l ∧ (isAt l 0 dig = false → 2 ≤ numE rad l) := by
  cases hH : numH rad l with
  | true =>
    have e : numE rad l = run hxu l 3 := by unfold numE; rw [hH]; simp
    have := run_ge hxu l 3
    rw [e]; omega
  | false =>
    have hge := numE_geJ rad l hH
    have hji := numJ_ge l
    cases h0 : isAt l 0 dig with
    | true =>
      have : run dgu l 0 = run dgu l (0 + 1) := run_step (isAt_mono dig_dgu h0)
      have h2 := run_ge dgu l (0 + 1)
      refine ⟨?_, fun h => by cases h⟩
      unfold numI at hji; omega
    | false =>
      simp only [g7, h0, Bool.false_or, Bool.and_eq_true] at h
      have hI : numI l = 0 := run_here (by
        have hl := isAt_lt h.1
        have hh := h.1
        simp only [isAt, List.getElem?_eq_getElem hl, Option.any_some, eql, decide_eq_true_eq] at hh h0 ⊢
        simp only [dgu, h0, Bool.false_or, hh]; decide)
      have hJ : numJ l = run dgu l 1 := by
        unfold numJ; rw [hI, if_pos h.1]
      have : run dgu l 1 = run dgu l (1 + 1) := run_step (isAt_mono dig_dgu h.2)
      have h2 := run_ge dgu l (1 + 1)
      refine ⟨by omega, fun _ => by omega⟩

section
variable {l l' : List UInt8}
theorem numI_local {n : Nat} (hp : Pre l l' n) (h : numI l ≤ n) : numI l' = numI l := hp.run h
theorem numJ_local {n : Nat} (hp : Pre l l' n) (h : numJ l ≤ n) : numJ l' = numJ l := by
  have hI := numI_local hp (Nat.le_trans (numJ_ge l) h)
  cases hd : isAt l (numI l) (eql 46) with
  | true =>
    have e : numJ l = run dgu l (numI l + 1) := by unfold numJ; rw [if_pos hd]
    have g := run_ge dgu l (numI l + 1)
    have hd' : isAt l' (numI l) (eql 46) = true := by rw [hp.same (by omega)]; exact hd
    rw [e]
    unfold numJ
    rw [hI, if_pos hd']
    exact hp.run (by omega)
  | false =>
    have e : numJ l = numI l := by unfold numJ; rw [hd]; simp
    have hd' : isAt l' (numI l) (eql 46) = false := hp.no (by omega) hd
    rw [e]; unfold numJ; rw [hI, hd']; simp
theorem numE_local {rad : UInt8 → Bool} (hp : Pre l l' (numE rad l)) (h1 : 1 ≤ numE rad l) (hi : isAt l (numE rad l) idc = false) : numE rad l' = numE rad l := by
  cases hH : numH rad l with
  | true =>
    have e : numE rad l = run hxu l 3 := by unfold numE; rw [hH]; simp
    have g := run_ge hxu l 3
    have hH' : numH rad l' = true := by
      unfold numH at hH ⊢
      rw [hp.same (by omega), hp.same (by omega), hp.same (by omega)]; exact hH
    have e' : numE rad l' = run hxu l' 3 := by unfold numE; rw [hH']; simp
    rw [e', e]; exact hp.run (by omega)
  | false =>
    have hH' : numH rad l' = false := by
      cases h' : numH rad l' with
      | false => rfl
      | true =>
        simp only [numH, Bool.and_eq_true] at h'
        have : numH rad l = true := by
          simp only [numH, Bool.and_eq_true]
          exact ⟨⟨hp.up (by omega) h'.1.1, hp.up (by omega) h'.1.2⟩, hp.up (by omega) h'.2⟩
        rw [this] at hH; cases hH
    have hJ := numJ_local hp (numE_geJ rad l hH)
    cases hX : numX l with
    | true =>
      have e : numE rad l = run dgu l (numJ l + 2) := by unfold numE; rw [hH, hX]; simp
      have g := run_ge dgu l (numJ l + 2)
      obtain ⟨x0, x1⟩ := numX_parts hX
      have hX' : numX l' = true := by
        unfold numX
        rw [hJ, hp.same (by omega), hp.same (by omega), x0, Bool.true_and]
        rcases x1 with x1 | ⟨x1, x2⟩
        · rw [x1, Bool.true_or]
        · have : run dgu l (numJ l + 2) = run dgu l (numJ l + 2 + 1) := run_step (isAt_mono dig_dgu x2)
          have g2 := run_ge dgu l (numJ l + 2 + 1)
          rw [hp.same (by omega), hp.same (by omega), x1, x2]
          simp
      have e' : numE rad l' = run dgu l' (numJ l' + 2) := by unfold numE; rw [hH', hX']; simp
      rw [e', e, hJ]; exact hp.run (by omega)
    | false =>
      have e : numE rad l = numJ l := by unfold numE; rw [hH, hX]; simp
      have hX' : numX l' = false := by
        unfold numX
        have : isAt l' (numJ l') exq = false := by
          rw [hJ]
          refine hp.no (by omega) ?_
          cases hq : isAt l (numJ l) exq with
          | false => rfl
          | true => have := isAt_mono exq_idc hq; rw [e] at hi; rw [hi] at this; cases this
        rw [this]; rfl
      have e' : numE rad l' = numJ l' := by unfold numE; rw [hH', hX']; simp
      rw [e', e, hJ]
end

/-! ### the guards: false stays false -/
section
variable {l l' : List UInt8} {n : Nat}
theorem no1 (hp : Pre l l' n) (h1 : 1 ≤ n) (h : g1 l = false) : g1 l' = false := hp.no (by omega) h
theorem no2 (hp : Pre l l' n) (h1 : 1 ≤ n) (h : g2 l = false) : g2 l' = false := by
  cases h' : g2 l' with
  | false => rfl
  | true =>
    simp only [g2, hp3, Bool.and_eq_true] at h'
    have : g2 l = true := by
      simp only [g2, hp3, Bool.and_eq_true]
      exact ⟨hp.up (by omega) h'.1, hp.up (by omega) h'.2.1, hp.up (by omega) h'.2.2⟩
    rw [this] at h; cases h
theorem no_hp2 (hp : Pre l l' n) (a b : UInt8) (h : Lib.hasPrefix l [a, b] = false) : Lib.hasPrefix l' [a, b] = false := by
  cases h' : Lib.hasPrefix l' [a, b] with
  | false => rfl
  | true =>
    simp only [hp2, Bool.and_eq_true] at h'
    have : Lib.hasPrefix l [a, b] = true := by
      simp only [hp2, Bool.and_eq_true]
      exact ⟨hp.up (by omega) h'.1, hp.up (by omega) h'.2⟩
    rw [this] at h; cases h
theorem no_hp3 (hp : Pre l l' n) (h1 : 1 ≤ n) (a b c : UInt8) (h : Lib.hasPrefix l [a, b, c] = false) : Lib.hasPrefix l' [a, b, c] = false := by
  cases h' : Lib.hasPrefix l' [a, b, c] with
  | false => rfl
  | true =>
    simp only [hp3, Bool.and_eq_true] at h'
    have : Lib.hasPrefix l [a, b, c] = true := by
      simp only [hp3, Bool.and_eq_true]
      exact ⟨hp.up (by omega) h'.1, hp.up (by omega) h'.2.1, hp.up (by omega) h'.2.2⟩
    rw [this] at h; cases h
theorem yes_hp2 (hp : Pre l l' n) (h1 : 2 ≤ n) (a b : UInt8) (h : Lib.hasPrefix l [a, b] = true) : Lib.hasPrefix l' [a, b] = true := by
  rw [hp2] at h ⊢
  rw [hp.same (by omega), hp.same (by omega)]; exact h
theorem yes_hp3 (hp : Pre l l' n) (h1 : 3 ≤ n) (a b c : UInt8) (h : Lib.hasPrefix l [a, b, c] = true) : Lib.hasPrefix l' [a, b, c] = true := by
  rw [hp3] at h ⊢
  rw [hp.same (by omega), hp.same (by omega), hp.same (by omega)]; exact h
theorem no4 (hp : Pre l l' n) (h1 : 1 ≤ n) (h : g4 l = false) : g4 l' = false := by
  cases h' : g4 l' with
  | false => rfl
  | true =>
    simp only [g4, hp2, Bool.and_eq_true] at h'
    have : g4 l = true := by
      simp only [g4, hp2, Bool.and_eq_true]
      exact ⟨⟨hp.up (by omega) h'.1.1, hp.up (by omega) h'.1.2⟩, hp.up (by omega) h'.2⟩
    rw [this] at h; cases h
theorem same5 (hp : Pre l l' n) (h1 : 1 ≤ n) : g5 l' = g5 l := by
  unfold g5; rw [hp.same (by omega), hp.same (by omega), hp.same (by omega)]
theorem same6 (hp : Pre l l' n) (h1 : 1 ≤ n) : g6 l' = g6 l := by unfold g6; rw [hp.same (by omega)]
theorem no7 (hp : Pre l l' n) (h1 : 1 ≤ n) (h : g7 l = false) : g7 l' = false := by
  simp only [g7, Bool.or_eq_false_iff, Bool.and_eq_false_iff] at h ⊢
  refine ⟨hp.no (by omega) h.1, ?_⟩
  rcases h.2 with h | h
  · exact .inl (hp.no (by omega) h)
  · exact .inr (hp.no (by omega) h)
theorem same8 (hp : Pre l l' n) (h1 : 1 ≤ n) : g8 l' = g8 l := by unfold g8; rw [hp.same (by omega)]
theorem same9 (hp : Pre l l' n) (h1 : 1 ≤ n) : g9 l' = g9 l := by
  unfold g9; rw [hp.same (by omega), hp.same (by omega), hp.same (by omega), hp.same (by omega)]
theorem no10 (hp : Pre l l' n) (h1 : 1 ≤ n) (h : g10 l = false) : g10 l' = false := by
  simp only [g10, Bool.and_eq_false_iff] at h ⊢
  rcases h with h | h
  · exact .inl (hp.no (by omega) h)
  · exact .inr (hp.no (by omega) h)
theorem same11 (hp : Pre l l' n) (h1 : 1 ≤ n) : g11 l' = g11 l := by unfold g11; rw [hp.same (by omega)]
end

end Go.Proofs.Qxb6613816aFmt.Tok
