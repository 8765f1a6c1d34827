/- The plain law of the whole token: the last part. -/
import Derived.Test.Qxb6613816aFmtLaw2
namespace Go.Proofs.Qxb6613816aFmt.Tok
open Go

section
variable {l l' : List UInt8} {n : Nat}
theorem hp_iff (l o : List UInt8) : Lib.hasPrefix l o = true ↔ ∀ (i : Nat) (h : i < o.length), l[i]? = some o[i] := by
  unfold Lib.hasPrefix
  rw [List.isPrefixOf_iff_prefix, List.prefix_iff_getElem?]
theorem up_hp (hp : Pre l l' n) (o : List UInt8) (ho : o.length ≤ n + 2) (h : Lib.hasPrefix l' o = true) : Lib.hasPrefix l o = true := by
  rw [hp_iff] at h ⊢
  intro i hi
  have e := h i hi
  rcases Nat.lt_or_ge i n with h' | h'
  · rw [← hp.1 i h']; exact e
  · rcases hp.2 i (by omega) with e' | e'
    · rw [← e']; exact e
    · rw [e'] at e; cases e
theorem no_hp (hp : Pre l l' n) (o : List UInt8) (ho : o.length ≤ n + 2) (h : Lib.hasPrefix l o = false) : Lib.hasPrefix l' o = false := by
  cases h' : Lib.hasPrefix l' o with
  | false => rfl
  | true => rw [up_hp hp o ho h'] at h; cases h
theorem yes_hp (hp : Pre l l' n) (o : List UInt8) (ho : o.length ≤ n) (h : Lib.hasPrefix l o = true) : Lib.hasPrefix l' o = true := by
  rw [hp_iff] at h ⊢
  intro i hi
  rw [hp.1 i (by omega)]; exact h i hi
theorem find_local (hp : Pre l l' n) (o : List UInt8) (ho : o.length ≤ n) : ∀ (L : List (List UInt8)), (∀ x ∈ L, x.length ≤ n + 2) → L.find? (Lib.hasPrefix l) = some o → L.find? (Lib.hasPrefix l') = some o
  | [], _, h => by simp at h
  | x :: L, hL, h => by
    cases hx : Lib.hasPrefix l x with
    | true =>
      rw [List.find?_cons, hx] at h
      have e : x = o := by simpa using h
      subst e
      rw [List.find?_cons, yes_hp hp x ho hx]
    | false =>
      rw [List.find?_cons, hx] at h
      rw [List.find?_cons, no_hp hp x (hL x (by simp)) hx]
      exact find_local hp o ho L (fun y hy => hL y (by simp [hy])) h
theorem find_none_local (hp : Pre l l' n) : ∀ (L : List (List UInt8)), (∀ x ∈ L, x.length ≤ n + 2) → L.find? (Lib.hasPrefix l) = none → L.find? (Lib.hasPrefix l') = none
  | [], _, _ => by simp
  | x :: L, hL, h => by
    cases hx : Lib.hasPrefix l x with
    | true => rw [List.find?_cons, hx] at h; cases h
    | false =>
      rw [List.find?_cons, hx] at h
      rw [List.find?_cons, no_hp hp x (hL x (by simp)) hx]
      exact find_none_local hp L (fun y hy => hL y (by simp [hy])) h
end

theorem opsL_len : ∀ x ∈ opsL, 2 ≤ x.length ∧ x.length ≤ 3 := by decide
theorem ops_some {l : List UInt8} {n k : Nat} (h : ops l = some (n, k)) : (∃ o, opsL.find? (Lib.hasPrefix l) = some o ∧ n = o.length ∧ k = 4) ∨ (opsL.find? (Lib.hasPrefix l) = none ∧ isAt l 0 mark = true ∧ n = 1 ∧ k = 4) := by
  unfold ops at h
  cases ho : opsL.find? (Lib.hasPrefix l) with
  | some o => rw [ho] at h; simp at h; exact .inl ⟨o, rfl, h.1.symm, h.2.symm⟩
  | none =>
    rw [ho] at h
    cases hm : isAt l 0 mark with
    | true => simp [hm] at h; exact .inr ⟨rfl, rfl, h.1.symm, h.2.symm⟩
    | false => simp [hm] at h
theorem ops_bound {l : List UInt8} {n k : Nat} (h : ops l = some (n, k)) : 1 ≤ n ∧ n ≤ l.length ∧ k ≤ 5 := by
  rcases ops_some h with ⟨o, ho, rfl, rfl⟩ | ⟨_, hm, rfl, rfl⟩
  · have hl := opsL_len o (List.mem_of_find?_eq_some ho)
    have hh : Lib.hasPrefix l o = true := List.find?_some ho
    rw [hp_iff] at hh
    have e := hh (o.length - 1) (by omega)
    refine ⟨by omega, ?_, by omega⟩
    rcases Nat.lt_or_ge (o.length - 1) l.length with h' | h'
    · omega
    · rw [List.getElem?_eq_none h'] at e; cases e
  · have := isAt_lt hm
    exact ⟨by omega, by omega, by omega⟩
theorem ops_local {l l' : List UInt8} {n k : Nat} (h : ops l = some (n, k)) (hp : Pre l l' n) : ops l' = some (n, k) := by
  have hb := ops_bound h
  have hL : ∀ x ∈ opsL, x.length ≤ n + 2 := fun x hx => by have := opsL_len x hx; omega
  rcases ops_some h with ⟨o, ho, rfl, rfl⟩ | ⟨ho, hm, rfl, rfl⟩
  · unfold ops
    rw [find_local hp o (Nat.le_refl _) opsL hL ho]
  · unfold ops
    rw [find_none_local hp opsL hL ho]
    have : isAt l' 0 mark = true := by rw [hp.same (by omega)]; exact hm
    simp [this]

theorem b5_some {l : List UInt8} {n k : Nat} (h : b5 l = some (n, k)) : ∃ m, quo (l.headD 0).toNat (l.drop 1) = some m ∧ n = m + 1 ∧ k = if isAt l 0 (eql 39) then 2 else 1 := by
  unfold b5 at h
  cases hq : quo (l.headD 0).toNat (l.drop 1) with
  | none => rw [hq] at h; simp at h
  | some m => rw [hq] at h; simp at h; exact ⟨m, rfl, h.1.symm, by rw [← h.2]⟩
theorem b9_some {l : List UInt8} {n k : Nat} (h : b9 l = some (n, k)) : ∃ m, par (l.drop 1) false = some m ∧ n = m + 1 ∧ k = 3 := by
  unfold b9 at h
  cases hq : par (l.drop 1) false with
  | none => rw [hq] at h; simp at h
  | some m => rw [hq] at h; simp at h; exact ⟨m, rfl, h.1.symm, h.2.symm⟩

theorem g3_run {l : List UInt8} (h : g3 l = true) : 2 ≤ run (neq 10) l 0 := by
  simp only [g3, hp2, Bool.and_eq_true] at h
  have k : ∀ c, eql (45 : UInt8).toNat c = true → neq 10 c = true := by
    intro c hc; simp only [eql, decide_eq_true_eq] at hc; simp only [neq, hc]; decide
  rw [run_step (isAt_mono k h.1), run_step (isAt_mono k h.2)]
  exact run_ge _ _ _

/-- the length and the kind lie in their bounds. -/
theorem sqT_bound {l : List UInt8} {n k : Nat} (hne : 1 ≤ l.length) (h : sqT l = some (n, k)) : 1 ≤ n ∧ n ≤ l.length ∧ k ≤ 5 := by
  unfold sqT at h
  by_cases e1 : g1 l = true
  · rw [if_pos e1] at h; simp at h; obtain ⟨rfl, rfl⟩ := h
    exact ⟨run_ge _ _ _, run_le _ _ _ hne, by omega⟩
  rw [if_neg e1] at h
  by_cases e2 : g2 l = true
  · rw [if_pos e2] at h; simp at h; obtain ⟨rfl, rfl⟩ := h
    simp only [g2, hp3, Bool.and_eq_true] at e2
    have := isAt_lt e2.2.2
    exact ⟨by omega, by omega, by omega⟩
  rw [if_neg e2] at h
  by_cases e3 : g3 l = true
  · rw [if_pos e3] at h; simp at h; obtain ⟨rfl, rfl⟩ := h
    have := g3_run e3
    exact ⟨by omega, run_le _ _ _ (Nat.zero_le _), by omega⟩
  rw [if_neg e3] at h
  by_cases e4 : g4 l = true
  · rw [if_pos e4] at h; simp at h; obtain ⟨rfl, rfl⟩ := h
    unfold b4
    cases hc : cmt (l.drop 2) with
    | none => simp only; omega
    | some m =>
      have hl := (cmt_local _ _ m hc (pre_take _ _)).2.1
      simp at hl ⊢
      simp only [g4, Bool.and_eq_true] at e4
      have := isAt_lt e4.2
      omega
  rw [if_neg e4] at h
  by_cases e5 : g5 l = true
  · rw [if_pos e5] at h
    obtain ⟨m, hm, rfl, rfl⟩ := b5_some h
    have hl := (quo_local _ _ _ m hm (pre_take _ _)).2.1
    simp at hl
    refine ⟨by omega, by omega, ?_⟩
    split <;> omega
  rw [if_neg e5] at h
  by_cases e6 : g6 l = true
  · rw [if_pos e6] at h
    unfold b6 at h
    by_cases ha : isAt l (run (neq 93) l 0) any1 = true
    · rw [if_pos ha] at h; simp at h; obtain ⟨rfl, rfl⟩ := h
      have := isAt_lt ha
      exact ⟨by omega, by omega, by omega⟩
    · rw [if_neg ha] at h; simp at h
  rw [if_neg e6] at h
  by_cases e7 : g7 l = true
  · rw [if_pos e7] at h
    unfold b7 at h
    by_cases ha : isAt l (numE xX l) idc = true
    · rw [if_pos ha] at h; simp at h
    · rw [if_neg ha] at h; simp at h; obtain ⟨rfl, rfl⟩ := h
      exact ⟨(numE_pos xX l e7).1, numE_le _ _, by omega⟩
  rw [if_neg e7] at h
  by_cases e8 : g8 l = true
  · rw [if_pos e8] at h; simp at h; obtain ⟨rfl, rfl⟩ := h
    exact ⟨run_ge _ _ _, run_le _ _ _ hne, by omega⟩
  rw [if_neg e8] at h
  by_cases e9 : g9 l = true
  · rw [if_pos e9] at h
    obtain ⟨m, hm, rfl, rfl⟩ := b9_some h
    have hl := (par_local _ _ (Nat.le_refl _) _ _ m hm (pre_take _ _)).1
    simp at hl
    exact ⟨by omega, by omega, by omega⟩
  rw [if_neg e9] at h
  by_cases e10 : g10 l = true
  · rw [if_pos e10] at h
    unfold b10 at h
    by_cases ha : (isAt l (run hex l 2) (eql 39) && (run hex l 2 % 2 == 0)) = true
    · rw [if_pos ha] at h; simp at h; obtain ⟨rfl, rfl⟩ := h
      simp only [Bool.and_eq_true] at ha
      have := isAt_lt ha.1
      exact ⟨by omega, by omega, by omega⟩
    · rw [if_neg ha] at h; simp at h
  rw [if_neg e10] at h
  by_cases e11 : g11 l = true
  · rw [if_pos e11] at h; simp at h; obtain ⟨rfl, rfl⟩ := h
    exact ⟨run_ge _ _ _, run_le _ _ _ hne, by omega⟩
  rw [if_neg e11] at h
  exact ops_bound h

/-- ████ THE PLAIN LAW ████ -/
theorem sqT_local {l l' : List UInt8} {n k : Nat} (hne : 1 ≤ l.length) (h : sqT l = some (n, k)) (hp : Pre l l' n) : sqT l' = some (n, k) := by
  have hb := sqT_bound hne h
  have h1 := hb.1
  have nf : ∀ {b : Bool}, ¬ b = true → b = false := fun {b} h => by simpa using h
  unfold sqT at h
  by_cases e1 : g1 l = true
  · rw [if_pos e1] at h; simp at h; obtain ⟨rfl, rfl⟩ := h
    have e1' : g1 l' = true := by unfold g1; rw [hp.same (by omega)]; exact e1
    unfold sqT; rw [if_pos e1', hp.run (Nat.le_refl _)]
  rw [if_neg e1] at h
  have f1 : ¬ g1 l' = true := by rw [no1 hp h1 (nf e1)]; simp
  unfold sqT
  rw [if_neg f1]
  by_cases e2 : g2 l = true
  · rw [if_pos e2] at h; simp at h; obtain ⟨rfl, rfl⟩ := h
    have e2' : g2 l' = true := yes_hp3 hp (Nat.le_refl _) _ _ _ e2
    rw [if_pos e2']
  rw [if_neg e2] at h
  have f2 : ¬ g2 l' = true := by rw [no2 hp h1 (nf e2)]; simp
  rw [if_neg f2]
  by_cases e3 : g3 l = true
  · rw [if_pos e3] at h; simp at h; obtain ⟨rfl, rfl⟩ := h
    have e3' : g3 l' = true := yes_hp2 hp (g3_run e3) _ _ e3
    rw [if_pos e3', hp.run (Nat.le_refl _)]
  rw [if_neg e3] at h
  have f3 : ¬ g3 l' = true := by
    have := no_hp2 hp 45 45 (nf e3)
    unfold g3; rw [this]; simp
  rw [if_neg f3]
  by_cases e4 : g4 l = true
  · rw [if_pos e4] at h; simp at h; obtain ⟨hn, rfl⟩ := h
    have e4w := e4
    simp only [g4, Bool.and_eq_true] at e4
    have l2 := isAt_lt e4.2
    cases hc : cmt (l.drop 2) with
    | none =>
      have e : b4 l = l.length := by unfold b4; rw [hc]
      rw [e] at hn
      subst hn
      obtain rfl := pre_end hp
      rw [if_pos e4w, e]
    | some m =>
      have e : b4 l = m + 2 := by unfold b4; rw [hc]
      rw [e] at hn
      subst hn
      have hl := cmt_local _ (l'.drop 2) m hc (hp.drop (by omega))
      have e4' : g4 l' = true := by
        simp only [g4, Bool.and_eq_true]
        exact ⟨yes_hp2 hp (by omega) _ _ e4.1, by rw [hp.same (by omega)]; exact e4.2⟩
      rw [if_pos e4']
      unfold b4; rw [hl.2.2]
  rw [if_neg e4] at h
  have f4 : ¬ g4 l' = true := by rw [no4 hp h1 (nf e4)]; simp
  rw [if_neg f4]
  have hhead : l'.headD 0 = l.headD 0 := by
    have := hp.1 0 (by omega)
    cases l <;> cases l' <;> simp_all
  rw [same5 hp h1, same6 hp h1, same8 hp h1, same9 hp h1, same11 hp h1]
  by_cases e5 : g5 l = true
  · rw [if_pos e5] at h
    rw [if_pos e5]
    obtain ⟨m, hm, rfl, rfl⟩ := b5_some h
    have hl := quo_local _ _ (l'.drop 1) m hm (hp.drop (by omega))
    unfold b5
    rw [hhead, hl.2.2, hp.same (by omega)]
    rfl
  rw [if_neg e5] at h
  rw [if_neg e5]
  by_cases e6 : g6 l = true
  · rw [if_pos e6] at h
    rw [if_pos e6]
    unfold b6 at h ⊢
    by_cases ha : isAt l (run (neq 93) l 0) any1 = true
    · rw [if_pos ha] at h; simp at h; obtain ⟨rfl, rfl⟩ := h
      have hr : run (neq 93) l' 0 = run (neq 93) l 0 := hp.run (by omega)
      rw [hr, hp.same (by omega), if_pos ha]
    · rw [if_neg ha] at h; simp at h
  rw [if_neg e6] at h
  rw [if_neg e6]
  by_cases e7 : g7 l = true
  · rw [if_pos e7] at h
    unfold b7 at h
    by_cases ha : isAt l (numE xX l) idc = true
    · rw [if_pos ha] at h; simp at h
    · rw [if_neg ha] at h; simp at h; obtain ⟨rfl, rfl⟩ := h
      have hpos := numE_pos xX l e7
      have e7' : g7 l' = true := by
        cases h0 : isAt l 0 dig with
        | true => unfold g7; rw [hp.same (by omega), h0]; rfl
        | false =>
          have := hpos.2 h0
          unfold g7; rw [hp.same (by omega), hp.same (by omega), hp.same (by omega)]; exact e7
      have hE := numE_local hp hpos.1 (nf ha)
      rw [if_pos e7']
      unfold b7
      rw [hE, if_neg (by rw [hp.no (by omega) (nf ha)]; simp)]
  rw [if_neg e7] at h
  have f7 : ¬ g7 l' = true := by rw [no7 hp h1 (nf e7)]; simp
  rw [if_neg f7]
  by_cases e8 : g8 l = true
  · rw [if_pos e8] at h; simp at h; obtain ⟨rfl, rfl⟩ := h
    rw [if_pos e8, hp.run (Nat.le_refl _)]
  rw [if_neg e8] at h
  rw [if_neg e8]
  by_cases e9 : g9 l = true
  · rw [if_pos e9] at h
    rw [if_pos e9]
    obtain ⟨m, hm, rfl, rfl⟩ := b9_some h
    have hl := par_local _ _ (Nat.le_refl _) _ (l'.drop 1) m hm (hp.drop (by omega))
    unfold b9; rw [hl.2]; rfl
  rw [if_neg e9] at h
  rw [if_neg e9]
  by_cases e10 : g10 l = true
  · rw [if_pos e10] at h
    unfold b10 at h
    by_cases ha : (isAt l (run hex l 2) (eql 39) && (run hex l 2 % 2 == 0)) = true
    · rw [if_pos ha] at h; simp at h; obtain ⟨rfl, rfl⟩ := h
      have g := run_ge hex l 2
      have hr : run hex l' 2 = run hex l 2 := hp.run (by omega)
      have e10' : g10 l' = true := by
        unfold g10; rw [hp.same (by omega), hp.same (by omega)]; exact e10
      rw [if_pos e10']
      unfold b10
      rw [hr, hp.same (by omega), if_pos ha]
    · rw [if_neg ha] at h; simp at h
  rw [if_neg e10] at h
  have f10 : ¬ g10 l' = true := by rw [no10 hp h1 (nf e10)]; simp
  rw [if_neg f10]
  by_cases e11 : g11 l = true
  · rw [if_pos e11] at h; simp at h; obtain ⟨rfl, rfl⟩ := h
    rw [if_pos e11, hp.run (Nat.le_refl _)]
  rw [if_neg e11] at h
  rw [if_neg e11]
  exact ops_local h hp

end Go.Proofs.Qxb6613816aFmt.Tok
