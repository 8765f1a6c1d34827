/- The plain facts on names and numbers, for the second law. -/
import Derived.Test.Qxb6613816aFmtMy5
namespace Go.Proofs.Qxb6613816aFmt.Tok
open Go
set_option linter.unusedVariables false

theorem sqT_num (s : ByteArray) (h0 : 0 < s.size) (hg : g7 s.data.toList = true) : sqT s.data.toList = b7 s.data.toList := by
  have A0 : ∀ p, isAt s.data.toList 0 p = p s[0] := isAt_get s 0 h0
  have hc : (48 ≤ s[0].toNat ∧ s[0].toNat ≤ 57) ∨ s[0].toNat = 46 := by
    unfold g7 at hg
    rw [A0, A0] at hg
    simp only [dig, eql, Bool.or_eq_true, Bool.and_eq_true, decide_eq_true_eq] at hg
    omega
  have f1 : ¬ g1 s.data.toList = true := by unfold g1; rw [A0]; unfold spc; simp; omega
  have f2 : ¬ g2 s.data.toList = true := by unfold g2; rw [hp_head3 s h0 _ _ _ (by simp; omega)]; simp
  have f3 : ¬ g3 s.data.toList = true := by unfold g3; rw [hp_head2 s h0 _ _ (by simp; omega)]; simp
  have f4 : ¬ g4 s.data.toList = true := by unfold g4; rw [hp_head2 s h0 _ _ (by simp; omega)]; simp
  have f5 : ¬ g5 s.data.toList = true := by unfold g5; rw [A0, A0, A0]; unfold eql; simp; omega
  have f6 : ¬ g6 s.data.toList = true := by unfold g6; rw [A0]; unfold eql; simp; omega
  unfold sqT
  rw [if_neg f1, if_neg f2, if_neg f3, if_neg f4, if_neg f5, if_neg f6, if_pos hg]

theorem sqT_name (s : ByteArray) (h0 : 0 < s.size) (hn : nam s[0] = true) (hb : g10 s.data.toList = false) (h2 : g2 s.data.toList = false) : sqT s.data.toList = some (run idc s.data.toList 1, 0) := by
  have A0 : ∀ p, isAt s.data.toList 0 p = p s[0] := isAt_get s 0 h0
  have hc : (97 ≤ s[0].toNat ∧ s[0].toNat ≤ 122) ∨ (65 ≤ s[0].toNat ∧ s[0].toNat ≤ 90) ∨ s[0].toNat = 95 ∨ 128 ≤ s[0].toNat := by
    simp only [nam, ltr, Bool.or_eq_true, Bool.and_eq_true, decide_eq_true_eq] at hn
    omega
  have f1 : ¬ g1 s.data.toList = true := by unfold g1; rw [A0]; unfold spc; simp; omega
  have f3 : ¬ g3 s.data.toList = true := by unfold g3; rw [hp_head2 s h0 _ _ (by simp; omega)]; simp
  have f4 : ¬ g4 s.data.toList = true := by unfold g4; rw [hp_head2 s h0 _ _ (by simp; omega)]; simp
  have f5 : ¬ g5 s.data.toList = true := by unfold g5; rw [A0, A0, A0]; unfold eql; simp; omega
  have f6 : ¬ g6 s.data.toList = true := by unfold g6; rw [A0]; unfold eql; simp; omega
  have f7 : ¬ g7 s.data.toList = true := by
    unfold g7; rw [A0, A0]
    have : dig s[0] = false := by unfold dig; simp; omega
    rw [this, eqlF (n := 46) (by omega)]; simp
  have f8 : ¬ g8 s.data.toList = true := by unfold g8; rw [A0]; unfold eql; simp; omega
  have f9 : ¬ g9 s.data.toList = true := by unfold g9; rw [A0, A0, A0, A0]; unfold eql; simp; omega
  have t11 : g11 s.data.toList = true := by unfold g11; rw [A0]; exact hn
  unfold sqT
  rw [if_neg f1, if_neg (by rw [h2]; simp), if_neg f3, if_neg f4, if_neg f5, if_neg f6, if_neg f7, if_neg f8, if_neg f9, if_neg (by rw [hb]; simp), if_pos t11]

/-- where the radix b makes a difference. -/
theorem rad_diff (l : List UInt8) (h : numE xX l ≠ numE xB l) : isAt l 0 (eql 48) = true ∧ (isAt l 1 (eql 98) = true ∨ isAt l 1 (eql 66) = true) ∧ isAt l 2 hex = true ∧ numE xX l = 1 := by
  have hx : ∀ c, xB c = (xX c || eql 98 c || eql 66 c) := by intro c; simp [xB, xX, eql]
  have hxor : isAt l 1 xB = (isAt l 1 xX || isAt l 1 (eql 98) || isAt l 1 (eql 66)) := by
    unfold isAt; cases l[1]? with
    | none => rfl
    | some c => simp [hx]
  cases hX : numH xX l with
  | true =>
    exfalso; apply h
    have hB : numH xB l = true := by
      unfold numH at hX ⊢
      rw [hxor]
      simp only [Bool.and_eq_true] at hX
      rw [hX.1.1, hX.1.2, hX.2]; rfl
    unfold numE; rw [hX, hB]
  | false =>
    cases hB : numH xB l with
    | false => exfalso; apply h; unfold numE; rw [hX, hB]
    | true =>
      unfold numH at hB
      simp only [Bool.and_eq_true] at hB
      have hn : isAt l 1 xX = false := by
        cases hq : isAt l 1 xX with
        | false => rfl
        | true => unfold numH at hX; rw [hB.1.1, hq, hB.2] at hX; cases hX
      have hb : isAt l 1 (eql 98) = true ∨ isAt l 1 (eql 66) = true := by
        have := hB.1.2
        rw [hxor, hn, Bool.false_or, Bool.or_eq_true] at this
        exact this
      have n1 : ∀ p : UInt8 → Bool, (∀ c, eql 98 c = true → p c = false) → (∀ c, eql 66 c = true → p c = false) → isAt l 1 p = false := by
        intro p p1 p2
        rcases hb with hb | hb
        · have hl := isAt_lt hb
          simp only [isAt, List.getElem?_eq_getElem hl, Option.any_some] at hb ⊢
          exact p1 _ hb
        · have hl := isAt_lt hb
          simp only [isAt, List.getElem?_eq_getElem hl, Option.any_some] at hb ⊢
          exact p2 _ hb
      have d98 : ∀ c, eql 98 c = true → c.toNat = 98 := by intro c hc; simpa [eql] using hc
      have d66 : ∀ c, eql 66 c = true → c.toNat = 66 := by intro c hc; simpa [eql] using hc
      have hI : numI l = 1 := by
        refine run_unique (Nat.zero_le _) ?_ (n1 _ ?_ ?_)
        · intro j _ hj
          obtain rfl : j = 0 := by omega
          exact isAt_mono (fun c hc => by have : c.toNat = 48 := by simpa [eql] using hc
                                          simp [dgu, dig]; omega) hB.1.1
        · intro c hc; have := d98 c hc; simp [dgu, dig]; omega
        · intro c hc; have := d66 c hc; simp [dgu, dig]; omega
      have hJ : numJ l = 1 := by
        unfold numJ; rw [hI, if_neg]
        rw [n1 (eql 46) (fun c hc => eqlF (by have := d98 c hc; omega)) (fun c hc => eqlF (by have := d66 c hc; omega))]; simp
      have hE : numX l = false := by
        unfold numX; rw [hJ, n1 exq (fun c hc => by have := d98 c hc; simp [exq]; omega) (fun c hc => by have := d66 c hc; simp [exq]; omega)]; rfl
      refine ⟨hB.1.1, hb, hB.2, ?_⟩
      unfold numE; rw [hX, hE, hJ]; simp

theorem rad_acc (l : List UInt8) (ha : isAt l (numE xX l) idc = false) : numE xX l = numE xB l := by
  by_cases h : numE xX l = numE xB l
  · exact h
  · obtain ⟨_, hb, _, h1⟩ := rad_diff l h
    rw [h1] at ha
    have key : ∀ v, (∀ c, eql v c = true → idc c = true) → isAt l 1 (eql v) = true → isAt l 1 idc = true := fun v hv => isAt_mono hv
    rcases hb with hb | hb
    · rw [key 98 (fun c hc => by have : c.toNat = 98 := by simpa [eql] using hc
                                 simp [idc, ltr]; omega) hb] at ha; cases ha
    · rw [key 66 (fun c hc => by have : c.toNat = 66 := by simpa [eql] using hc
                                 simp [idc, ltr]; omega) hb] at ha; cases ha

end Go.Proofs.Qxb6613816aFmt.Tok
