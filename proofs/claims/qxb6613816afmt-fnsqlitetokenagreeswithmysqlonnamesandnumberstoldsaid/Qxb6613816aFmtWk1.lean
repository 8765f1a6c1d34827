/- The walks of the small predicates. -/
import Derived.Test.Qxb6613816aFmtLaw3
import Derived.Test.Qxb6613816aFmtShelf
import Derived.Test.Qxb6613816aFmtRows
import Derived.WalkKit
import Derived.WalkSpells
namespace Go.Proofs.Qxb6613816aFmt.Tok
open Go.RowKit

theorem ret_bool {a b : Bool} (h : a = b) : Ending.returned (.bool a) = .returned (.bool b) := by rw [h]

set_option maxHeartbeats 400000 in
theorem isDigit_any (c : UInt8) (w : World) : Calls Tryf.prog 34 #[.int .u8 c.toNat] w fun e w' => e = .returned (.bool (dig c)) ∧ w' = w := by
  go_enter Tryf.func34, Tryf.ntmps34
  go_wp2
  all_goals
    go_ret
    exact ⟨ret_bool (by rw [Bool.eq_iff_iff]; simp [dig] <;> omega), rfl⟩

set_option maxHeartbeats 400000 in
theorem isLetter_any (c : UInt8) (w : World) : Calls Tryf.prog 38 #[.int .u8 c.toNat] w fun e w' => e = .returned (.bool (ltr c)) ∧ w' = w := by
  go_enter Tryf.func38, Tryf.ntmps38
  go_wp2
  all_goals
    go_ret
    exact ⟨ret_bool (by rw [Bool.eq_iff_iff]; simp [ltr] <;> omega), rfl⟩

set_option maxHeartbeats 400000 in
theorem isHex_any (c : UInt8) (w : World) : Calls Tryf.prog 53 #[.int .u8 c.toNat] w fun e w' => e = .returned (.bool (hex c)) ∧ w' = w := by
  rcases hd : dig c with _ | _
  all_goals
    have HD : Hid (hex c = (dig c || (decide (97 ≤ c.toNat) && decide (c.toNat ≤ 102)) || (decide (65 ≤ c.toNat) && decide (c.toNat ≤ 70)))) := rfl
    go_enter Tryf.func53, Tryf.ntmps53
    go_wp2_with (go_at_call 34; refine (isDigit_any _ _).mono ?_; rintro e w' ⟨rfl, rfl⟩)
    all_goals
      go_ret
      exact ⟨ret_bool (by rw [HD.out, hd, Bool.eq_iff_iff]; simp <;> omega), rfl⟩

set_option maxHeartbeats 400000 in
theorem isId_any (c : UInt8) (w : World) : Calls Tryf.prog 39 #[.int .u8 c.toNat] w fun e w' => e = .returned (.bool (idc c)) ∧ w' = w := by
  rcases hl : ltr c with _ | _ <;> rcases hd : dig c with _ | _
  all_goals
    have HD : Hid (idc c = (ltr c || dig c || decide (c.toNat = 95) || decide (c.toNat = 36) || decide (128 ≤ c.toNat))) := rfl
    go_enter Tryf.func39, Tryf.ntmps39
    go_wp2_with (first | (go_at_call 38; refine (isLetter_any _ _).mono ?_; rintro e w' ⟨rfl, rfl⟩) | (go_at_call 34; refine (isDigit_any _ _).mono ?_; rintro e w' ⟨rfl, rfl⟩))
    all_goals
      go_ret
      exact ⟨ret_bool (by rw [HD.out, hl, hd, Bool.eq_iff_iff]; simp <;> omega), rfl⟩

theorem idx_contains : ∀ (l : List UInt8) (c : UInt8), decide (0 ≤ Lib.indexByte l c) = l.contains c
  | [], c => by simp [Lib.indexByte]
  | b :: l, c => by
    have ih := idx_contains l c
    have hg := Lib.indexByte_ge l c
    rw [Lib.indexByte]
    by_cases hb : b = c
    · subst hb; simp
    · have hb' : ¬ c = b := fun h => hb h.symm
      have hu : (b :: l).contains c = l.contains c := by simp [hb']
      rw [hu, ← ih]
      simp only [beq_iff_eq, hb, if_false]
      by_cases h1 : Lib.indexByte l c = -1
      · rw [if_pos h1, h1]
      · rw [if_neg h1]
        congr 1
        simp only [eq_iff_iff]
        omega

theorem spc_contains (c : UInt8) : ([32, 9, 10, 12, 13] : List UInt8).contains c = spc c := by
  simp [spc, ← UInt8.toNat_inj, Bool.or_assoc]

theorem spc_yes {c : UInt8} (h : spc c = true) : 0 ≤ Lib.indexByte [32, 9, 10, 12, 13] c := by
  have := idx_contains [32, 9, 10, 12, 13] c
  rw [spc_contains, h] at this; simpa using this
theorem spc_no {c : UInt8} (h : spc c = false) : Lib.indexByte [32, 9, 10, 12, 13] c < 0 := by
  have := idx_contains [32, 9, 10, 12, 13] c
  rw [spc_contains, h] at this
  simp only [decide_eq_false_iff_not] at this; omega

set_option maxHeartbeats 400000 in
theorem isSpace_any (c : UInt8) (w : World) : Calls Tryf.prog 30 #[.int .u8 c.toNat] w fun e w' => e = .returned (.bool (sps c)) ∧ w' = w := by
  rcases hs : spc c with _ | _
  · have hx := spc_no hs
    have HD : Hid (sps c = (decide (c.toNat = 11) || spc c)) := rfl
    go_enter Tryf.func30, Tryf.ntmps30
    go_wp2_with (go_at_call 29; refine (Tryf.strings_IndexByte _ _ _).mono ?_; rintro e w' ⟨rfl, rfl⟩)
    all_goals
      go_ret
      exact ⟨ret_bool (by rw [HD.out, hs, Bool.eq_iff_iff]; simp <;> omega), rfl⟩
  · have hx := spc_yes hs
    have HD : Hid (sps c = (decide (c.toNat = 11) || spc c)) := rfl
    go_enter Tryf.func30, Tryf.ntmps30
    go_wp2_with (go_at_call 29; refine (Tryf.strings_IndexByte _ _ _).mono ?_; rintro e w' ⟨rfl, rfl⟩)
    all_goals
      go_ret
      exact ⟨ret_bool (by rw [HD.out, hs, Bool.eq_iff_iff]; simp <;> omega), rfl⟩

end Go.Proofs.Qxb6613816aFmt.Tok
