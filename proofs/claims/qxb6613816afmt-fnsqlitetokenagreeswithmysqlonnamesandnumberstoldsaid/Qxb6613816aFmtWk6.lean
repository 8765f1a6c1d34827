/- The walk of sqliteOperator. -/
import Derived.Test.Qxb6613816aFmtText
namespace Go.Proofs.Qxb6613816aFmt.Tok
open Go.RowKit Go.Extern.Stop Go.Stop Go.Extern Go.Kit

theorem mark_yes {c : UInt8} (h : mark c = true) : 0 ≤ Lib.indexByte [40, 41, 59, 44, 46, 61, 43, 45, 42, 47, 37, 60, 62, 124, 38, 126] c := by
  have := idx_contains [40, 41, 59, 44, 46, 61, 43, 45, 42, 47, 37, 60, 62, 124, 38, 126] c
  rw [show ([40, 41, 59, 44, 46, 61, 43, 45, 42, 47, 37, 60, 62, 124, 38, 126] : List UInt8).contains c = mark c from rfl, h] at this; simpa using this
theorem mark_no {c : UInt8} (h : mark c = false) : Lib.indexByte [40, 41, 59, 44, 46, 61, 43, 45, 42, 47, 37, 60, 62, 124, 38, 126] c < 0 := by
  have := idx_contains [40, 41, 59, 44, 46, 61, 43, 45, 42, 47, 37, 60, 62, 124, 38, 126] c
  rw [show ([40, 41, 59, 44, 46, 61, 43, 45, 42, 47, 37, 60, 62, 124, 38, 126] : List UInt8).contains c = mark c from rfl, h] at this
  simp only [decide_eq_false_iff_not] at this; omega

theorem find_hit {L : List UInt8} {o : List UInt8} {r : List (List UInt8)} {x : Option (List UInt8)} (h : x = (o :: r).find? (Lib.hasPrefix L)) (hp : Lib.hasPrefix L o = true) : x = some o := by
  rw [h, List.find?_cons, hp]
theorem find_pass {L : List UInt8} {o : List UInt8} {r : List (List UInt8)} {x : Option (List UInt8)} (h : x = (o :: r).find? (Lib.hasPrefix L)) (hp : Lib.hasPrefix L o = false) : x = r.find? (Lib.hasPrefix L) := by
  rw [h, List.find?_cons, hp]

set_option maxHeartbeats 2000000 in
set_option maxRecDepth 100000 in
theorem operator_any (F : Interp) (s : ByteArray) (w : World) (hF : F.answers w.tape) (hne : ∀ c : UInt8, 0 < (FmtStop.textOf (F "fmt.Sprintf" (asked c.toNat) 0)).size) (h0 : 0 < s.size) :
    Calls Tryf.prog 40 #[.string s] w fun e w' => Said (ops s.data.toList) e ∧ Below w.heap.size w w' := by
  have HNE : Hid (∀ c : UInt8, 0 < (FmtStop.textOf (F "fmt.Sprintf" (asked c.toNat) 0)).size) := hne
  clear hne
  go_enter Tryf.func40, Tryf.ntmps40
  go_wp2_with fail
  go_loop [9] (fun v => ∃ k : Nat, k ≤ 10 ∧ v = .int .i64 k ∧ Hid (opsL.find? (Lib.hasPrefix s.data.toList) = (opsL.drop k).find? (Lib.hasPrefix s.data.toList))) (fun v => 10 - (intOf v).toNat)
  case atStart => exact ⟨0, by omega, rfl, rfl⟩
  case round =>
    obtain ⟨k, hk, rfl, HR⟩ := hrel
    rcases (show k = 0 ∨ k = 1 ∨ k = 2 ∨ k = 3 ∨ k = 4 ∨ k = 5 ∨ k = 6 ∨ k = 7 ∨ k = 8 ∨ k = 9 ∨ k = 10 from by omega) with rfl | rfl | rfl | rfl | rfl | rfl | rfl | rfl | rfl | rfl | rfl
    · rcases hp : Lib.hasPrefix s.data.toList [45, 62, 62] with _ | _
      · have HF : Hid (opsL.find? (Lib.hasPrefix s.data.toList) = (opsL.drop 1).find? (Lib.hasPrefix s.data.toList)) := find_pass HR.out hp
        go_wp2_with (go_at_call 31; refine (Tryf.strings_HasPrefix _ _ _).mono ?_; rintro e w' ⟨rfl, rfl⟩)
        go_round
        case rel => exact ⟨1, by omega, by go_num, HF⟩
        case measure => simp [intOf]
      · have HF : Hid (ops s.data.toList = some (3, 4)) := by unfold Hid ops; rw [find_hit HR.out hp]; rfl
        go_wp2_with (go_at_call 31; refine (Tryf.strings_HasPrefix _ _ _).mono ?_; rintro e w' ⟨rfl, rfl⟩)
        go_ret3
        exact ⟨said_yes 3 4 _ _ HF.out (by simp) rfl, (Below.refl _ _).alloc (Nat.le_refl _) _⟩
    · rcases hp : Lib.hasPrefix s.data.toList [45, 62] with _ | _
      · have HF : Hid (opsL.find? (Lib.hasPrefix s.data.toList) = (opsL.drop 2).find? (Lib.hasPrefix s.data.toList)) := find_pass HR.out hp
        go_wp2_with (go_at_call 31; refine (Tryf.strings_HasPrefix _ _ _).mono ?_; rintro e w' ⟨rfl, rfl⟩)
        go_round
        case rel => exact ⟨2, by omega, by go_num, HF⟩
        case measure => simp [intOf]
      · have HF : Hid (ops s.data.toList = some (2, 4)) := by unfold Hid ops; rw [find_hit HR.out hp]; rfl
        go_wp2_with (go_at_call 31; refine (Tryf.strings_HasPrefix _ _ _).mono ?_; rintro e w' ⟨rfl, rfl⟩)
        go_ret3
        exact ⟨said_yes 2 4 _ _ HF.out (by simp) rfl, (Below.refl _ _).alloc (Nat.le_refl _) _⟩
    · rcases hp : Lib.hasPrefix s.data.toList [61, 61] with _ | _
      · have HF : Hid (opsL.find? (Lib.hasPrefix s.data.toList) = (opsL.drop 3).find? (Lib.hasPrefix s.data.toList)) := find_pass HR.out hp
        go_wp2_with (go_at_call 31; refine (Tryf.strings_HasPrefix _ _ _).mono ?_; rintro e w' ⟨rfl, rfl⟩)
        go_round
        case rel => exact ⟨3, by omega, by go_num, HF⟩
        case measure => simp [intOf]
      · have HF : Hid (ops s.data.toList = some (2, 4)) := by unfold Hid ops; rw [find_hit HR.out hp]; rfl
        go_wp2_with (go_at_call 31; refine (Tryf.strings_HasPrefix _ _ _).mono ?_; rintro e w' ⟨rfl, rfl⟩)
        go_ret3
        exact ⟨said_yes 2 4 _ _ HF.out (by simp) rfl, (Below.refl _ _).alloc (Nat.le_refl _) _⟩
    · rcases hp : Lib.hasPrefix s.data.toList [60, 61] with _ | _
      · have HF : Hid (opsL.find? (Lib.hasPrefix s.data.toList) = (opsL.drop 4).find? (Lib.hasPrefix s.data.toList)) := find_pass HR.out hp
        go_wp2_with (go_at_call 31; refine (Tryf.strings_HasPrefix _ _ _).mono ?_; rintro e w' ⟨rfl, rfl⟩)
        go_round
        case rel => exact ⟨4, by omega, by go_num, HF⟩
        case measure => simp [intOf]
      · have HF : Hid (ops s.data.toList = some (2, 4)) := by unfold Hid ops; rw [find_hit HR.out hp]; rfl
        go_wp2_with (go_at_call 31; refine (Tryf.strings_HasPrefix _ _ _).mono ?_; rintro e w' ⟨rfl, rfl⟩)
        go_ret3
        exact ⟨said_yes 2 4 _ _ HF.out (by simp) rfl, (Below.refl _ _).alloc (Nat.le_refl _) _⟩
    · rcases hp : Lib.hasPrefix s.data.toList [60, 62] with _ | _
      · have HF : Hid (opsL.find? (Lib.hasPrefix s.data.toList) = (opsL.drop 5).find? (Lib.hasPrefix s.data.toList)) := find_pass HR.out hp
        go_wp2_with (go_at_call 31; refine (Tryf.strings_HasPrefix _ _ _).mono ?_; rintro e w' ⟨rfl, rfl⟩)
        go_round
        case rel => exact ⟨5, by omega, by go_num, HF⟩
        case measure => simp [intOf]
      · have HF : Hid (ops s.data.toList = some (2, 4)) := by unfold Hid ops; rw [find_hit HR.out hp]; rfl
        go_wp2_with (go_at_call 31; refine (Tryf.strings_HasPrefix _ _ _).mono ?_; rintro e w' ⟨rfl, rfl⟩)
        go_ret3
        exact ⟨said_yes 2 4 _ _ HF.out (by simp) rfl, (Below.refl _ _).alloc (Nat.le_refl _) _⟩
    · rcases hp : Lib.hasPrefix s.data.toList [60, 60] with _ | _
      · have HF : Hid (opsL.find? (Lib.hasPrefix s.data.toList) = (opsL.drop 6).find? (Lib.hasPrefix s.data.toList)) := find_pass HR.out hp
        go_wp2_with (go_at_call 31; refine (Tryf.strings_HasPrefix _ _ _).mono ?_; rintro e w' ⟨rfl, rfl⟩)
        go_round
        case rel => exact ⟨6, by omega, by go_num, HF⟩
        case measure => simp [intOf]
      · have HF : Hid (ops s.data.toList = some (2, 4)) := by unfold Hid ops; rw [find_hit HR.out hp]; rfl
        go_wp2_with (go_at_call 31; refine (Tryf.strings_HasPrefix _ _ _).mono ?_; rintro e w' ⟨rfl, rfl⟩)
        go_ret3
        exact ⟨said_yes 2 4 _ _ HF.out (by simp) rfl, (Below.refl _ _).alloc (Nat.le_refl _) _⟩
    · rcases hp : Lib.hasPrefix s.data.toList [62, 61] with _ | _
      · have HF : Hid (opsL.find? (Lib.hasPrefix s.data.toList) = (opsL.drop 7).find? (Lib.hasPrefix s.data.toList)) := find_pass HR.out hp
        go_wp2_with (go_at_call 31; refine (Tryf.strings_HasPrefix _ _ _).mono ?_; rintro e w' ⟨rfl, rfl⟩)
        go_round
        case rel => exact ⟨7, by omega, by go_num, HF⟩
        case measure => simp [intOf]
      · have HF : Hid (ops s.data.toList = some (2, 4)) := by unfold Hid ops; rw [find_hit HR.out hp]; rfl
        go_wp2_with (go_at_call 31; refine (Tryf.strings_HasPrefix _ _ _).mono ?_; rintro e w' ⟨rfl, rfl⟩)
        go_ret3
        exact ⟨said_yes 2 4 _ _ HF.out (by simp) rfl, (Below.refl _ _).alloc (Nat.le_refl _) _⟩
    · rcases hp : Lib.hasPrefix s.data.toList [62, 62] with _ | _
      · have HF : Hid (opsL.find? (Lib.hasPrefix s.data.toList) = (opsL.drop 8).find? (Lib.hasPrefix s.data.toList)) := find_pass HR.out hp
        go_wp2_with (go_at_call 31; refine (Tryf.strings_HasPrefix _ _ _).mono ?_; rintro e w' ⟨rfl, rfl⟩)
        go_round
        case rel => exact ⟨8, by omega, by go_num, HF⟩
        case measure => simp [intOf]
      · have HF : Hid (ops s.data.toList = some (2, 4)) := by unfold Hid ops; rw [find_hit HR.out hp]; rfl
        go_wp2_with (go_at_call 31; refine (Tryf.strings_HasPrefix _ _ _).mono ?_; rintro e w' ⟨rfl, rfl⟩)
        go_ret3
        exact ⟨said_yes 2 4 _ _ HF.out (by simp) rfl, (Below.refl _ _).alloc (Nat.le_refl _) _⟩
    · rcases hp : Lib.hasPrefix s.data.toList [33, 61] with _ | _
      · have HF : Hid (opsL.find? (Lib.hasPrefix s.data.toList) = (opsL.drop 9).find? (Lib.hasPrefix s.data.toList)) := find_pass HR.out hp
        go_wp2_with (go_at_call 31; refine (Tryf.strings_HasPrefix _ _ _).mono ?_; rintro e w' ⟨rfl, rfl⟩)
        go_round
        case rel => exact ⟨9, by omega, by go_num, HF⟩
        case measure => simp [intOf]
      · have HF : Hid (ops s.data.toList = some (2, 4)) := by unfold Hid ops; rw [find_hit HR.out hp]; rfl
        go_wp2_with (go_at_call 31; refine (Tryf.strings_HasPrefix _ _ _).mono ?_; rintro e w' ⟨rfl, rfl⟩)
        go_ret3
        exact ⟨said_yes 2 4 _ _ HF.out (by simp) rfl, (Below.refl _ _).alloc (Nat.le_refl _) _⟩
    · rcases hp : Lib.hasPrefix s.data.toList [124, 124] with _ | _
      · have HF : Hid (opsL.find? (Lib.hasPrefix s.data.toList) = (opsL.drop 10).find? (Lib.hasPrefix s.data.toList)) := find_pass HR.out hp
        go_wp2_with (go_at_call 31; refine (Tryf.strings_HasPrefix _ _ _).mono ?_; rintro e w' ⟨rfl, rfl⟩)
        go_round
        case rel => exact ⟨10, by omega, by go_num, HF⟩
        case measure => simp [intOf]
      · have HF : Hid (ops s.data.toList = some (2, 4)) := by unfold Hid ops; rw [find_hit HR.out hp]; rfl
        go_wp2_with (go_at_call 31; refine (Tryf.strings_HasPrefix _ _ _).mono ?_; rintro e w' ⟨rfl, rfl⟩)
        go_ret3
        exact ⟨said_yes 2 4 _ _ HF.out (by simp) rfl, (Below.refl _ _).alloc (Nat.le_refl _) _⟩
    · have HF : Hid (ops s.data.toList = if mark s[0] then some (1, 4) else none) := by
        unfold Hid ops; rw [HR.out, isAt_get s 0 h0]; rfl
      rcases hm : mark s[0] with _ | _
      · have hx := mark_no hm
        have hF2 : ∀ o, F.answers (w.alloc o).tape := fun o => hF
        have HF2 : Hid (∀ o, F.answers (w.alloc o).tape) := hF2
        clear hF2
        go_wp2_with (first | (go_at_call 29; refine (Tryf.strings_IndexByte _ _ _).mono ?_; rintro e w' ⟨rfl, rfl⟩) | (go_at_call 48; refine (notSQL_any F _ _ (by exact HF2.out _)).mono ?_; rintro e w' ⟨rfl, hb⟩))
        go_ret3
        refine ⟨said_no _ (by rw [HF.out, hm]; rfl) (HNE.out _), ((Below.refl _ _).alloc (Nat.le_refl _) _).trans (hb.mono (by simp))⟩
      · have hx := mark_yes hm
        go_wp2_with (go_at_call 29; refine (Tryf.strings_IndexByte _ _ _).mono ?_; rintro e w' ⟨rfl, rfl⟩)
        go_ret3
        exact ⟨said_yes 1 4 _ _ (by rw [HF.out, hm]; rfl) rfl rfl, (Below.refl _ _).alloc (Nat.le_refl _) _⟩

end Go.Proofs.Qxb6613816aFmt.Tok
