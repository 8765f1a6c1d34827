/- The walks of the MySQL lexer's small functions. -/
import Derived.Test.Qxb6613816aFmtMain
namespace Go.Proofs.Qxb6613816aFmt.Tok
open Go.RowKit Go.Extern.Stop Go.Stop Go.Extern Go.Kit
set_option linter.unusedVariables false

/-- an answer of three, whatever it says. -/
def Three (e : Ending) : Prop := ∃ (n k : Int) (p : ByteArray), e = .returned (.tuple #[.int .i64 n, .int .i64 k, .string p])

/-- some bool, whichever. -/
def SomeBool (e : Ending) : Prop := ∃ b, e = .returned (.bool b)

set_option maxHeartbeats 400000 in
theorem isIdent_any (c : UInt8) (w : World) : Calls Tryf.prog 47 #[.int .u8 c.toNat] w fun e w' => e = .returned (.bool (idc c)) ∧ w' = w := by
  rcases hl : ltr c with _ | _ <;> rcases hd : dig c with _ | _
  all_goals
    have HD : Hid (idc c = (ltr c || dig c || decide (c.toNat = 95) || decide (c.toNat = 36) || decide (128 ≤ c.toNat))) := rfl
    go_enter Tryf.func47, Tryf.ntmps47
    go_wp2_with (first | (go_at_call 38; refine (isLetter_any _ _).mono ?_; rintro e w' ⟨rfl, rfl⟩) | (go_at_call 34; refine (isDigit_any _ _).mono ?_; rintro e w' ⟨rfl, rfl⟩))
    all_goals
      go_ret
      exact ⟨ret_bool (by rw [HD.out, hl, hd, Bool.eq_iff_iff]; simp <;> omega), rfl⟩

set_option maxHeartbeats 400000 in
theorem zzLetter_any (c : UInt8) (w : World) : Calls Tryf.prog 17 #[.int .u8 c.toNat] w fun e w' => e = .returned (.bool (ltr c)) ∧ w' = w := by
  go_enter Tryf.func17, Tryf.ntmps17
  go_wp2
  all_goals
    go_ret
    exact ⟨ret_bool (by rw [Bool.eq_iff_iff]; simp [ltr] <;> omega), rfl⟩

set_option maxHeartbeats 400000 in
theorem zzDigit_any (c : UInt8) (w : World) : Calls Tryf.prog 19 #[.int .u8 c.toNat] w fun e w' => e = .returned (.bool (dig c)) ∧ w' = w := by
  go_enter Tryf.func19, Tryf.ntmps19
  go_wp2
  all_goals
    go_ret
    exact ⟨ret_bool (by rw [Bool.eq_iff_iff]; simp [dig] <;> omega), rfl⟩

set_option maxHeartbeats 400000 in
theorem zzName_any (c : UInt8) (w : World) : Calls Tryf.prog 18 #[.int .u8 c.toNat] w fun e w' => e = .returned (.bool (idc c)) ∧ w' = w := by
  rcases hl : ltr c with _ | _ <;> rcases hd : dig c with _ | _
  all_goals
    have HD : Hid (idc c = (ltr c || dig c || decide (c.toNat = 95) || decide (c.toNat = 36) || decide (128 ≤ c.toNat))) := rfl
    go_enter Tryf.func18, Tryf.ntmps18
    go_wp2_with (first | (go_at_call 17; refine (zzLetter_any _ _).mono ?_; rintro e w' ⟨rfl, rfl⟩) | (go_at_call 19; refine (zzDigit_any _ _).mono ?_; rintro e w' ⟨rfl, rfl⟩))
    all_goals
      go_ret
      exact ⟨ret_bool (by rw [HD.out, hl, hd, Bool.eq_iff_iff]; simp <;> omega), rfl⟩

theorem hp_size (s : ByteArray) (o : List UInt8) (h : Lib.hasPrefix s.data.toList o = true) : o.length ≤ s.size := by
  unfold Lib.hasPrefix at h
  rw [List.isPrefixOf_iff_prefix] at h
  have := h.length_le
  exact this

set_option maxHeartbeats 400000 in
theorem dash_no (s : ByteArray) (w : World) (h : Lib.hasPrefix s.data.toList [45, 45] = false) : Calls Tryf.prog 41 #[.string s] w fun e w' => e = .returned (.bool false) ∧ w' = w := by
  go_enter Tryf.func41, Tryf.ntmps41
  go_wp2_with (go_at_call 31; refine (Tryf.strings_HasPrefix _ _ _).mono ?_; rintro e w' ⟨rfl, rfl⟩)
  go_ret
  exact ⟨rfl, rfl⟩

set_option maxHeartbeats 400000 in
theorem dash_some (s : ByteArray) (w : World) (hs : s.size ≤ 1048576) : Calls Tryf.prog 41 #[.string s] w fun e w' => SomeBool e ∧ w' = w := by
  rcases h : Lib.hasPrefix s.data.toList [45, 45] with _ | _
  · refine (dash_no s w h).mono ?_
    rintro e w' ⟨rfl, rfl⟩
    exact ⟨⟨_, rfl⟩, rfl⟩
  · have h2 : 2 ≤ s.size := hp_size s _ h
    by_cases h3 : 2 < s.size
    · have ez : ((s.size : Int) == 2) = false := by rw [beq_eq_false_iff_ne]; omega
      go_enter Tryf.func41, Tryf.ntmps41
      go_wp2_with (go_at_call 31; refine (Tryf.strings_HasPrefix _ _ _).mono ?_; rintro e w' ⟨rfl, rfl⟩)
      all_goals
        go_ret
        exact ⟨⟨_, rfl⟩, rfl⟩
    · have ez : ((s.size : Int) == 2) = true := by rw [beq_iff_eq]; omega
      go_enter Tryf.func41, Tryf.ntmps41
      go_wp2_with (go_at_call 31; refine (Tryf.strings_HasPrefix _ _ _).mono ?_; rintro e w' ⟨rfl, rfl⟩)
      all_goals
        go_ret
        exact ⟨⟨_, rfl⟩, rfl⟩

set_option maxHeartbeats 400000 in
theorem lineEnd_some (s : ByteArray) (w : World) (hs : s.size ≤ 1048576) : Calls Tryf.prog 42 #[.string s] w fun e w' => (∃ n, e = .returned (.int .i64 n)) ∧ w' = w := by
  go_enter Tryf.func42, Tryf.ntmps42
  go_wp2_with (go_at_call 29; refine (Tryf.strings_IndexByte _ _ _).mono ?_; rintro e w' ⟨rfl, rfl⟩)
  all_goals
    go_ret
    exact ⟨⟨_, rfl⟩, rfl⟩

set_option maxHeartbeats 1000000 in
theorem myString_some (s : ByteArray) (w : World) (hs : s.size ≤ 1048576) (h0 : 0 < s.size) : Calls Tryf.prog 44 #[.string s] w fun e w' => Three e ∧ w' = w := by
  go_enter Tryf.func44, Tryf.ntmps44
  go_wp2
  go_loop [6] (fun v => ∃ k : Nat, k ≤ s.size + 1 ∧ v = .int .i64 k) (fun v => s.size + 1 - (intOf v).toNat)
  case atStart => exact ⟨1, by omega, rfl⟩
  case round =>
    obtain ⟨k, hk, rfl⟩ := hrel
    by_cases hlt : k < s.size
    · rcases hc : ((s[k].toNat : Int) == 92) with _ | _
      · rcases hd : ((s[k].toNat : Int) == (s[0].toNat : Int)) with _ | _
        · go_wp2
          go_round
          case rel => exact ⟨k + 1, by omega, by go_num⟩
          case measure => simp [intOf]; omega
        · by_cases h1 : k + 1 < s.size
          · rcases hq : ((s[k + 1].toNat : Int) == (s[0].toNat : Int)) with _ | _
            · go_wp2
              go_ret3
              exact ⟨⟨_, _, _, rfl⟩, rfl⟩
            · go_wp2
              go_round
              case rel => exact ⟨k + 2, by omega, by go_num⟩
              case measure => simp [intOf]; omega
          · go_wp2
            go_ret3
            exact ⟨⟨_, _, _, rfl⟩, rfl⟩
      · go_wp2
        go_round
        case rel => exact ⟨k + 2, by omega, by go_num⟩
        case measure => simp [intOf]; omega
    · go_wp2
      go_ret3
      exact ⟨⟨_, _, _, rfl⟩, rfl⟩

set_option maxHeartbeats 1000000 in
theorem myQuoted_some (s : ByteArray) (w : World) (hs : s.size ≤ 1048576) (h0 : 0 < s.size) : Calls Tryf.prog 45 #[.string s] w fun e w' => Three e ∧ w' = w := by
  go_enter Tryf.func45, Tryf.ntmps45
  go_wp2
  go_loop [5] (fun v => ∃ k : Nat, k ≤ s.size + 1 ∧ v = .int .i64 k) (fun v => s.size + 1 - (intOf v).toNat)
  case atStart => exact ⟨1, by omega, rfl⟩
  case round =>
    obtain ⟨k, hk, rfl⟩ := hrel
    by_cases hlt : k < s.size
    · rcases hc : ((s[k].toNat : Int) != 96) with _ | _
      · by_cases h1 : k + 1 < s.size
        · rcases hq : ((s[k + 1].toNat : Int) == 96) with _ | _
          · go_wp2
            go_ret3
            exact ⟨⟨_, _, _, rfl⟩, rfl⟩
          · go_wp2
            go_round
            case rel => exact ⟨k + 2, by omega, by go_num⟩
            case measure => simp [intOf]; omega
        · go_wp2
          go_ret3
          exact ⟨⟨_, _, _, rfl⟩, rfl⟩
      · go_wp2
        go_round
        case rel => exact ⟨k + 1, by omega, by go_num⟩
        case measure => simp [intOf]; omega
    · go_wp2
      go_ret3
      exact ⟨⟨_, _, _, rfl⟩, rfl⟩

end Go.Proofs.Qxb6613816aFmt.Tok
