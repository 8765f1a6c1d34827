/- The walks of digits, numberEnd, sqliteNumber. -/
import Derived.Test.Qxb6613816aFmtWk1
namespace Go.Proofs.Qxb6613816aFmt.Tok
open Go.RowKit

theorem isAt_get (s : ByteArray) (k : Nat) (h : k < s.size) (p : UInt8 → Bool) : isAt s.data.toList k p = p s[k] := by
  unfold isAt
  rw [List.getElem?_eq_getElem (by simpa using h)]
  rfl
theorem isAt_out (s : ByteArray) (k : Nat) (h : ¬ k < s.size) (p : UInt8 → Bool) : isAt s.data.toList k p = false := by
  unfold isAt
  rw [List.getElem?_eq_none (by simpa using h)]
  rfl
theorem ret_int {k : IntKind} {a b : Int} (h : a = b) : Ending.returned (.int k a) = .returned (.int k b) := by rw [h]

theorem dgu_dig {c : UInt8} (h : dig c = true) : dgu c = true := by simp [dgu, h]
theorem dgu_us {c : UInt8} (h : ((c.toNat : Int) == 95) = true) : dgu c = true := by simp at h; simp [dgu]; omega
theorem dgu_no {c : UInt8} (h : dig c = false) (h' : ((c.toNat : Int) == 95) = false) : dgu c = false := by simp at h'; simp [dgu, h]; omega

set_option maxHeartbeats 400000 in
theorem digits_any (s : ByteArray) (i : Nat) (w : World) (hs : s.size ≤ 1048576) (hi : i ≤ s.size) :
    Calls Tryf.prog 58 #[.string s, .int .i64 i] w fun e w' => e = .returned (.int .i64 (run dgu s.data.toList i)) ∧ w' = w := by
  go_enter Tryf.func58, Tryf.ntmps58
  go_wp2
  go_loop [1] (fun v => ∃ k : Nat, k ≤ s.size ∧ v = .int .i64 k ∧ Hid (run dgu s.data.toList i = run dgu s.data.toList k)) (fun v => s.size - (intOf v).toNat)
  case atStart => exact ⟨i, hi, rfl, rfl⟩
  case round =>
    obtain ⟨k, hk, rfl, HR⟩ := hrel
    by_cases hlt : k < s.size
    · have HG : Hid (∀ p, isAt s.data.toList k p = p s[k]) := isAt_get s k hlt
      rcases hd : dig s[k] with _ | _
      · rcases hu : ((s[k].toNat : Int) == 95) with _ | _
        · have HE : Hid (run dgu s.data.toList k = k) := run_here (by rw [HG.out]; exact dgu_no hd hu)
          go_wp2_with (go_at_call 34; refine (isDigit_any _ _).mono ?_; rintro e w' ⟨rfl, rfl⟩)
          go_ret
          exact ⟨ret_int (by rw [HR.out, HE.out]), rfl⟩
        · have HE : Hid (run dgu s.data.toList k = run dgu s.data.toList (k + 1)) := run_step (by rw [HG.out]; exact dgu_us hu)
          go_wp2_with (go_at_call 34; refine (isDigit_any _ _).mono ?_; rintro e w' ⟨rfl, rfl⟩)
          go_round
          case rel => exact ⟨k + 1, by omega, by go_num, HR.out.trans HE.out⟩
          case measure => simp [intOf]; omega
      · have HE : Hid (run dgu s.data.toList k = run dgu s.data.toList (k + 1)) := run_step (by rw [HG.out]; exact dgu_dig hd)
        go_wp2_with (go_at_call 34; refine (isDigit_any _ _).mono ?_; rintro e w' ⟨rfl, rfl⟩)
        go_round
        case rel => exact ⟨k + 1, by omega, by go_num, HR.out.trans HE.out⟩
        case measure => simp [intOf]; omega
    · have HE : Hid (run dgu s.data.toList k = k) := run_here (isAt_out s k hlt _)
      go_wp2_with (go_at_call 34; refine (isDigit_any _ _).mono ?_; rintro e w' ⟨rfl, rfl⟩)
      go_ret
      exact ⟨ret_int (by rw [HR.out, HE.out]), rfl⟩

end Go.Proofs.Qxb6613816aFmt.Tok
