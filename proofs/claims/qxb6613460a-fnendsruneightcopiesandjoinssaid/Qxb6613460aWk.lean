/- The walks of the callees of FnEndsRunEightCopiesAndJoins. -/
import Derived.Test.Qxb6613460aLib
import Derived.Test.Qxb6613460aPlain
import Derived.Test.Qxb6613460aRows
import Derived.WalkKit
import Derived.WalkSpells
import Derived.Lib.AppendStr
import Derived.Laws.IdiomStrings
namespace Go.Proofs.Qxb6613460a.Ends
open Go.RowKit

set_option maxHeartbeats 400000 in
/-- zzBytes: the bound on the total length. -/
theorem bytes_yes (a b : ByteArray) (w : World) (h : a.size + b.size ≤ 1048576) :
    Calls Try.prog 10 #[.string a, .string b] w fun e w' => e = .returned (.bool true) ∧ w' = w := by
  go_enter Try.func10, Try.ntmps10
  go_wp2
  go_ret
  exact ⟨rfl, rfl⟩

set_option maxHeartbeats 400000 in
theorem bytes_any (a b : ByteArray) (w : World) (ha : a.size ≤ maxLen) (hb : b.size ≤ maxLen) :
    Calls Try.prog 10 #[.string a, .string b] w fun e w' => (∃ v, e = .returned (.bool v)) ∧ w' = w := by
  unfold maxLen at ha hb
  go_enter Try.func10, Try.ntmps10
  go_wp2
  all_goals (go_ret; exact ⟨⟨_, rfl⟩, rfl⟩)

set_option maxHeartbeats 400000 in
/-- endsRun. -/
theorem endsRun_any (s : ByteArray) (w : World) (hs : s.size ≤ maxLen) :
    Calls Try.prog 18 #[.string s] w fun e w' => e = .returned (.bool (ends s.data.toList)) ∧ w' = w := by
  unfold maxLen at hs
  have hl : s.data.toList.length = s.size := rfl
  by_cases h : s.size % 8 = 0
  · have hE : Hid (ends s.data.toList = !(decide (0 ≤ Lib.indexByte s.data.toList 95))) := by
      unfold Hid ends; rw [index_und, hl, h]; simp
    clear hl
    have h' : ((s.size : Int) % 8 == 0) = true := by simp; omega
    go_enter Try.func18, Try.ntmps18
    go_wp2_with (go_at_call 20; refine (Try.strings_Contains_one _ _ _).mono ?_; rintro e w' ⟨rfl, rfl⟩)
    go_ret
    exact ⟨by rw [hE.out]; rfl, rfl⟩
  · have hE : Hid (ends s.data.toList = false) := by
      unfold Hid ends; rw [hl]; simp [h]
    clear hl
    have h' : ((s.size : Int) % 8 == 0) = false := by simp; omega
    go_enter Try.func18, Try.ntmps18
    go_wp2_with (go_at_call 20; refine (Try.strings_Contains_one _ _ _).mono ?_; rintro e w' ⟨rfl, rfl⟩)
    go_ret
    exact ⟨by rw [hE.out]; rfl, rfl⟩

set_option maxHeartbeats 400000 in
theorem zzEndsRun_any (s : ByteArray) (w : World) (hs : s.size ≤ maxLen) :
    Calls Try.prog 12 #[.string s] w fun e w' => e = .returned (.bool (ends s.data.toList)) ∧ w' = w := by
  go_enter Try.func12, Try.ntmps12
  go_wp2_with (go_at_call 18; refine (endsRun_any _ _ hs).mono ?_; rintro e w' ⟨rfl, rfl⟩)
  go_ret
  exact ⟨rfl, rfl⟩

theorem take_snoc (s : ByteArray) (k : Nat) (h : k < s.size) : s.data.toList.take (k + 1) = s.data.toList.take k ++ [s[k]] := by
  rw [List.take_succ_eq_append_getElem (by simpa using h)]; rfl

theorem und_take (s : ByteArray) (k : Nat) (h : k < s.size) : und (s.data.toList.take (k + 1)) = (und (s.data.toList.take k) || (s[k] == 95)) := by
  rw [take_snoc s k h, und_append]
  congr 1
  simp only [und, List.contains_cons, List.contains_nil, Bool.or_false]
  rw [Bool.eq_iff_iff]; simp only [beq_iff_eq]; exact ⟨fun h => h.symm, fun h => h.symm⟩

theorem und_hit (s : ByteArray) (k : Nat) (h : k < s.size) (hb : ((s[k].toNat : Int) == 95) = true) : und s.data.toList = true := by
  have h1 : s[k] = 95 := by
    simp only [beq_iff_eq] at hb
    exact UInt8.toNat_inj.1 (by show s[k].toNat = 95; omega)
  unfold und
  rw [List.contains_iff_mem, ← h1]
  exact List.getElem_mem (l := s.data.toList) (n := k) (by simpa using h)

theorem und_miss (s : ByteArray) (k : Nat) (h : k < s.size) (hb : ((s[k].toNat : Int) == 95) = false) (hu : und (s.data.toList.take k) = false) : und (s.data.toList.take (k + 1)) = false := by
  rw [und_take s k h, hu, Bool.false_or]
  simp only [beq_eq_false_iff_ne] at hb ⊢
  intro e
  apply hb
  rw [e]; rfl

set_option maxHeartbeats 400000 in
/-- zzHasUnderscore. -/
theorem hasUnd_any (s : ByteArray) (w : World) (hs : s.size ≤ maxLen) :
    Calls Try.prog 13 #[.string s] w fun e w' => e = .returned (.bool (und s.data.toList)) ∧ w' = w := by
  unfold maxLen at hs
  go_enter Try.func13, Try.ntmps13
  go_wp2
  go_loop [3] (fun i => ∃ k : Nat, k ≤ s.size ∧ i = .int .i64 k ∧ und (s.data.toList.take k) = false) (fun i => s.size - (intOf i).toNat)
  case atStart => exact ⟨0, Nat.zero_le _, rfl, rfl⟩
  case round =>
    obtain ⟨k, hk, rfl, hu⟩ := hrel
    have HU : Hid (und (s.data.toList.take k) = false) := hu
    clear hu
    by_cases hlt : k < s.size
    · by_cases hb : ((s[k].toNat : Int) == 95) = true
      · have HB : Hid (und s.data.toList = true) := und_hit s k hlt hb
        go_wp2
        go_ret
        exact ⟨by rw [HB.out]; rfl, rfl⟩
      · have hb' : ((s[k].toNat : Int) == 95) = false := by simpa using hb
        have HM : Hid (und (s.data.toList.take (k + 1)) = false) := und_miss s k hlt hb' HU.out
        clear hb
        go_wp2
        go_round
        case rel => exact ⟨k + 1, by omega, by go_num, HM.out⟩
        case measure => simp [intOf]; omega
    · go_wp2
      go_ret
      have e : s.data.toList.take k = s.data.toList := List.take_of_length_le (by simp; omega)
      exact ⟨by rw [← e, HU.out]; rfl, rfl⟩

end Go.Proofs.Qxb6613460a.Ends
