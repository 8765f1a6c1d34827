/- The walks of the MySQL lexer's comments. -/
import Derived.Test.Qxb6613816aFmtMy1
import Derived.Lib.AtoiErrMem
namespace Go.Proofs.Qxb6613816aFmt.Tok
open Go.RowKit Go.Extern.Stop Go.Stop Go.Extern Go.Kit
set_option linter.unusedVariables false

theorem parse_ok : ∀ (l : List UInt8) (acc : Nat), l.all dig = true → (acc + 1) * 10 ^ l.length ≤ 10 ^ 18 → ∃ u, Lib.parseUint10 acc l = .ok u ∧ u < 10 ^ 18
  | [], acc, _, h => ⟨acc, rfl, by simp at h; omega⟩
  | c :: r, acc, hd, h => by
    simp only [List.all_cons, Bool.and_eq_true] at hd
    have hc : 48 ≤ c.toNat ∧ c.toNat ≤ 57 := by
      have := hd.1; unfold dig at this; simpa using this
    have hp : 1 ≤ 10 ^ r.length := Nat.pos_of_ne_zero (by simp)
    rw [List.length_cons, Nat.pow_succ] at h
    have h1 : (acc + 1) * 10 * 10 ^ r.length ≤ 10 ^ 18 := by
      have e : (acc + 1) * 10 * 10 ^ r.length = (acc + 1) * (10 ^ r.length * 10) := by rw [Nat.mul_assoc, Nat.mul_comm 10]
      rw [e]; exact h
    have h2 : (acc + 1) * 10 ≤ 10 ^ 18 := Nat.le_trans (Nat.le_mul_of_pos_right _ (by omega)) h1
    have h3 : (acc * 10 + (c.toNat - 48) + 1) * 10 ^ r.length ≤ 10 ^ 18 := Nat.le_trans (Nat.mul_le_mul_right _ (by omega)) h1
    obtain ⟨u, hu, hb⟩ := parse_ok r (acc * 10 + (c.toNat - 48)) hd.2 h3
    refine ⟨u, ?_, hb⟩
    rw [Lib.parseUint10, if_pos hc, if_neg (by omega), if_neg (by omega)]
    exact hu

theorem atoi_ok (l : List UInt8) (h0 : 1 ≤ l.length) (h1 : l.length ≤ 6) (hd : l.all dig = true) : ∃ v : Int, Lib.atoiAll l = .ok v := by
  cases l with
  | nil => simp at h0
  | cons c r =>
    have hp : 10 ^ (c :: r).length ≤ 10 ^ 6 := Nat.pow_le_pow_right (by omega) h1
    obtain ⟨u, hu, hb⟩ := parse_ok (c :: r) 0 hd (by omega)
    have hc : 48 ≤ c.toNat ∧ c.toNat ≤ 57 := by
      simp only [List.all_cons, Bool.and_eq_true] at hd
      have := hd.1; unfold dig at this; simpa using this
    have n2 : ¬ c.toNat = 45 := by omega
    have hm : Lib.parseMag (c :: r) = .ok u := by unfold Lib.parseMag; rw [if_neg (by simp)]; exact hu
    refine ⟨(u : Int), ?_⟩
    unfold Lib.atoiAll
    have n3 : ¬ c.toNat = 43 := by omega
    simp only [n2, n3, or_self, if_false]
    rw [hm]
    simp
    omega

set_option maxHeartbeats 400000 in
theorem plainEnd_some (s : ByteArray) (w : World) (m : Int) (hs : s.size ≤ 1048576) (h2 : 2 ≤ s.size) (hm : w.cell? ⟨0, 0, none⟩ = some (.int .i64 m)) :
    Calls Tryf.prog 54 #[.string s, .int .i64 2] w fun e w' => Three e ∧ w' = w := by
  have HS : (s.extract 2 s.size).size < 4294967281 := by rw [ByteArray.size_extract]; omega
  obtain ⟨v, HV⟩ : ∃ v, Hid (Lib.index (s.extract 2 s.size).data.toList (⟨#[42, 47]⟩ : ByteArray).data.toList = v) := ⟨_, rfl⟩
  go_enter Tryf.func54, Tryf.ntmps54
  go_wp2_with (go_at_call 32; refine (index_is _ _ m _ _ HS hm HV).mono ?_; rintro e w' ⟨rfl, rfl⟩)
  all_goals
    go_ret3
    exact ⟨⟨_, _, _, rfl⟩, rfl⟩

/-- digits alone. -/
def allD (l : List UInt8) : Bool := l.all dig
theorem all_take (s : ByteArray) (k : Nat) (h : k < s.size) : allD (s.data.toList.take (k + 1)) = (allD (s.data.toList.take k) && dig s[k]) := by
  unfold allD
  rw [List.take_succ_eq_append_getElem (by simpa using h), List.all_append]
  simp only [List.all_cons, List.all_nil, Bool.and_true]
  rfl
theorem all_no (s : ByteArray) (k : Nat) (h : k < s.size) (hd : dig s[k] = false) : allD s.data.toList = false := by
  unfold allD
  rw [List.all_eq_false]
  refine ⟨s[k], List.getElem_mem (l := s.data.toList) (n := k) (by simpa using h), ?_⟩
  simp [hd]

set_option maxHeartbeats 400000 in
theorem allDigits_any (s : ByteArray) (w : World) (hs : s.size ≤ 1048576) : Calls Tryf.prog 55 #[.string s] w fun e w' => e = .returned (.bool (allD s.data.toList)) ∧ w' = w := by
  go_enter Tryf.func55, Tryf.ntmps55
  go_wp2
  go_loop [3] (fun v => ∃ k : Nat, k ≤ s.size ∧ v = .int .i64 k ∧ Hid (allD (s.data.toList.take k) = true)) (fun v => s.size - (intOf v).toNat)
  case atStart => exact ⟨0, Nat.zero_le _, rfl, rfl⟩
  case round =>
    obtain ⟨k, hk, rfl, HA⟩ := hrel
    by_cases hlt : k < s.size
    · rcases hd : dig s[k] with _ | _
      · have HF : Hid (allD s.data.toList = false) := all_no s k hlt hd
        go_wp2_with (go_at_call 34; refine (isDigit_any _ _).mono ?_; rintro e w' ⟨rfl, rfl⟩)
        go_ret
        exact ⟨ret_bool HF.out.symm, rfl⟩
      · have HF : Hid (allD (s.data.toList.take (k + 1)) = true) := by unfold Hid; rw [all_take s k hlt, HA.out, hd]; rfl
        go_wp2_with (go_at_call 34; refine (isDigit_any _ _).mono ?_; rintro e w' ⟨rfl, rfl⟩)
        go_round
        case rel => exact ⟨k + 1, by omega, by go_num, HF⟩
        case measure => simp [intOf]; omega
    · have HF : Hid (allD s.data.toList = true) := by
        have e : s.data.toList.take k = s.data.toList := List.take_of_length_le (by simp; omega)
        unfold Hid; rw [← e]; exact HA.out
      go_wp2_with (go_at_call 34; refine (isDigit_any _ _).mono ?_; rintro e w' ⟨rfl, rfl⟩)
      go_ret
      exact ⟨ret_bool HF.out.symm, rfl⟩

theorem allDigits_is (s : ByteArray) (w : World) (b : Bool) (hs : s.size ≤ 1048576) (hb : Hid (allD s.data.toList = b)) : Calls Tryf.prog 55 #[.string s] w fun e w' => e = .returned (.bool b) ∧ w' = w := by
  have h := allDigits_any s w hs
  rw [hb.out] at h; exact h

theorem atoi_any (s : ByteArray) (w : World) (h0 : 1 ≤ s.size) (h1 : s.size ≤ 6) (hd : Hid (allD s.data.toList = true)) :
    Calls Tryf.prog 56 #[.string s] w fun e w' => (∃ v : Int, e = .returned (.tuple #[.int .i64 v, .nilIface])) ∧ Below w.heap.size w w' := by
  obtain ⟨v, hv⟩ := atoi_ok s.data.toList h0 h1 hd.out
  refine (Tryf.strconv_Atoi_ok s (by omega) v hv w).mono ?_
  rintro e w' ⟨rfl, h⟩
  refine ⟨⟨v, rfl⟩, ?_⟩
  rcases h with rfl | ⟨t, rfl⟩
  · exact Below.refl _ _
  · exact Lib.bytesWorld_below w 5 t

end Go.Proofs.Qxb6613816aFmt.Tok
