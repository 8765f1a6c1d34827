/- The walk of FnSqliteTokenAgreesWithMysqlOnNamesAndNumbers: names. -/
import Derived.Test.Qxb6613816aFmtMy5
namespace Go.Proofs.Qxb6613816aFmt.Tok
open Go.RowKit Go.Extern.Stop Go.Stop Go.Extern Go.Kit
set_option linter.unusedVariables false

set_option maxHeartbeats 400000 in
theorem bytes1_yes (a : ByteArray) (w : World) (h : a.size ≤ 1048576) :
    Calls Tryf.prog 15 #[.string a] w fun e w' => e = .returned (.bool true) ∧ w' = w := by
  go_enter Tryf.func15, Tryf.ntmps15
  go_wp2
  go_ret
  exact ⟨rfl, rfl⟩

set_option maxHeartbeats 400000 in
theorem bytes1_no (a : ByteArray) (w : World) (ha : a.size ≤ maxLen) (h : ¬ a.size ≤ 1048576) :
    Calls Tryf.prog 15 #[.string a] w fun e w' => e = .returned (.bool false) ∧ w' = w := by
  unfold maxLen at ha
  go_enter Tryf.func15, Tryf.ntmps15
  go_wp2
  go_ret
  exact ⟨rfl, rfl⟩

set_option maxHeartbeats 2000000 in
set_option maxRecDepth 100000 in
theorem lawA_l (s : ByteArray) (w : World) (hs : s.size ≤ 1048576) (h0 : 0 < s.size) (n : Nat) (hn1 : 1 ≤ n) (hn2 : n ≤ s.size) (HA : Hid (∀ k (h : k < s.size), k < n → idc s[k] = true)) (HZ : Hid (∀ h : n < s.size, idc s[n] = false))
    (C14 : Hid (∀ w0, w0 = w → Calls Tryf.prog 14 #[.string s] w0 fun e w' => e = .returned (.tuple #[.int .i64 (n : Nat), .int .i64 0, .string ⟨#[]⟩]) ∧ Below w.heap.size w w'))
    (C16 : Hid (∀ w0, Below w.heap.size w w0 → Calls Tryf.prog 16 #[.string s] w0 fun e w' => e = .returned (.tuple #[.int .i64 (n : Nat), .int .i64 0, .string ⟨#[]⟩]) ∧ Below w0.heap.size w0 w')) (he : Hid (((97 ≤ s[0].toNat ∧ s[0].toNat ≤ 122) ∨ (65 ≤ s[0].toNat ∧ s[0].toNat ≤ 90)) ∧ s[0].toNat ≠ 120 ∧ s[0].toNat ≠ 88)) :
    Calls Tryf.prog 6 #[.string s] w fun e w' => e = .returned (.bool true) ∧ Below w.heap.size w w' := by
  have pl : ltr s[0] = true := by have := he.out; unfold ltr; simp; omega
  have t120 : ((s[0].toNat : Int) == 120) = false := by have := he.out; simp; omega
  have t88 : ((s[0].toNat : Int) == 88) = false := by have := he.out; simp; omega
  have t239 : ((s[0].toNat : Int) == 239) = false := by have := he.out; simp; omega
  have ez : ((s.size : Int) == 0) = false := by rw [beq_eq_false_iff_ne]; omega
  have enn : ((n : Int) != (n : Int)) = false := by simp
  by_cases h3 : 3 ≤ s.size
  all_goals
    go_enter Tryf.func6, Tryf.ntmps6
    go_wp2_with (go_at_call 15; refine (bytes1_yes _ _ hs).mono ?_; rintro e w ⟨rfl, rfl⟩)
    refine (C14.out _ rfl).mono ?_
    rintro e w1 ⟨rfl, hb1⟩
    go_wp2_with fail
    refine (C16.out _ hb1).mono ?_
    rintro e w2 ⟨rfl, hb2⟩
    have HB : Hid (Below w.heap.size w w2) := hb1.trans (hb2.mono hb1.size)
    clear hb1 hb2
    go_upto_region 18 with (first | (go_at_call 17; refine (zzLetter_any _ _).mono ?_; rintro e w2 ⟨rfl, rfl⟩))
    go_cut [13] (fun v wx => v = .int .i64 0 ∧ wx = w2)
    case first =>
      go_wp2_with fail
      go_meet
      exact ⟨rfl, rfl⟩
    case rest =>
      obtain ⟨rfl, rfl⟩ := hcut
      go_wp2_with fail
      go_loop [13] (fun v => ∃ k : Nat, k ≤ n ∧ v = .int .i64 k) (fun v => n - (intOf v).toNat)
      case atStart => exact ⟨0, by omega, rfl⟩
      case round =>
        obtain ⟨k, hk, rfl⟩ := hrel
        by_cases hlt : k < n
        · have hks : k < s.size := by omega
          have hi := HA.out k hks hlt
          go_wp2_with (first | (go_at_call 18; refine (zzName_any _ _).mono ?_; rintro e w' ⟨rfl, rfl⟩))
          go_round
          case rel => first | exact ⟨k + 1, by omega, by go_num⟩ | (refine ⟨trivial, ?_⟩; (repeat apply Exists.intro); exact ⟨⟨k + 1, by omega, by go_num⟩, rfl⟩)
          case measure => simp [intOf]; omega
        · by_cases hns : n < s.size
          · have hi := HZ.out hns
            have ens : ((n : Int) == (s.size : Int)) = false := by rw [beq_eq_false_iff_ne]; omega
            go_wp2_with (first | (go_at_call 18; refine (zzName_any _ _).mono ?_; rintro e w' ⟨rfl, rfl⟩))
            go_ret
            exact ⟨rfl, HB.out⟩
          · have ens : ((n : Int) == (s.size : Int)) = true := by rw [beq_iff_eq]; omega
            go_wp2_with (first | (go_at_call 18; refine (zzName_any _ _).mono ?_; rintro e w' ⟨rfl, rfl⟩))
            go_ret
            exact ⟨rfl, HB.out⟩

set_option maxHeartbeats 2000000 in
set_option maxRecDepth 100000 in
theorem lawA_120s (s : ByteArray) (w : World) (hs : s.size ≤ 1048576) (h0 : 0 < s.size) (n : Nat) (hn1 : 1 ≤ n) (hn2 : n ≤ s.size) (HA : Hid (∀ k (h : k < s.size), k < n → idc s[k] = true)) (HZ : Hid (∀ h : n < s.size, idc s[n] = false))
    (C14 : Hid (∀ w0, w0 = w → Calls Tryf.prog 14 #[.string s] w0 fun e w' => e = .returned (.tuple #[.int .i64 (n : Nat), .int .i64 0, .string ⟨#[]⟩]) ∧ Below w.heap.size w w'))
    (C16 : Hid (∀ w0, Below w.heap.size w w0 → Calls Tryf.prog 16 #[.string s] w0 fun e w' => e = .returned (.tuple #[.int .i64 (n : Nat), .int .i64 0, .string ⟨#[]⟩]) ∧ Below w0.heap.size w0 w')) (he : Hid (s[0].toNat = 120)) (h1 : ¬ 1 < s.size) :
    Calls Tryf.prog 6 #[.string s] w fun e w' => e = .returned (.bool true) ∧ Below w.heap.size w w' := by
  have pl : ltr s[0] = true := by have := he.out; unfold ltr; simp; omega
  have t120 : ((s[0].toNat : Int) == 120) = true := by have := he.out; simp; omega
  have t239 : ((s[0].toNat : Int) == 239) = false := by have := he.out; simp; omega
  have ez : ((s.size : Int) == 0) = false := by rw [beq_eq_false_iff_ne]; omega
  have enn : ((n : Int) != (n : Int)) = false := by simp
  go_enter Tryf.func6, Tryf.ntmps6
  go_wp2_with (go_at_call 15; refine (bytes1_yes _ _ hs).mono ?_; rintro e w ⟨rfl, rfl⟩)
  refine (C14.out _ rfl).mono ?_
  rintro e w1 ⟨rfl, hb1⟩
  go_wp2_with fail
  refine (C16.out _ hb1).mono ?_
  rintro e w2 ⟨rfl, hb2⟩
  have HB : Hid (Below w.heap.size w w2) := hb1.trans (hb2.mono hb1.size)
  clear hb1 hb2
  go_upto_region 18 with (first | (go_at_call 17; refine (zzLetter_any _ _).mono ?_; rintro e w2 ⟨rfl, rfl⟩))
  go_cut [13] (fun v wx => v = .int .i64 0 ∧ wx = w2)
  case first =>
    go_wp2_with fail
    go_meet
    exact ⟨rfl, rfl⟩
  case rest =>
    obtain ⟨rfl, rfl⟩ := hcut
    go_wp2_with fail
    go_loop [13] (fun v => ∃ k : Nat, k ≤ n ∧ v = .int .i64 k) (fun v => n - (intOf v).toNat)
    case atStart => exact ⟨0, by omega, rfl⟩
    case round =>
      obtain ⟨k, hk, rfl⟩ := hrel
      by_cases hlt : k < n
      · have hks : k < s.size := by omega
        have hi := HA.out k hks hlt
        go_wp2_with (first | (go_at_call 18; refine (zzName_any _ _).mono ?_; rintro e w' ⟨rfl, rfl⟩))
        go_round
        case rel => first | exact ⟨k + 1, by omega, by go_num⟩ | (refine ⟨trivial, ?_⟩; (repeat apply Exists.intro); exact ⟨⟨k + 1, by omega, by go_num⟩, rfl⟩)
        case measure => simp [intOf]; omega
      · by_cases hns : n < s.size
        · have hi := HZ.out hns
          have ens : ((n : Int) == (s.size : Int)) = false := by rw [beq_eq_false_iff_ne]; omega
          go_wp2_with (first | (go_at_call 18; refine (zzName_any _ _).mono ?_; rintro e w' ⟨rfl, rfl⟩))
          go_ret
          exact ⟨rfl, HB.out⟩
        · have ens : ((n : Int) == (s.size : Int)) = true := by rw [beq_iff_eq]; omega
          go_wp2_with (first | (go_at_call 18; refine (zzName_any _ _).mono ?_; rintro e w' ⟨rfl, rfl⟩))
          go_ret
          exact ⟨rfl, HB.out⟩

set_option maxHeartbeats 2000000 in
set_option maxRecDepth 100000 in
theorem lawA_120n (s : ByteArray) (w : World) (hs : s.size ≤ 1048576) (h0 : 0 < s.size) (n : Nat) (hn1 : 1 ≤ n) (hn2 : n ≤ s.size) (HA : Hid (∀ k (h : k < s.size), k < n → idc s[k] = true)) (HZ : Hid (∀ h : n < s.size, idc s[n] = false))
    (C14 : Hid (∀ w0, w0 = w → Calls Tryf.prog 14 #[.string s] w0 fun e w' => e = .returned (.tuple #[.int .i64 (n : Nat), .int .i64 0, .string ⟨#[]⟩]) ∧ Below w.heap.size w w'))
    (C16 : Hid (∀ w0, Below w.heap.size w w0 → Calls Tryf.prog 16 #[.string s] w0 fun e w' => e = .returned (.tuple #[.int .i64 (n : Nat), .int .i64 0, .string ⟨#[]⟩]) ∧ Below w0.heap.size w0 w')) (he : Hid (s[0].toNat = 120)) (h1 : 1 < s.size) (hq : ((s[1].toNat : Int) == 39) = false) :
    Calls Tryf.prog 6 #[.string s] w fun e w' => e = .returned (.bool true) ∧ Below w.heap.size w w' := by
  have pl : ltr s[0] = true := by have := he.out; unfold ltr; simp; omega
  have t120 : ((s[0].toNat : Int) == 120) = true := by have := he.out; simp; omega
  have t239 : ((s[0].toNat : Int) == 239) = false := by have := he.out; simp; omega
  have ez : ((s.size : Int) == 0) = false := by rw [beq_eq_false_iff_ne]; omega
  have enn : ((n : Int) != (n : Int)) = false := by simp
  by_cases h3 : 3 ≤ s.size
  all_goals
    go_enter Tryf.func6, Tryf.ntmps6
    go_wp2_with (go_at_call 15; refine (bytes1_yes _ _ hs).mono ?_; rintro e w ⟨rfl, rfl⟩)
    refine (C14.out _ rfl).mono ?_
    rintro e w1 ⟨rfl, hb1⟩
    go_wp2_with fail
    refine (C16.out _ hb1).mono ?_
    rintro e w2 ⟨rfl, hb2⟩
    have HB : Hid (Below w.heap.size w w2) := hb1.trans (hb2.mono hb1.size)
    clear hb1 hb2
    go_upto_region 18 with (first | (go_at_call 17; refine (zzLetter_any _ _).mono ?_; rintro e w2 ⟨rfl, rfl⟩))
    go_cut [13] (fun v wx => v = .int .i64 0 ∧ wx = w2)
    case first =>
      go_wp2_with fail
      go_meet
      exact ⟨rfl, rfl⟩
    case rest =>
      obtain ⟨rfl, rfl⟩ := hcut
      go_wp2_with fail
      go_loop [13] (fun v => ∃ k : Nat, k ≤ n ∧ v = .int .i64 k) (fun v => n - (intOf v).toNat)
      case atStart => exact ⟨0, by omega, rfl⟩
      case round =>
        obtain ⟨k, hk, rfl⟩ := hrel
        by_cases hlt : k < n
        · have hks : k < s.size := by omega
          have hi := HA.out k hks hlt
          go_wp2_with (first | (go_at_call 18; refine (zzName_any _ _).mono ?_; rintro e w' ⟨rfl, rfl⟩))
          go_round
          case rel => first | exact ⟨k + 1, by omega, by go_num⟩ | (refine ⟨trivial, ?_⟩; (repeat apply Exists.intro); exact ⟨⟨k + 1, by omega, by go_num⟩, rfl⟩)
          case measure => simp [intOf]; omega
        · by_cases hns : n < s.size
          · have hi := HZ.out hns
            have ens : ((n : Int) == (s.size : Int)) = false := by rw [beq_eq_false_iff_ne]; omega
            go_wp2_with (first | (go_at_call 18; refine (zzName_any _ _).mono ?_; rintro e w' ⟨rfl, rfl⟩))
            go_ret
            exact ⟨rfl, HB.out⟩
          · have ens : ((n : Int) == (s.size : Int)) = true := by rw [beq_iff_eq]; omega
            go_wp2_with (first | (go_at_call 18; refine (zzName_any _ _).mono ?_; rintro e w' ⟨rfl, rfl⟩))
            go_ret
            exact ⟨rfl, HB.out⟩

set_option maxHeartbeats 2000000 in
set_option maxRecDepth 100000 in
theorem lawA_88s (s : ByteArray) (w : World) (hs : s.size ≤ 1048576) (h0 : 0 < s.size) (n : Nat) (hn1 : 1 ≤ n) (hn2 : n ≤ s.size) (HA : Hid (∀ k (h : k < s.size), k < n → idc s[k] = true)) (HZ : Hid (∀ h : n < s.size, idc s[n] = false))
    (C14 : Hid (∀ w0, w0 = w → Calls Tryf.prog 14 #[.string s] w0 fun e w' => e = .returned (.tuple #[.int .i64 (n : Nat), .int .i64 0, .string ⟨#[]⟩]) ∧ Below w.heap.size w w'))
    (C16 : Hid (∀ w0, Below w.heap.size w w0 → Calls Tryf.prog 16 #[.string s] w0 fun e w' => e = .returned (.tuple #[.int .i64 (n : Nat), .int .i64 0, .string ⟨#[]⟩]) ∧ Below w0.heap.size w0 w')) (he : Hid (s[0].toNat = 88)) (h1 : ¬ 1 < s.size) :
    Calls Tryf.prog 6 #[.string s] w fun e w' => e = .returned (.bool true) ∧ Below w.heap.size w w' := by
  have pl : ltr s[0] = true := by have := he.out; unfold ltr; simp; omega
  have t120 : ((s[0].toNat : Int) == 120) = false := by have := he.out; simp; omega
  have t88 : ((s[0].toNat : Int) == 88) = true := by have := he.out; simp; omega
  have t239 : ((s[0].toNat : Int) == 239) = false := by have := he.out; simp; omega
  have ez : ((s.size : Int) == 0) = false := by rw [beq_eq_false_iff_ne]; omega
  have enn : ((n : Int) != (n : Int)) = false := by simp
  go_enter Tryf.func6, Tryf.ntmps6
  go_wp2_with (go_at_call 15; refine (bytes1_yes _ _ hs).mono ?_; rintro e w ⟨rfl, rfl⟩)
  refine (C14.out _ rfl).mono ?_
  rintro e w1 ⟨rfl, hb1⟩
  go_wp2_with fail
  refine (C16.out _ hb1).mono ?_
  rintro e w2 ⟨rfl, hb2⟩
  have HB : Hid (Below w.heap.size w w2) := hb1.trans (hb2.mono hb1.size)
  clear hb1 hb2
  go_upto_region 18 with (first | (go_at_call 17; refine (zzLetter_any _ _).mono ?_; rintro e w2 ⟨rfl, rfl⟩))
  go_cut [13] (fun v wx => v = .int .i64 0 ∧ wx = w2)
  case first =>
    go_wp2_with fail
    go_meet
    exact ⟨rfl, rfl⟩
  case rest =>
    obtain ⟨rfl, rfl⟩ := hcut
    go_wp2_with fail
    go_loop [13] (fun v => ∃ k : Nat, k ≤ n ∧ v = .int .i64 k) (fun v => n - (intOf v).toNat)
    case atStart => exact ⟨0, by omega, rfl⟩
    case round =>
      obtain ⟨k, hk, rfl⟩ := hrel
      by_cases hlt : k < n
      · have hks : k < s.size := by omega
        have hi := HA.out k hks hlt
        go_wp2_with (first | (go_at_call 18; refine (zzName_any _ _).mono ?_; rintro e w' ⟨rfl, rfl⟩))
        go_round
        case rel => first | exact ⟨k + 1, by omega, by go_num⟩ | (refine ⟨trivial, ?_⟩; (repeat apply Exists.intro); exact ⟨⟨k + 1, by omega, by go_num⟩, rfl⟩)
        case measure => simp [intOf]; omega
      · by_cases hns : n < s.size
        · have hi := HZ.out hns
          have ens : ((n : Int) == (s.size : Int)) = false := by rw [beq_eq_false_iff_ne]; omega
          go_wp2_with (first | (go_at_call 18; refine (zzName_any _ _).mono ?_; rintro e w' ⟨rfl, rfl⟩))
          go_ret
          exact ⟨rfl, HB.out⟩
        · have ens : ((n : Int) == (s.size : Int)) = true := by rw [beq_iff_eq]; omega
          go_wp2_with (first | (go_at_call 18; refine (zzName_any _ _).mono ?_; rintro e w' ⟨rfl, rfl⟩))
          go_ret
          exact ⟨rfl, HB.out⟩

set_option maxHeartbeats 2000000 in
set_option maxRecDepth 100000 in
theorem lawA_88n (s : ByteArray) (w : World) (hs : s.size ≤ 1048576) (h0 : 0 < s.size) (n : Nat) (hn1 : 1 ≤ n) (hn2 : n ≤ s.size) (HA : Hid (∀ k (h : k < s.size), k < n → idc s[k] = true)) (HZ : Hid (∀ h : n < s.size, idc s[n] = false))
    (C14 : Hid (∀ w0, w0 = w → Calls Tryf.prog 14 #[.string s] w0 fun e w' => e = .returned (.tuple #[.int .i64 (n : Nat), .int .i64 0, .string ⟨#[]⟩]) ∧ Below w.heap.size w w'))
    (C16 : Hid (∀ w0, Below w.heap.size w w0 → Calls Tryf.prog 16 #[.string s] w0 fun e w' => e = .returned (.tuple #[.int .i64 (n : Nat), .int .i64 0, .string ⟨#[]⟩]) ∧ Below w0.heap.size w0 w')) (he : Hid (s[0].toNat = 88)) (h1 : 1 < s.size) (hq : ((s[1].toNat : Int) == 39) = false) :
    Calls Tryf.prog 6 #[.string s] w fun e w' => e = .returned (.bool true) ∧ Below w.heap.size w w' := by
  have pl : ltr s[0] = true := by have := he.out; unfold ltr; simp; omega
  have t120 : ((s[0].toNat : Int) == 120) = false := by have := he.out; simp; omega
  have t88 : ((s[0].toNat : Int) == 88) = true := by have := he.out; simp; omega
  have t239 : ((s[0].toNat : Int) == 239) = false := by have := he.out; simp; omega
  have ez : ((s.size : Int) == 0) = false := by rw [beq_eq_false_iff_ne]; omega
  have enn : ((n : Int) != (n : Int)) = false := by simp
  by_cases h3 : 3 ≤ s.size
  all_goals
    go_enter Tryf.func6, Tryf.ntmps6
    go_wp2_with (go_at_call 15; refine (bytes1_yes _ _ hs).mono ?_; rintro e w ⟨rfl, rfl⟩)
    refine (C14.out _ rfl).mono ?_
    rintro e w1 ⟨rfl, hb1⟩
    go_wp2_with fail
    refine (C16.out _ hb1).mono ?_
    rintro e w2 ⟨rfl, hb2⟩
    have HB : Hid (Below w.heap.size w w2) := hb1.trans (hb2.mono hb1.size)
    clear hb1 hb2
    go_upto_region 18 with (first | (go_at_call 17; refine (zzLetter_any _ _).mono ?_; rintro e w2 ⟨rfl, rfl⟩))
    go_cut [13] (fun v wx => v = .int .i64 0 ∧ wx = w2)
    case first =>
      go_wp2_with fail
      go_meet
      exact ⟨rfl, rfl⟩
    case rest =>
      obtain ⟨rfl, rfl⟩ := hcut
      go_wp2_with fail
      go_loop [13] (fun v => ∃ k : Nat, k ≤ n ∧ v = .int .i64 k) (fun v => n - (intOf v).toNat)
      case atStart => exact ⟨0, by omega, rfl⟩
      case round =>
        obtain ⟨k, hk, rfl⟩ := hrel
        by_cases hlt : k < n
        · have hks : k < s.size := by omega
          have hi := HA.out k hks hlt
          go_wp2_with (first | (go_at_call 18; refine (zzName_any _ _).mono ?_; rintro e w' ⟨rfl, rfl⟩))
          go_round
          case rel => first | exact ⟨k + 1, by omega, by go_num⟩ | (refine ⟨trivial, ?_⟩; (repeat apply Exists.intro); exact ⟨⟨k + 1, by omega, by go_num⟩, rfl⟩)
          case measure => simp [intOf]; omega
        · by_cases hns : n < s.size
          · have hi := HZ.out hns
            have ens : ((n : Int) == (s.size : Int)) = false := by rw [beq_eq_false_iff_ne]; omega
            go_wp2_with (first | (go_at_call 18; refine (zzName_any _ _).mono ?_; rintro e w' ⟨rfl, rfl⟩))
            go_ret
            exact ⟨rfl, HB.out⟩
          · have ens : ((n : Int) == (s.size : Int)) = true := by rw [beq_iff_eq]; omega
            go_wp2_with (first | (go_at_call 18; refine (zzName_any _ _).mono ?_; rintro e w' ⟨rfl, rfl⟩))
            go_ret
            exact ⟨rfl, HB.out⟩

set_option maxHeartbeats 2000000 in
set_option maxRecDepth 100000 in
theorem lawA_u (s : ByteArray) (w : World) (hs : s.size ≤ 1048576) (h0 : 0 < s.size) (n : Nat) (hn1 : 1 ≤ n) (hn2 : n ≤ s.size) (HA : Hid (∀ k (h : k < s.size), k < n → idc s[k] = true)) (HZ : Hid (∀ h : n < s.size, idc s[n] = false))
    (C14 : Hid (∀ w0, w0 = w → Calls Tryf.prog 14 #[.string s] w0 fun e w' => e = .returned (.tuple #[.int .i64 (n : Nat), .int .i64 0, .string ⟨#[]⟩]) ∧ Below w.heap.size w w'))
    (C16 : Hid (∀ w0, Below w.heap.size w w0 → Calls Tryf.prog 16 #[.string s] w0 fun e w' => e = .returned (.tuple #[.int .i64 (n : Nat), .int .i64 0, .string ⟨#[]⟩]) ∧ Below w0.heap.size w0 w')) (he : Hid (s[0].toNat = 95)) :
    Calls Tryf.prog 6 #[.string s] w fun e w' => e = .returned (.bool true) ∧ Below w.heap.size w w' := by
  have pl : ltr s[0] = false := by have := he.out; unfold ltr; simp; omega
  have t95 : ((s[0].toNat : Int) == 95) = true := by have := he.out; simp; omega
  have t120 : ((s[0].toNat : Int) == 120) = false := by have := he.out; simp; omega
  have t88 : ((s[0].toNat : Int) == 88) = false := by have := he.out; simp; omega
  have t239 : ((s[0].toNat : Int) == 239) = false := by have := he.out; simp; omega
  have ez : ((s.size : Int) == 0) = false := by rw [beq_eq_false_iff_ne]; omega
  have enn : ((n : Int) != (n : Int)) = false := by simp
  by_cases h3 : 3 ≤ s.size
  all_goals
    go_enter Tryf.func6, Tryf.ntmps6
    go_wp2_with (go_at_call 15; refine (bytes1_yes _ _ hs).mono ?_; rintro e w ⟨rfl, rfl⟩)
    refine (C14.out _ rfl).mono ?_
    rintro e w1 ⟨rfl, hb1⟩
    go_wp2_with fail
    refine (C16.out _ hb1).mono ?_
    rintro e w2 ⟨rfl, hb2⟩
    have HB : Hid (Below w.heap.size w w2) := hb1.trans (hb2.mono hb1.size)
    clear hb1 hb2
    go_upto_region 18 with (first | (go_at_call 17; refine (zzLetter_any _ _).mono ?_; rintro e w2 ⟨rfl, rfl⟩))
    go_cut [13] (fun v wx => v = .int .i64 0 ∧ wx = w2)
    case first =>
      go_wp2_with fail
      go_meet
      exact ⟨rfl, rfl⟩
    case rest =>
      obtain ⟨rfl, rfl⟩ := hcut
      go_wp2_with fail
      go_loop [13] (fun v => ∃ k : Nat, k ≤ n ∧ v = .int .i64 k) (fun v => n - (intOf v).toNat)
      case atStart => exact ⟨0, by omega, rfl⟩
      case round =>
        obtain ⟨k, hk, rfl⟩ := hrel
        by_cases hlt : k < n
        · have hks : k < s.size := by omega
          have hi := HA.out k hks hlt
          go_wp2_with (first | (go_at_call 18; refine (zzName_any _ _).mono ?_; rintro e w' ⟨rfl, rfl⟩))
          go_round
          case rel => first | exact ⟨k + 1, by omega, by go_num⟩ | (refine ⟨trivial, ?_⟩; (repeat apply Exists.intro); exact ⟨⟨k + 1, by omega, by go_num⟩, rfl⟩)
          case measure => simp [intOf]; omega
        · by_cases hns : n < s.size
          · have hi := HZ.out hns
            have ens : ((n : Int) == (s.size : Int)) = false := by rw [beq_eq_false_iff_ne]; omega
            go_wp2_with (first | (go_at_call 18; refine (zzName_any _ _).mono ?_; rintro e w' ⟨rfl, rfl⟩))
            go_ret
            exact ⟨rfl, HB.out⟩
          · have ens : ((n : Int) == (s.size : Int)) = true := by rw [beq_iff_eq]; omega
            go_wp2_with (first | (go_at_call 18; refine (zzName_any _ _).mono ?_; rintro e w' ⟨rfl, rfl⟩))
            go_ret
            exact ⟨rfl, HB.out⟩

set_option maxHeartbeats 2000000 in
set_option maxRecDepth 100000 in
theorem lawA_h (s : ByteArray) (w : World) (hs : s.size ≤ 1048576) (h0 : 0 < s.size) (n : Nat) (hn1 : 1 ≤ n) (hn2 : n ≤ s.size) (HA : Hid (∀ k (h : k < s.size), k < n → idc s[k] = true)) (HZ : Hid (∀ h : n < s.size, idc s[n] = false))
    (C14 : Hid (∀ w0, w0 = w → Calls Tryf.prog 14 #[.string s] w0 fun e w' => e = .returned (.tuple #[.int .i64 (n : Nat), .int .i64 0, .string ⟨#[]⟩]) ∧ Below w.heap.size w w'))
    (C16 : Hid (∀ w0, Below w.heap.size w w0 → Calls Tryf.prog 16 #[.string s] w0 fun e w' => e = .returned (.tuple #[.int .i64 (n : Nat), .int .i64 0, .string ⟨#[]⟩]) ∧ Below w0.heap.size w0 w')) (he : Hid (128 ≤ s[0].toNat ∧ s[0].toNat ≠ 239)) :
    Calls Tryf.prog 6 #[.string s] w fun e w' => e = .returned (.bool true) ∧ Below w.heap.size w w' := by
  have pl : ltr s[0] = false := by have := he.out; unfold ltr; simp; omega
  have t95 : ((s[0].toNat : Int) == 95) = false := by have := he.out; simp; omega
  have pg : (128 : Int) ≤ (s[0].toNat : Int) := by have := he.out; omega
  have t120 : ((s[0].toNat : Int) == 120) = false := by have := he.out; simp; omega
  have t88 : ((s[0].toNat : Int) == 88) = false := by have := he.out; simp; omega
  have t239 : ((s[0].toNat : Int) == 239) = false := by have := he.out; simp; omega
  have ez : ((s.size : Int) == 0) = false := by rw [beq_eq_false_iff_ne]; omega
  have enn : ((n : Int) != (n : Int)) = false := by simp
  by_cases h3 : 3 ≤ s.size
  all_goals
    go_enter Tryf.func6, Tryf.ntmps6
    go_wp2_with (go_at_call 15; refine (bytes1_yes _ _ hs).mono ?_; rintro e w ⟨rfl, rfl⟩)
    refine (C14.out _ rfl).mono ?_
    rintro e w1 ⟨rfl, hb1⟩
    go_wp2_with fail
    refine (C16.out _ hb1).mono ?_
    rintro e w2 ⟨rfl, hb2⟩
    have HB : Hid (Below w.heap.size w w2) := hb1.trans (hb2.mono hb1.size)
    clear hb1 hb2
    go_upto_region 18 with (first | (go_at_call 17; refine (zzLetter_any _ _).mono ?_; rintro e w2 ⟨rfl, rfl⟩))
    go_cut [13] (fun v wx => v = .int .i64 0 ∧ wx = w2)
    case first =>
      go_wp2_with fail
      go_meet
      exact ⟨rfl, rfl⟩
    case rest =>
      obtain ⟨rfl, rfl⟩ := hcut
      go_wp2_with fail
      go_loop [13] (fun v => ∃ k : Nat, k ≤ n ∧ v = .int .i64 k) (fun v => n - (intOf v).toNat)
      case atStart => exact ⟨0, by omega, rfl⟩
      case round =>
        obtain ⟨k, hk, rfl⟩ := hrel
        by_cases hlt : k < n
        · have hks : k < s.size := by omega
          have hi := HA.out k hks hlt
          go_wp2_with (first | (go_at_call 18; refine (zzName_any _ _).mono ?_; rintro e w' ⟨rfl, rfl⟩))
          go_round
          case rel => first | exact ⟨k + 1, by omega, by go_num⟩ | (refine ⟨trivial, ?_⟩; (repeat apply Exists.intro); exact ⟨⟨k + 1, by omega, by go_num⟩, rfl⟩)
          case measure => simp [intOf]; omega
        · by_cases hns : n < s.size
          · have hi := HZ.out hns
            have ens : ((n : Int) == (s.size : Int)) = false := by rw [beq_eq_false_iff_ne]; omega
            go_wp2_with (first | (go_at_call 18; refine (zzName_any _ _).mono ?_; rintro e w' ⟨rfl, rfl⟩))
            go_ret
            exact ⟨rfl, HB.out⟩
          · have ens : ((n : Int) == (s.size : Int)) = true := by rw [beq_iff_eq]; omega
            go_wp2_with (first | (go_at_call 18; refine (zzName_any _ _).mono ?_; rintro e w' ⟨rfl, rfl⟩))
            go_ret
            exact ⟨rfl, HB.out⟩

set_option maxHeartbeats 2000000 in
set_option maxRecDepth 100000 in
theorem lawA_ba (s : ByteArray) (w : World) (hs : s.size ≤ 1048576) (h0 : 0 < s.size) (n : Nat) (hn1 : 1 ≤ n) (hn2 : n ≤ s.size) (HA : Hid (∀ k (h : k < s.size), k < n → idc s[k] = true)) (HZ : Hid (∀ h : n < s.size, idc s[n] = false))
    (C14 : Hid (∀ w0, w0 = w → Calls Tryf.prog 14 #[.string s] w0 fun e w' => e = .returned (.tuple #[.int .i64 (n : Nat), .int .i64 0, .string ⟨#[]⟩]) ∧ Below w.heap.size w w'))
    (C16 : Hid (∀ w0, Below w.heap.size w w0 → Calls Tryf.prog 16 #[.string s] w0 fun e w' => e = .returned (.tuple #[.int .i64 (n : Nat), .int .i64 0, .string ⟨#[]⟩]) ∧ Below w0.heap.size w0 w')) (he : Hid (s[0].toNat = 239)) (h3 : ¬ 3 ≤ s.size) :
    Calls Tryf.prog 6 #[.string s] w fun e w' => e = .returned (.bool true) ∧ Below w.heap.size w w' := by
  have pl : ltr s[0] = false := by have := he.out; unfold ltr; simp; omega
  have t95 : ((s[0].toNat : Int) == 95) = false := by have := he.out; simp; omega
  have pg : (128 : Int) ≤ (s[0].toNat : Int) := by have := he.out; omega
  have t120 : ((s[0].toNat : Int) == 120) = false := by have := he.out; simp; omega
  have t88 : ((s[0].toNat : Int) == 88) = false := by have := he.out; simp; omega
  have t239 : ((s[0].toNat : Int) == 239) = true := by have := he.out; simp; omega
  have ez : ((s.size : Int) == 0) = false := by rw [beq_eq_false_iff_ne]; omega
  have enn : ((n : Int) != (n : Int)) = false := by simp
  go_enter Tryf.func6, Tryf.ntmps6
  go_wp2_with (go_at_call 15; refine (bytes1_yes _ _ hs).mono ?_; rintro e w ⟨rfl, rfl⟩)
  refine (C14.out _ rfl).mono ?_
  rintro e w1 ⟨rfl, hb1⟩
  go_wp2_with fail
  refine (C16.out _ hb1).mono ?_
  rintro e w2 ⟨rfl, hb2⟩
  have HB : Hid (Below w.heap.size w w2) := hb1.trans (hb2.mono hb1.size)
  clear hb1 hb2
  go_upto_region 18 with (first | (go_at_call 17; refine (zzLetter_any _ _).mono ?_; rintro e w2 ⟨rfl, rfl⟩))
  go_cut [13] (fun v wx => v = .int .i64 0 ∧ wx = w2)
  case first =>
    go_wp2_with fail
    go_meet
    exact ⟨rfl, rfl⟩
  case rest =>
    obtain ⟨rfl, rfl⟩ := hcut
    go_wp2_with fail
    go_loop [13] (fun v => ∃ k : Nat, k ≤ n ∧ v = .int .i64 k) (fun v => n - (intOf v).toNat)
    case atStart => exact ⟨0, by omega, rfl⟩
    case round =>
      obtain ⟨k, hk, rfl⟩ := hrel
      by_cases hlt : k < n
      · have hks : k < s.size := by omega
        have hi := HA.out k hks hlt
        go_wp2_with (first | (go_at_call 18; refine (zzName_any _ _).mono ?_; rintro e w' ⟨rfl, rfl⟩))
        go_round
        case rel => first | exact ⟨k + 1, by omega, by go_num⟩ | (refine ⟨trivial, ?_⟩; (repeat apply Exists.intro); exact ⟨⟨k + 1, by omega, by go_num⟩, rfl⟩)
        case measure => simp [intOf]; omega
      · by_cases hns : n < s.size
        · have hi := HZ.out hns
          have ens : ((n : Int) == (s.size : Int)) = false := by rw [beq_eq_false_iff_ne]; omega
          go_wp2_with (first | (go_at_call 18; refine (zzName_any _ _).mono ?_; rintro e w' ⟨rfl, rfl⟩))
          go_ret
          exact ⟨rfl, HB.out⟩
        · have ens : ((n : Int) == (s.size : Int)) = true := by rw [beq_iff_eq]; omega
          go_wp2_with (first | (go_at_call 18; refine (zzName_any _ _).mono ?_; rintro e w' ⟨rfl, rfl⟩))
          go_ret
          exact ⟨rfl, HB.out⟩

set_option maxHeartbeats 2000000 in
set_option maxRecDepth 100000 in
theorem lawA_bb (s : ByteArray) (w : World) (hs : s.size ≤ 1048576) (h0 : 0 < s.size) (n : Nat) (hn1 : 1 ≤ n) (hn2 : n ≤ s.size) (HA : Hid (∀ k (h : k < s.size), k < n → idc s[k] = true)) (HZ : Hid (∀ h : n < s.size, idc s[n] = false))
    (C14 : Hid (∀ w0, w0 = w → Calls Tryf.prog 14 #[.string s] w0 fun e w' => e = .returned (.tuple #[.int .i64 (n : Nat), .int .i64 0, .string ⟨#[]⟩]) ∧ Below w.heap.size w w'))
    (C16 : Hid (∀ w0, Below w.heap.size w w0 → Calls Tryf.prog 16 #[.string s] w0 fun e w' => e = .returned (.tuple #[.int .i64 (n : Nat), .int .i64 0, .string ⟨#[]⟩]) ∧ Below w0.heap.size w0 w')) (he : Hid (s[0].toNat = 239)) (h3 : 3 ≤ s.size) (q1 : ((s[1].toNat : Int) == 187) = false) :
    Calls Tryf.prog 6 #[.string s] w fun e w' => e = .returned (.bool true) ∧ Below w.heap.size w w' := by
  have pl : ltr s[0] = false := by have := he.out; unfold ltr; simp; omega
  have t95 : ((s[0].toNat : Int) == 95) = false := by have := he.out; simp; omega
  have pg : (128 : Int) ≤ (s[0].toNat : Int) := by have := he.out; omega
  have t120 : ((s[0].toNat : Int) == 120) = false := by have := he.out; simp; omega
  have t88 : ((s[0].toNat : Int) == 88) = false := by have := he.out; simp; omega
  have t239 : ((s[0].toNat : Int) == 239) = true := by have := he.out; simp; omega
  have ez : ((s.size : Int) == 0) = false := by rw [beq_eq_false_iff_ne]; omega
  have enn : ((n : Int) != (n : Int)) = false := by simp
  have d3 : decide ((3 : Int) ≤ (s.size : Int)) = true := by rw [decide_eq_true_eq]; omega
  go_enter Tryf.func6, Tryf.ntmps6
  go_wp2_with (go_at_call 15; refine (bytes1_yes _ _ hs).mono ?_; rintro e w ⟨rfl, rfl⟩)
  refine (C14.out _ rfl).mono ?_
  rintro e w1 ⟨rfl, hb1⟩
  go_wp2_with fail
  refine (C16.out _ hb1).mono ?_
  rintro e w2 ⟨rfl, hb2⟩
  have HB : Hid (Below w.heap.size w w2) := hb1.trans (hb2.mono hb1.size)
  clear hb1 hb2
  go_upto_region 18 with (first | (go_at_call 17; refine (zzLetter_any _ _).mono ?_; rintro e w2 ⟨rfl, rfl⟩))
  go_cut [13] (fun v wx => v = .int .i64 0 ∧ wx = w2)
  case first =>
    go_wp2_with fail
    go_meet
    exact ⟨rfl, rfl⟩
  case rest =>
    obtain ⟨rfl, rfl⟩ := hcut
    go_wp2_with fail
    go_loop [13] (fun v => ∃ k : Nat, k ≤ n ∧ v = .int .i64 k) (fun v => n - (intOf v).toNat)
    case atStart => exact ⟨0, by omega, rfl⟩
    case round =>
      obtain ⟨k, hk, rfl⟩ := hrel
      by_cases hlt : k < n
      · have hks : k < s.size := by omega
        have hi := HA.out k hks hlt
        go_wp2_with (first | (go_at_call 18; refine (zzName_any _ _).mono ?_; rintro e w' ⟨rfl, rfl⟩))
        go_round
        case rel => first | exact ⟨k + 1, by omega, by go_num⟩ | (refine ⟨trivial, ?_⟩; (repeat apply Exists.intro); exact ⟨⟨k + 1, by omega, by go_num⟩, rfl⟩)
        case measure => simp [intOf]; omega
      · by_cases hns : n < s.size
        · have hi := HZ.out hns
          have ens : ((n : Int) == (s.size : Int)) = false := by rw [beq_eq_false_iff_ne]; omega
          go_wp2_with (first | (go_at_call 18; refine (zzName_any _ _).mono ?_; rintro e w' ⟨rfl, rfl⟩))
          go_ret
          exact ⟨rfl, HB.out⟩
        · have ens : ((n : Int) == (s.size : Int)) = true := by rw [beq_iff_eq]; omega
          go_wp2_with (first | (go_at_call 18; refine (zzName_any _ _).mono ?_; rintro e w' ⟨rfl, rfl⟩))
          go_ret
          exact ⟨rfl, HB.out⟩

set_option maxHeartbeats 2000000 in
set_option maxRecDepth 100000 in
theorem lawA_bc (s : ByteArray) (w : World) (hs : s.size ≤ 1048576) (h0 : 0 < s.size) (n : Nat) (hn1 : 1 ≤ n) (hn2 : n ≤ s.size) (HA : Hid (∀ k (h : k < s.size), k < n → idc s[k] = true)) (HZ : Hid (∀ h : n < s.size, idc s[n] = false))
    (C14 : Hid (∀ w0, w0 = w → Calls Tryf.prog 14 #[.string s] w0 fun e w' => e = .returned (.tuple #[.int .i64 (n : Nat), .int .i64 0, .string ⟨#[]⟩]) ∧ Below w.heap.size w w'))
    (C16 : Hid (∀ w0, Below w.heap.size w w0 → Calls Tryf.prog 16 #[.string s] w0 fun e w' => e = .returned (.tuple #[.int .i64 (n : Nat), .int .i64 0, .string ⟨#[]⟩]) ∧ Below w0.heap.size w0 w')) (he : Hid (s[0].toNat = 239)) (h3 : 3 ≤ s.size) (q1 : ((s[1].toNat : Int) == 187) = true) (q2 : ((s[2].toNat : Int) == 191) = false) :
    Calls Tryf.prog 6 #[.string s] w fun e w' => e = .returned (.bool true) ∧ Below w.heap.size w w' := by
  have pl : ltr s[0] = false := by have := he.out; unfold ltr; simp; omega
  have t95 : ((s[0].toNat : Int) == 95) = false := by have := he.out; simp; omega
  have pg : (128 : Int) ≤ (s[0].toNat : Int) := by have := he.out; omega
  have t120 : ((s[0].toNat : Int) == 120) = false := by have := he.out; simp; omega
  have t88 : ((s[0].toNat : Int) == 88) = false := by have := he.out; simp; omega
  have t239 : ((s[0].toNat : Int) == 239) = true := by have := he.out; simp; omega
  have ez : ((s.size : Int) == 0) = false := by rw [beq_eq_false_iff_ne]; omega
  have enn : ((n : Int) != (n : Int)) = false := by simp
  have d3 : decide ((3 : Int) ≤ (s.size : Int)) = true := by rw [decide_eq_true_eq]; omega
  go_enter Tryf.func6, Tryf.ntmps6
  go_wp2_with (go_at_call 15; refine (bytes1_yes _ _ hs).mono ?_; rintro e w ⟨rfl, rfl⟩)
  refine (C14.out _ rfl).mono ?_
  rintro e w1 ⟨rfl, hb1⟩
  go_wp2_with fail
  refine (C16.out _ hb1).mono ?_
  rintro e w2 ⟨rfl, hb2⟩
  have HB : Hid (Below w.heap.size w w2) := hb1.trans (hb2.mono hb1.size)
  clear hb1 hb2
  go_upto_region 18 with (first | (go_at_call 17; refine (zzLetter_any _ _).mono ?_; rintro e w2 ⟨rfl, rfl⟩))
  go_cut [13] (fun v wx => v = .int .i64 0 ∧ wx = w2)
  case first =>
    go_wp2_with fail
    go_meet
    exact ⟨rfl, rfl⟩
  case rest =>
    obtain ⟨rfl, rfl⟩ := hcut
    go_wp2_with fail
    go_loop [13] (fun v => ∃ k : Nat, k ≤ n ∧ v = .int .i64 k) (fun v => n - (intOf v).toNat)
    case atStart => exact ⟨0, by omega, rfl⟩
    case round =>
      obtain ⟨k, hk, rfl⟩ := hrel
      by_cases hlt : k < n
      · have hks : k < s.size := by omega
        have hi := HA.out k hks hlt
        go_wp2_with (first | (go_at_call 18; refine (zzName_any _ _).mono ?_; rintro e w' ⟨rfl, rfl⟩))
        go_round
        case rel => first | exact ⟨k + 1, by omega, by go_num⟩ | (refine ⟨trivial, ?_⟩; (repeat apply Exists.intro); exact ⟨⟨k + 1, by omega, by go_num⟩, rfl⟩)
        case measure => simp [intOf]; omega
      · by_cases hns : n < s.size
        · have hi := HZ.out hns
          have ens : ((n : Int) == (s.size : Int)) = false := by rw [beq_eq_false_iff_ne]; omega
          go_wp2_with (first | (go_at_call 18; refine (zzName_any _ _).mono ?_; rintro e w' ⟨rfl, rfl⟩))
          go_ret
          exact ⟨rfl, HB.out⟩
        · have ens : ((n : Int) == (s.size : Int)) = true := by rw [beq_iff_eq]; omega
          go_wp2_with (first | (go_at_call 18; refine (zzName_any _ _).mono ?_; rintro e w' ⟨rfl, rfl⟩))
          go_ret
          exact ⟨rfl, HB.out⟩

end Go.Proofs.Qxb6613816aFmt.Tok
