/- The walk of FnSqliteTokenAgreesWithMysqlOnNamesAndNumbers: numbers that SQLite refuses. -/
import Derived.Test.Qxb6613816aFmtMy6
namespace Go.Proofs.Qxb6613816aFmt.Tok
open Go.RowKit Go.Extern.Stop Go.Stop Go.Extern Go.Kit
set_option linter.unusedVariables false

set_option maxHeartbeats 2000000 in
set_option maxRecDepth 100000 in
theorem lawC_d (s : ByteArray) (w : World) (hs : s.size ≤ 1048576) (h0 : 0 < s.size) (n : Nat) (hn1 : 1 ≤ n) (hn2 : n < s.size) (hi : idc s[n] = true)
    (C14 : Hid (∀ w0, w0 = w → Calls Tryf.prog 14 #[.string s] w0 fun e w' => ∃ p : ByteArray, p.toList.isEmpty = false ∧ e = .returned (.tuple #[.int .i64 0, .int .i64 0, .string p]) ∧ Below w.heap.size w w'))
    (C16 : Hid (∀ w0, Below w.heap.size w w0 → Calls Tryf.prog 16 #[.string s] w0 fun e w' => e = .returned (.tuple #[.int .i64 (n : Nat), .int .i64 3, .string ⟨#[]⟩]) ∧ Below w0.heap.size w0 w')) (he : Hid (48 ≤ s[0].toNat ∧ s[0].toNat ≤ 57)) :
    Calls Tryf.prog 6 #[.string s] w fun e w' => e = .returned (.bool true) ∧ Below w.heap.size w w' := by
  have pl : ltr s[0] = false := by have := he.out; unfold ltr; simp; omega
  have t95 : ((s[0].toNat : Int) == 95) = false := by have := he.out; simp; omega
  have pg : (s[0].toNat : Int) < 128 := by have := he.out; omega
  have t120 : ((s[0].toNat : Int) == 120) = false := by have := he.out; simp; omega
  have t88 : ((s[0].toNat : Int) == 88) = false := by have := he.out; simp; omega
  have t239 : ((s[0].toNat : Int) == 239) = false := by have := he.out; simp; omega
  have pd : dig s[0] = true := by have := he.out; unfold dig; simp; omega
  have ez : ((s.size : Int) == 0) = false := by rw [beq_eq_false_iff_ne]; omega
  by_cases h3 : 3 ≤ s.size
  all_goals
    go_enter Tryf.func6, Tryf.ntmps6
    go_wp2_with (go_at_call 15; refine (bytes1_yes _ _ hs).mono ?_; rintro e w ⟨rfl, rfl⟩)
    refine (C14.out _ rfl).mono ?_
    rintro e w1 ⟨p, hp, rfl, hb1⟩
    go_wp2_with fail
    refine (C16.out _ hb1).mono ?_
    rintro e w2 ⟨rfl, hb2⟩
    have HB : Hid (Below w.heap.size w w2) := hb1.trans (hb2.mono hb1.size)
    clear hb1 hb2
    go_upto_region 32 with (first | (go_at_call 17; refine (zzLetter_any _ _).mono ?_; rintro e w2 ⟨rfl, rfl⟩) | (go_at_call 19; refine (zzDigit_any _ _).mono ?_; rintro e w2 ⟨rfl, rfl⟩))
    go_cut [15] (fun v wx => (∃ b : Bool, v = .bool b) ∧ wx = w2)
    case first =>
      by_cases hz : 2 < s.size
      · first
          | (exfalso; omega)
          | (rcases q0 : ((s[0].toNat : Int) == 48) with _ | _
             · go_wp2_with fail
               go_meet
               first | exact ⟨⟨_, rfl⟩, rfl⟩ | exact ⟨.inl rfl, rfl⟩ | exact ⟨.inr rfl, rfl⟩
             · rcases q1 : ((s[1].toNat : Int) == 98) with _ | _ <;> rcases q2 : ((s[1].toNat : Int) == 66) with _ | _
               all_goals
                 go_wp2_with fail
                 go_meet
                 first | exact ⟨⟨_, rfl⟩, rfl⟩ | exact ⟨.inl rfl, rfl⟩ | exact ⟨.inr rfl, rfl⟩)
      · first
          | (exfalso; omega)
          | (go_wp2_with fail
             go_meet
             first | exact ⟨⟨_, rfl⟩, rfl⟩ | exact ⟨.inl rfl, rfl⟩ | exact ⟨.inr rfl, rfl⟩)
    case rest =>
      obtain ⟨hv, rfl⟩ := hcut
      obtain ⟨b, rfl⟩ := hv
      go_wp2_with (first | (go_at_call 18; refine (zzName_any _ _).mono ?_; rintro e w' ⟨rfl, rfl⟩))
      go_ret
      exact ⟨rfl, HB.out⟩

set_option maxHeartbeats 2000000 in
set_option maxRecDepth 100000 in
theorem lawC_p (s : ByteArray) (w : World) (hs : s.size ≤ 1048576) (h0 : 0 < s.size) (n : Nat) (hn1 : 1 ≤ n) (hn2 : n < s.size) (hi : idc s[n] = true)
    (C14 : Hid (∀ w0, w0 = w → Calls Tryf.prog 14 #[.string s] w0 fun e w' => ∃ p : ByteArray, p.toList.isEmpty = false ∧ e = .returned (.tuple #[.int .i64 0, .int .i64 0, .string p]) ∧ Below w.heap.size w w'))
    (C16 : Hid (∀ w0, Below w.heap.size w w0 → Calls Tryf.prog 16 #[.string s] w0 fun e w' => e = .returned (.tuple #[.int .i64 (n : Nat), .int .i64 3, .string ⟨#[]⟩]) ∧ Below w0.heap.size w0 w')) (he : Hid (s[0].toNat = 46)) (h1 : 1 < s.size) (hd : dig s[1] = true) :
    Calls Tryf.prog 6 #[.string s] w fun e w' => e = .returned (.bool true) ∧ Below w.heap.size w w' := by
  have pl : ltr s[0] = false := by have := he.out; unfold ltr; simp; omega
  have t95 : ((s[0].toNat : Int) == 95) = false := by have := he.out; simp; omega
  have pg : (s[0].toNat : Int) < 128 := by have := he.out; omega
  have t120 : ((s[0].toNat : Int) == 120) = false := by have := he.out; simp; omega
  have t88 : ((s[0].toNat : Int) == 88) = false := by have := he.out; simp; omega
  have t239 : ((s[0].toNat : Int) == 239) = false := by have := he.out; simp; omega
  have pd : dig s[0] = false := by have := he.out; unfold dig; simp; omega
  have t46 : ((s[0].toNat : Int) == 46) = true := by have := he.out; simp; omega
  have ez : ((s.size : Int) == 0) = false := by rw [beq_eq_false_iff_ne]; omega
  by_cases h3 : 3 ≤ s.size
  all_goals
    go_enter Tryf.func6, Tryf.ntmps6
    go_wp2_with (go_at_call 15; refine (bytes1_yes _ _ hs).mono ?_; rintro e w ⟨rfl, rfl⟩)
    refine (C14.out _ rfl).mono ?_
    rintro e w1 ⟨p, hp, rfl, hb1⟩
    go_wp2_with fail
    refine (C16.out _ hb1).mono ?_
    rintro e w2 ⟨rfl, hb2⟩
    have HB : Hid (Below w.heap.size w w2) := hb1.trans (hb2.mono hb1.size)
    clear hb1 hb2
    go_upto_region 32 with (first | (go_at_call 17; refine (zzLetter_any _ _).mono ?_; rintro e w2 ⟨rfl, rfl⟩) | (go_at_call 19; refine (zzDigit_any _ _).mono ?_; rintro e w2 ⟨rfl, rfl⟩))
    go_cut [15] (fun v wx => (∃ b : Bool, v = .bool b) ∧ wx = w2)
    case first =>
      by_cases hz : 2 < s.size
      · first
          | (exfalso; omega)
          | (rcases q0 : ((s[0].toNat : Int) == 48) with _ | _
             · go_wp2_with fail
               go_meet
               first | exact ⟨⟨_, rfl⟩, rfl⟩ | exact ⟨.inl rfl, rfl⟩ | exact ⟨.inr rfl, rfl⟩
             · rcases q1 : ((s[1].toNat : Int) == 98) with _ | _ <;> rcases q2 : ((s[1].toNat : Int) == 66) with _ | _
               all_goals
                 go_wp2_with fail
                 go_meet
                 first | exact ⟨⟨_, rfl⟩, rfl⟩ | exact ⟨.inl rfl, rfl⟩ | exact ⟨.inr rfl, rfl⟩)
      · first
          | (exfalso; omega)
          | (go_wp2_with fail
             go_meet
             first | exact ⟨⟨_, rfl⟩, rfl⟩ | exact ⟨.inl rfl, rfl⟩ | exact ⟨.inr rfl, rfl⟩)
    case rest =>
      obtain ⟨hv, rfl⟩ := hcut
      obtain ⟨b, rfl⟩ := hv
      go_wp2_with (first | (go_at_call 18; refine (zzName_any _ _).mono ?_; rintro e w' ⟨rfl, rfl⟩))
      go_ret
      exact ⟨rfl, HB.out⟩

end Go.Proofs.Qxb6613816aFmt.Tok
