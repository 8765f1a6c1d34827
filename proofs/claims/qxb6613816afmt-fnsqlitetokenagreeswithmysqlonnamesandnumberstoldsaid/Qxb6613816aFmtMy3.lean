/- The walk of the MySQL lexer's comment. -/
import Derived.Test.Qxb6613816aFmtMy2
import Derived.Laws.EntriesVeiled
namespace Go.Proofs.Qxb6613816aFmt.Tok
open Go.RowKit Go.Extern.Stop Go.Stop Go.Extern Go.Kit
set_option linter.unusedVariables false

set_option maxHeartbeats 400000 in
theorem every_any (b : Bool) (v : Int) (w : World) : Calls Tryf.prog 21 #[.bool b, .int .i64 v] w fun e w' => e = .returned (.int .i64 0) ∧ w' = w := by
  go_enter Tryf.func21, Tryf.ntmps21
  go_wp2
  go_ret
  exact ⟨rfl, rfl⟩

theorem allD_six (s : ByteArray) (n : Nat) (h : n + 5 < s.size) (h5 : allD (s.extract n (n + 5)).data.toList = true) (hd : dig s[n + 5] = true) : allD (s.extract n (n + 6)).data.toList = true := by
  rw [Lib.extract_data] at h5 ⊢
  have e1 : n + 6 - n = 5 + 1 := by omega
  have e2 : n + 5 - n = 5 := by omega
  rw [e2] at h5
  rw [e1, List.take_succ_eq_append_getElem (by rw [List.length_drop]; show 5 < s.size - n; omega)]
  unfold allD at *
  rw [List.all_append, h5]
  simp only [List.all_cons, List.all_nil, Bool.and_true, Bool.true_and, List.getElem_drop]
  exact hd

/-- what the lexer's struct holds. -/
structure Lex (w : World) (lb : Nat) : Prop where
  read : w.cell? ⟨lb, 0, none⟩ = some (.func (Fn.func 21) #[] #[])
  inside : w.cell? ⟨lb, 1, none⟩ = some (.bool false)
  free : w.frozen? ⟨lb, 1, none⟩ = false

theorem Lex.below {w w1 : World} {lb : Nat} (h : Lex w lb) (hb : Below w.heap.size w w1) : Lex w1 lb := by
  have hl : lb < w.heap.size := World.block_lt_of_cell? w ⟨lb, 0, none⟩ h.read
  exact ⟨by rw [hb.cell (p := ⟨lb, 0, none⟩) hl]; exact h.read, by rw [hb.cell (p := ⟨lb, 1, none⟩) hl]; exact h.inside, by rw [hb.frozen (p := ⟨lb, 1, none⟩) hl]; exact h.free⟩

set_option maxHeartbeats 1000000 in
set_option maxRecDepth 100000 in
theorem comment_plain (s : ByteArray) (w : World) (m : Int) (lb : Nat) (hs : s.size ≤ 1048576) (hm : w.cell? ⟨0, 0, none⟩ = some (.int .i64 m)) (h2 : 2 ≤ s.size)
    (p1 : Lib.hasPrefix s.data.toList [47, 42, 77, 33] = false) (p2 : Lib.hasPrefix s.data.toList [47, 42, 33] = false) :
    Calls Tryf.prog 43 #[.pointer (some ⟨lb, 0, none⟩), .string s] w fun e w' => Three e ∧ w' = w := by
  have HM : Hid (w.cell? ⟨0, 0, none⟩ = some (.int .i64 m)) := hm
  clear hm
  go_enter Tryf.func43, Tryf.ntmps43
  go_wp2_with (first | (go_at_call 31; refine (Tryf.strings_HasPrefix _ _ _).mono ?_; rintro e w' ⟨rfl, rfl⟩) | (go_at_call 54; refine (plainEnd_some s _ m hs h2 (by exact HM.out)).mono ?_; rintro e w' ⟨HQ, rfl⟩; obtain ⟨n, k, p, rfl⟩ := HQ))
  go_ret3
  exact ⟨⟨_, _, _, rfl⟩, rfl⟩

set_option maxHeartbeats 1000000 in
set_option maxRecDepth 100000 in
theorem comment_m (s : ByteArray) (w : World) (lb B : Nat) (hB : B ≤ lb) (hs : s.size ≤ 1048576) (hl : Lex w lb) (p1 : Lib.hasPrefix s.data.toList [47, 42, 77, 33] = true) :
    Calls Tryf.prog 43 #[.pointer (some ⟨lb, 0, none⟩), .string s] w fun e w' => Three e ∧ Below B w w' := by
  have hn : 4 ≤ s.size := hp_size s _ p1
  have hlt : lb < w.heap.size := World.block_lt_of_cell? w ⟨lb, 0, none⟩ hl.read
  have HL : Hid (Lex w lb) := hl
  have cr := hl.read
  have ci := hl.inside
  have cf := hl.free
  clear hl
  by_cases h5 : 4 + 5 ≤ s.size
  · rcases hd : allD (s.extract 4 9).data.toList with _ | _
    · have HD : Hid (allD (s.extract 4 9).data.toList = false) := hd
      clear hd
      go_enter Tryf.func43, Tryf.ntmps43
      go_wp2_with (first | (go_at_call 31; refine (Tryf.strings_HasPrefix _ _ _).mono ?_; rintro e w' ⟨rfl, rfl⟩) | (go_at_call 55; refine (allDigits_is _ _ false (by rw [ByteArray.size_extract]; omega) HD).mono ?_; rintro e w' ⟨rfl, rfl⟩) | (go_at_call 21; refine (every_any _ _ _).mono ?_; rintro e w' ⟨rfl, rfl⟩))
      go_ret3
      exact ⟨⟨_, _, _, rfl⟩, (Below.refl _ _).setCell hB _⟩

    · have HD : Hid (allD (s.extract 4 9).data.toList = true) := hd
      clear hd
      by_cases h6 : 4 + 5 < s.size
      · rcases hq : dig s[9] with _ | _
        · go_enter Tryf.func43, Tryf.ntmps43
          have HA : Hid (allD (s.extract 4 9).data.toList = true) := HD
          have hz : (s.extract 4 9).size = 5 := by rw [ByteArray.size_extract]; omega
          go_wp2_with (first | (go_at_call 31; refine (Tryf.strings_HasPrefix _ _ _).mono ?_; rintro e w' ⟨rfl, rfl⟩) | (go_at_call 55; refine (allDigits_is _ _ true (by rw [ByteArray.size_extract]; omega) HD).mono ?_; rintro e w' ⟨rfl, rfl⟩) | (go_at_call 34; refine (isDigit_any _ _).mono ?_; rintro e w' ⟨rfl, rfl⟩) | (go_at_call 56; refine (atoi_any _ _ (by omega) (by omega) HA).mono ?_; rintro e w1 ⟨⟨v, rfl⟩, hb1⟩; have L1 := HL.out.below hb1; have c1r := L1.read; have c1i := L1.inside; have c1f := L1.free; clear L1) | (go_at_call 21; refine (every_any _ _ _).mono ?_; rintro e w' ⟨rfl, rfl⟩))

          go_ret3
          exact ⟨⟨_, _, _, rfl⟩, ((hb1.mono (by omega)).setCell hB _)⟩

        · go_enter Tryf.func43, Tryf.ntmps43
          have HA : Hid (allD (s.extract 4 10).data.toList = true) := allD_six s 4 h6 HD.out hq
          have hz : (s.extract 4 10).size = 6 := by rw [ByteArray.size_extract]; omega
          go_wp2_with (first | (go_at_call 31; refine (Tryf.strings_HasPrefix _ _ _).mono ?_; rintro e w' ⟨rfl, rfl⟩) | (go_at_call 55; refine (allDigits_is _ _ true (by rw [ByteArray.size_extract]; omega) HD).mono ?_; rintro e w' ⟨rfl, rfl⟩) | (go_at_call 34; refine (isDigit_any _ _).mono ?_; rintro e w' ⟨rfl, rfl⟩) | (go_at_call 56; refine (atoi_any _ _ (by omega) (by omega) HA).mono ?_; rintro e w1 ⟨⟨v, rfl⟩, hb1⟩; have L1 := HL.out.below hb1; have c1r := L1.read; have c1i := L1.inside; have c1f := L1.free; clear L1) | (go_at_call 21; refine (every_any _ _ _).mono ?_; rintro e w' ⟨rfl, rfl⟩))

          go_ret3
          exact ⟨⟨_, _, _, rfl⟩, ((hb1.mono (by omega)).setCell hB _)⟩

      · go_enter Tryf.func43, Tryf.ntmps43
        have HA : Hid (allD (s.extract 4 9).data.toList = true) := HD
        have hz : (s.extract 4 9).size = 5 := by rw [ByteArray.size_extract]; omega
        go_wp2_with (first | (go_at_call 31; refine (Tryf.strings_HasPrefix _ _ _).mono ?_; rintro e w' ⟨rfl, rfl⟩) | (go_at_call 55; refine (allDigits_is _ _ true (by rw [ByteArray.size_extract]; omega) HD).mono ?_; rintro e w' ⟨rfl, rfl⟩) | (go_at_call 34; refine (isDigit_any _ _).mono ?_; rintro e w' ⟨rfl, rfl⟩) | (go_at_call 56; refine (atoi_any _ _ (by omega) (by omega) HA).mono ?_; rintro e w1 ⟨⟨v, rfl⟩, hb1⟩; have L1 := HL.out.below hb1; have c1r := L1.read; have c1i := L1.inside; have c1f := L1.free; clear L1) | (go_at_call 21; refine (every_any _ _ _).mono ?_; rintro e w' ⟨rfl, rfl⟩))

        go_ret3
        exact ⟨⟨_, _, _, rfl⟩, ((hb1.mono (by omega)).setCell hB _)⟩

  · go_enter Tryf.func43, Tryf.ntmps43
    go_wp2_with (first | (go_at_call 31; refine (Tryf.strings_HasPrefix _ _ _).mono ?_; rintro e w' ⟨rfl, rfl⟩) | (go_at_call 21; refine (every_any _ _ _).mono ?_; rintro e w' ⟨rfl, rfl⟩))
    go_ret3
    exact ⟨⟨_, _, _, rfl⟩, (Below.refl _ _).setCell hB _⟩


set_option maxHeartbeats 1000000 in
set_option maxRecDepth 100000 in
theorem comment_e (s : ByteArray) (w : World) (lb B : Nat) (hB : B ≤ lb) (hs : s.size ≤ 1048576) (hl : Lex w lb) (p1 : Lib.hasPrefix s.data.toList [47, 42, 77, 33] = false) (p2 : Lib.hasPrefix s.data.toList [47, 42, 33] = true) :
    Calls Tryf.prog 43 #[.pointer (some ⟨lb, 0, none⟩), .string s] w fun e w' => Three e ∧ Below B w w' := by
  have hn : 3 ≤ s.size := hp_size s _ p2
  have hlt : lb < w.heap.size := World.block_lt_of_cell? w ⟨lb, 0, none⟩ hl.read
  have HL : Hid (Lex w lb) := hl
  have cr := hl.read
  have ci := hl.inside
  have cf := hl.free
  clear hl
  by_cases h5 : 3 + 5 ≤ s.size
  · rcases hd : allD (s.extract 3 8).data.toList with _ | _
    · have HD : Hid (allD (s.extract 3 8).data.toList = false) := hd
      clear hd
      go_enter Tryf.func43, Tryf.ntmps43
      go_wp2_with (first | (go_at_call 31; refine (Tryf.strings_HasPrefix _ _ _).mono ?_; rintro e w' ⟨rfl, rfl⟩) | (go_at_call 55; refine (allDigits_is _ _ false (by rw [ByteArray.size_extract]; omega) HD).mono ?_; rintro e w' ⟨rfl, rfl⟩) | (go_at_call 21; refine (every_any _ _ _).mono ?_; rintro e w' ⟨rfl, rfl⟩))
      go_ret3
      exact ⟨⟨_, _, _, rfl⟩, (Below.refl _ _).setCell hB _⟩

    · have HD : Hid (allD (s.extract 3 8).data.toList = true) := hd
      clear hd
      by_cases h6 : 3 + 5 < s.size
      · rcases hq : dig s[8] with _ | _
        · go_enter Tryf.func43, Tryf.ntmps43
          have HA : Hid (allD (s.extract 3 8).data.toList = true) := HD
          have hz : (s.extract 3 8).size = 5 := by rw [ByteArray.size_extract]; omega
          go_wp2_with (first | (go_at_call 31; refine (Tryf.strings_HasPrefix _ _ _).mono ?_; rintro e w' ⟨rfl, rfl⟩) | (go_at_call 55; refine (allDigits_is _ _ true (by rw [ByteArray.size_extract]; omega) HD).mono ?_; rintro e w' ⟨rfl, rfl⟩) | (go_at_call 34; refine (isDigit_any _ _).mono ?_; rintro e w' ⟨rfl, rfl⟩) | (go_at_call 56; refine (atoi_any _ _ (by omega) (by omega) HA).mono ?_; rintro e w1 ⟨⟨v, rfl⟩, hb1⟩; have L1 := HL.out.below hb1; have c1r := L1.read; have c1i := L1.inside; have c1f := L1.free; clear L1) | (go_at_call 21; refine (every_any _ _ _).mono ?_; rintro e w' ⟨rfl, rfl⟩))

          go_ret3
          exact ⟨⟨_, _, _, rfl⟩, ((hb1.mono (by omega)).setCell hB _)⟩

        · go_enter Tryf.func43, Tryf.ntmps43
          have HA : Hid (allD (s.extract 3 9).data.toList = true) := allD_six s 3 h6 HD.out hq
          have hz : (s.extract 3 9).size = 6 := by rw [ByteArray.size_extract]; omega
          go_wp2_with (first | (go_at_call 31; refine (Tryf.strings_HasPrefix _ _ _).mono ?_; rintro e w' ⟨rfl, rfl⟩) | (go_at_call 55; refine (allDigits_is _ _ true (by rw [ByteArray.size_extract]; omega) HD).mono ?_; rintro e w' ⟨rfl, rfl⟩) | (go_at_call 34; refine (isDigit_any _ _).mono ?_; rintro e w' ⟨rfl, rfl⟩) | (go_at_call 56; refine (atoi_any _ _ (by omega) (by omega) HA).mono ?_; rintro e w1 ⟨⟨v, rfl⟩, hb1⟩; have L1 := HL.out.below hb1; have c1r := L1.read; have c1i := L1.inside; have c1f := L1.free; clear L1) | (go_at_call 21; refine (every_any _ _ _).mono ?_; rintro e w' ⟨rfl, rfl⟩))

          go_ret3
          exact ⟨⟨_, _, _, rfl⟩, ((hb1.mono (by omega)).setCell hB _)⟩

      · go_enter Tryf.func43, Tryf.ntmps43
        have HA : Hid (allD (s.extract 3 8).data.toList = true) := HD
        have hz : (s.extract 3 8).size = 5 := by rw [ByteArray.size_extract]; omega
        go_wp2_with (first | (go_at_call 31; refine (Tryf.strings_HasPrefix _ _ _).mono ?_; rintro e w' ⟨rfl, rfl⟩) | (go_at_call 55; refine (allDigits_is _ _ true (by rw [ByteArray.size_extract]; omega) HD).mono ?_; rintro e w' ⟨rfl, rfl⟩) | (go_at_call 34; refine (isDigit_any _ _).mono ?_; rintro e w' ⟨rfl, rfl⟩) | (go_at_call 56; refine (atoi_any _ _ (by omega) (by omega) HA).mono ?_; rintro e w1 ⟨⟨v, rfl⟩, hb1⟩; have L1 := HL.out.below hb1; have c1r := L1.read; have c1i := L1.inside; have c1f := L1.free; clear L1) | (go_at_call 21; refine (every_any _ _ _).mono ?_; rintro e w' ⟨rfl, rfl⟩))

        go_ret3
        exact ⟨⟨_, _, _, rfl⟩, ((hb1.mono (by omega)).setCell hB _)⟩

  · go_enter Tryf.func43, Tryf.ntmps43
    go_wp2_with (first | (go_at_call 31; refine (Tryf.strings_HasPrefix _ _ _).mono ?_; rintro e w' ⟨rfl, rfl⟩) | (go_at_call 21; refine (every_any _ _ _).mono ?_; rintro e w' ⟨rfl, rfl⟩))
    go_ret3
    exact ⟨⟨_, _, _, rfl⟩, (Below.refl _ _).setCell hB _⟩


theorem comment_some (s : ByteArray) (w : World) (m : Int) (lb B : Nat) (hB : B ≤ lb) (hs : s.size ≤ 1048576) (hl : Lex w lb) (hm : w.cell? ⟨0, 0, none⟩ = some (.int .i64 m)) (h2 : 2 ≤ s.size) :
    Calls Tryf.prog 43 #[.pointer (some ⟨lb, 0, none⟩), .string s] w fun e w' => Three e ∧ Below B w w' := by
  cases p1 : Lib.hasPrefix s.data.toList [47, 42, 77, 33] with
  | true => exact comment_m s w lb B hB hs hl p1
  | false =>
    cases p2 : Lib.hasPrefix s.data.toList [47, 42, 33] with
    | true => exact comment_e s w lb B hB hs hl p1 p2
    | false =>
      refine (comment_plain s w m lb hs hm h2 p1 p2).mono ?_
      rintro e w' ⟨h, rfl⟩
      exact ⟨h, Below.refl _ _⟩

end Go.Proofs.Qxb6613816aFmt.Tok
