/- The walk of the MySQL lexer's token. -/
import Derived.Test.Qxb6613816aFmtMy3
namespace Go.Proofs.Qxb6613816aFmt.Tok
open Go.RowKit Go.Extern.Stop Go.Stop Go.Extern Go.Kit
set_option linter.unusedVariables false

theorem msp_no {c : UInt8} (h : c.toNat ≠ 32 ∧ c.toNat ≠ 9 ∧ c.toNat ≠ 10 ∧ c.toNat ≠ 11 ∧ c.toNat ≠ 12 ∧ c.toNat ≠ 13) : Lib.indexByte [32, 9, 10, 11, 12, 13] c < 0 := by
  have := idx_contains [32, 9, 10, 11, 12, 13] c
  have e : ([32, 9, 10, 11, 12, 13] : List UInt8).contains c = false := by
    simp [← UInt8.toNat_inj]; omega
  rw [e] at this
  simp only [decide_eq_false_iff_not] at this; omega

def xB (c : UInt8) : Bool := decide (c.toNat = 120) || decide (c.toNat = 88) || decide (c.toNat = 98) || decide (c.toNat = 66)
theorem xB_contains : ∀ c : UInt8, (⟨#[120, 88, 98, 66]⟩ : ByteArray).data.toList.contains c = xB c := by
  intro c
  simp [xB, ← UInt8.toNat_inj, Bool.or_assoc]

set_option maxHeartbeats 1000000 in
set_option maxRecDepth 100000 in
theorem mtok_word (s : ByteArray) (w : World) (lb : Nat) (hs : s.size ≤ 1048576) (h0 : 0 < s.size) (hl : Lex w lb) (he : Hid ((97 ≤ s[0].toNat ∧ s[0].toNat ≤ 122) ∨ (65 ≤ s[0].toNat ∧ s[0].toNat ≤ 90) ∨ s[0].toNat = 95 ∨ s[0].toNat = 36 ∨ 128 ≤ s[0].toNat)) :
    Calls Tryf.prog 26 #[.pointer (some ⟨lb, 0, none⟩), .string s] w fun e w' => e = .returned (.tuple #[.int .i64 (run idc s.data.toList 1 : Nat), .int .i64 0, .string ⟨#[]⟩]) ∧ w' = w := by
  have ci := hl.inside
  clear hl
  have hx : Lib.indexByte [32, 9, 10, 11, 12, 13] s[0] < 0 := msp_no (by have := he.out; omega)
  have t35 : ((s[0].toNat : Int) == 35) = false := by have := he.out; simp; omega
  have p3 : Lib.hasPrefix s.data.toList [45, 45] = false := hp_head2 s h0 _ _ (by have := he.out; simp; omega)
  have p4 : Lib.hasPrefix s.data.toList [47, 42] = false := hp_head2 s h0 _ _ (by have := he.out; simp; omega)
  have t39 : ((s[0].toNat : Int) == 39) = false := by have := he.out; simp; omega
  have t34 : ((s[0].toNat : Int) == 34) = false := by have := he.out; simp; omega
  have t96 : ((s[0].toNat : Int) == 96) = false := by have := he.out; simp; omega
  have pd : dig s[0] = false := by have := he.out; unfold dig; simp; omega
  have t46 : ((s[0].toNat : Int) == 46) = false := by have := he.out; simp; omega
  have pi : idc s[0] = true := by have := he.out; unfold idc ltr; simp; omega
  go_enter Tryf.func26, Tryf.ntmps26
  go_wp2_with (first | (go_at_call 29; refine (Tryf.strings_IndexByte _ _ _).mono ?_; rintro e w' ⟨rfl, rfl⟩) | (go_at_call 31; refine (Tryf.strings_HasPrefix _ _ _).mono ?_; rintro e w' ⟨rfl, rfl⟩) | (go_at_call 34; refine (isDigit_any _ _).mono ?_; rintro e w' ⟨rfl, rfl⟩) | (go_at_call 41; refine (dash_no s _ p3).mono ?_; rintro e w' ⟨rfl, rfl⟩) | (go_at_call 47; refine (isIdent_any _ _).mono ?_; rintro e w' ⟨rfl, rfl⟩))
  go_loop [4] (fun v => ∃ k : Nat, k ≤ s.size ∧ v = .int .i64 k ∧ Hid (run idc s.data.toList 1 = run idc s.data.toList k)) (fun v => s.size - (intOf v).toNat)
  case atStart => exact ⟨1, h0, rfl, rfl⟩
  case round =>
    obtain ⟨k, hk, rfl, HR⟩ := hrel
    by_cases hlt : k < s.size
    · have HG : Hid (∀ p, isAt s.data.toList k p = p s[k]) := isAt_get s k hlt
      rcases hd : idc s[k] with _ | _
      · have HE : Hid (run idc s.data.toList 1 = k) := HR.out.trans (run_here (by rw [HG.out]; exact hd))
        go_wp2_with (first | (go_at_call 47; refine (isIdent_any _ _).mono ?_; rintro e w' ⟨rfl, rfl⟩))
        go_ret3
        exact ⟨by rw [HE.out]; rfl, rfl⟩
      · have HE : Hid (run idc s.data.toList k = run idc s.data.toList (k + 1)) := run_step (by rw [HG.out]; exact hd)
        go_wp2_with (first | (go_at_call 47; refine (isIdent_any _ _).mono ?_; rintro e w' ⟨rfl, rfl⟩))
        go_round
        case rel => exact ⟨k + 1, by omega, by go_num, HR.out.trans HE.out⟩
        case measure => simp [intOf]; omega
    · have HE : Hid (run idc s.data.toList 1 = k) := HR.out.trans (run_here (isAt_out s k hlt _))
      go_wp2_with (first | (go_at_call 47; refine (isIdent_any _ _).mono ?_; rintro e w' ⟨rfl, rfl⟩))
      go_ret3
      exact ⟨by rw [HE.out]; rfl, rfl⟩

set_option maxHeartbeats 1000000 in
set_option maxRecDepth 100000 in
theorem mtok_num_d (s : ByteArray) (w : World) (lb : Nat) (hs : s.size ≤ 1048576) (h0 : 0 < s.size) (hl : Lex w lb) (he : Hid (48 ≤ s[0].toNat ∧ s[0].toNat ≤ 57)) :
    Calls Tryf.prog 26 #[.pointer (some ⟨lb, 0, none⟩), .string s] w fun e w' => e = .returned (.tuple #[.int .i64 (numE xB s.data.toList : Nat), .int .i64 3, .string ⟨#[]⟩]) ∧ w' = w := by
  have ci := hl.inside
  clear hl
  have hx : Lib.indexByte [32, 9, 10, 11, 12, 13] s[0] < 0 := msp_no (by have := he.out; omega)
  have t35 : ((s[0].toNat : Int) == 35) = false := by have := he.out; simp; omega
  have p3 : Lib.hasPrefix s.data.toList [45, 45] = false := hp_head2 s h0 _ _ (by have := he.out; simp; omega)
  have p4 : Lib.hasPrefix s.data.toList [47, 42] = false := hp_head2 s h0 _ _ (by have := he.out; simp; omega)
  have t39 : ((s[0].toNat : Int) == 39) = false := by have := he.out; simp; omega
  have t34 : ((s[0].toNat : Int) == 34) = false := by have := he.out; simp; omega
  have t96 : ((s[0].toNat : Int) == 96) = false := by have := he.out; simp; omega
  have c46 : ∀ w, Calls Tryf.prog 46 #[.string s, .string ⟨#[120, 88, 98, 66]⟩] w fun e w' => e = .returned (.int .i64 (numE xB s.data.toList : Nat)) ∧ w' = w :=
    fun w => numEnd_any s ⟨#[120, 88, 98, 66]⟩ xB w hs xB_contains
  have C46 : Hid (∀ w, Calls Tryf.prog 46 #[.string s, .string ⟨#[120, 88, 98, 66]⟩] w fun e w' => e = .returned (.int .i64 (numE xB s.data.toList : Nat)) ∧ w' = w) := c46
  clear c46
  have pd : dig s[0] = true := by have := he.out; unfold dig; simp; omega
  go_enter Tryf.func26, Tryf.ntmps26
  go_wp2_with (first | (go_at_call 29; refine (Tryf.strings_IndexByte _ _ _).mono ?_; rintro e w' ⟨rfl, rfl⟩) | (go_at_call 31; refine (Tryf.strings_HasPrefix _ _ _).mono ?_; rintro e w' ⟨rfl, rfl⟩) | (go_at_call 34; refine (isDigit_any _ _).mono ?_; rintro e w' ⟨rfl, rfl⟩) | (go_at_call 41; refine (dash_no s _ p3).mono ?_; rintro e w' ⟨rfl, rfl⟩) | (go_at_call 46; refine (C46.out _).mono ?_; rintro e w' ⟨rfl, rfl⟩))
  go_ret3
  exact ⟨rfl, rfl⟩

set_option maxHeartbeats 1000000 in
set_option maxRecDepth 100000 in
theorem mtok_num_p (s : ByteArray) (w : World) (lb : Nat) (hs : s.size ≤ 1048576) (h0 : 0 < s.size) (hl : Lex w lb) (he : Hid (s[0].toNat = 46)) (h1 : 1 < s.size) (hd : dig s[1] = true) :
    Calls Tryf.prog 26 #[.pointer (some ⟨lb, 0, none⟩), .string s] w fun e w' => e = .returned (.tuple #[.int .i64 (numE xB s.data.toList : Nat), .int .i64 3, .string ⟨#[]⟩]) ∧ w' = w := by
  have ci := hl.inside
  clear hl
  have hx : Lib.indexByte [32, 9, 10, 11, 12, 13] s[0] < 0 := msp_no (by have := he.out; omega)
  have t35 : ((s[0].toNat : Int) == 35) = false := by have := he.out; simp; omega
  have p3 : Lib.hasPrefix s.data.toList [45, 45] = false := hp_head2 s h0 _ _ (by have := he.out; simp; omega)
  have p4 : Lib.hasPrefix s.data.toList [47, 42] = false := hp_head2 s h0 _ _ (by have := he.out; simp; omega)
  have t39 : ((s[0].toNat : Int) == 39) = false := by have := he.out; simp; omega
  have t34 : ((s[0].toNat : Int) == 34) = false := by have := he.out; simp; omega
  have t96 : ((s[0].toNat : Int) == 96) = false := by have := he.out; simp; omega
  have pd : dig s[0] = false := by have := he.out; unfold dig; simp; omega
  have c46 : ∀ w, Calls Tryf.prog 46 #[.string s, .string ⟨#[120, 88, 98, 66]⟩] w fun e w' => e = .returned (.int .i64 (numE xB s.data.toList : Nat)) ∧ w' = w :=
    fun w => numEnd_any s ⟨#[120, 88, 98, 66]⟩ xB w hs xB_contains
  have C46 : Hid (∀ w, Calls Tryf.prog 46 #[.string s, .string ⟨#[120, 88, 98, 66]⟩] w fun e w' => e = .returned (.int .i64 (numE xB s.data.toList : Nat)) ∧ w' = w) := c46
  clear c46
  have t46 : ((s[0].toNat : Int) == 46) = true := by have := he.out; simp; omega
  go_enter Tryf.func26, Tryf.ntmps26
  go_wp2_with (first | (go_at_call 29; refine (Tryf.strings_IndexByte _ _ _).mono ?_; rintro e w' ⟨rfl, rfl⟩) | (go_at_call 31; refine (Tryf.strings_HasPrefix _ _ _).mono ?_; rintro e w' ⟨rfl, rfl⟩) | (go_at_call 34; refine (isDigit_any _ _).mono ?_; rintro e w' ⟨rfl, rfl⟩) | (go_at_call 41; refine (dash_no s _ p3).mono ?_; rintro e w' ⟨rfl, rfl⟩) | (go_at_call 46; refine (C46.out _).mono ?_; rintro e w' ⟨rfl, rfl⟩))
  go_ret3
  exact ⟨rfl, rfl⟩

set_option maxHeartbeats 1000000 in
set_option maxRecDepth 100000 in
theorem many35 (F : Interp) (s : ByteArray) (w : World) (m : Int) (lb B : Nat) (hB : B ≤ lb) (hs : s.size ≤ 1048576) (h0 : 0 < s.size) (HF : Hid (F.answers w.tape)) (HM : Hid (w.cell? ⟨0, 0, none⟩ = some (.int .i64 m))) (HL : Hid (Lex w lb)) (t35 : ((s[0].toNat : Int) == 35) = true) :
    Calls Tryf.prog 26 #[.pointer (some ⟨lb, 0, none⟩), .string s] w fun e w' => Three e ∧ Below B w w' := by
  have hlt : lb < w.heap.size := World.block_lt_of_cell? w ⟨lb, 0, none⟩ HL.out.read
  have ci := HL.out.inside
  go_enter Tryf.func26, Tryf.ntmps26
  go_wp2_with (first | (go_at_call 29; refine (Tryf.strings_IndexByte _ _ _).mono ?_; rintro e w' ⟨rfl, rfl⟩) | (go_at_call 42; refine (lineEnd_some s _ hs).mono ?_; rintro e w' ⟨⟨n, rfl⟩, rfl⟩))
  all_goals
    go_ret3
    first | exact ⟨⟨_, _, _, rfl⟩, Below.refl _ _⟩ | exact ⟨⟨_, _, _, rfl⟩, hb1⟩ | exact ⟨⟨_, _, _, rfl⟩, hb1.mono (by omega)⟩

set_option maxHeartbeats 1000000 in
set_option maxRecDepth 100000 in
theorem manyC (F : Interp) (s : ByteArray) (w : World) (m : Int) (lb B : Nat) (hB : B ≤ lb) (hs : s.size ≤ 1048576) (h0 : 0 < s.size) (HF : Hid (F.answers w.tape)) (HM : Hid (w.cell? ⟨0, 0, none⟩ = some (.int .i64 m))) (HL : Hid (Lex w lb)) (t35 : ((s[0].toNat : Int) == 35) = false) (h2 : 2 ≤ s.size) (p4 : Lib.hasPrefix s.data.toList [47, 42] = true) :
    Calls Tryf.prog 26 #[.pointer (some ⟨lb, 0, none⟩), .string s] w fun e w' => Three e ∧ Below B w w' := by
  have hlt : lb < w.heap.size := World.block_lt_of_cell? w ⟨lb, 0, none⟩ HL.out.read
  have ci := HL.out.inside
  go_enter Tryf.func26, Tryf.ntmps26
  go_wp2_with (first | (go_at_call 29; refine (Tryf.strings_IndexByte _ _ _).mono ?_; rintro e w' ⟨rfl, rfl⟩) | (go_at_call 31; refine (Tryf.strings_HasPrefix _ _ _).mono ?_; rintro e w' ⟨rfl, rfl⟩) | (go_at_call 41; refine (dash_some s _ hs).mono ?_; rintro e w' ⟨HQ, rfl⟩; obtain ⟨b, rfl⟩ := HQ) | (go_at_call 42; refine (lineEnd_some s _ hs).mono ?_; rintro e w' ⟨⟨n, rfl⟩, rfl⟩) | (go_at_call 43; refine (comment_some s _ m lb B hB hs HL.out HM.out h2).mono ?_; rintro e w1 ⟨HQ, hb1⟩; obtain ⟨n, k, p, rfl⟩ := HQ))
  all_goals
    go_ret3
    first | exact ⟨⟨_, _, _, rfl⟩, Below.refl _ _⟩ | exact ⟨⟨_, _, _, rfl⟩, hb1⟩ | exact ⟨⟨_, _, _, rfl⟩, hb1.mono (by omega)⟩

set_option maxHeartbeats 1000000 in
set_option maxRecDepth 100000 in
theorem many39 (F : Interp) (s : ByteArray) (w : World) (m : Int) (lb B : Nat) (hB : B ≤ lb) (hs : s.size ≤ 1048576) (h0 : 0 < s.size) (HF : Hid (F.answers w.tape)) (HM : Hid (w.cell? ⟨0, 0, none⟩ = some (.int .i64 m))) (HL : Hid (Lex w lb)) (t35 : ((s[0].toNat : Int) == 35) = false) (p4 : Lib.hasPrefix s.data.toList [47, 42] = false) (t39 : ((s[0].toNat : Int) == 39) = true) :
    Calls Tryf.prog 26 #[.pointer (some ⟨lb, 0, none⟩), .string s] w fun e w' => Three e ∧ Below B w w' := by
  have hlt : lb < w.heap.size := World.block_lt_of_cell? w ⟨lb, 0, none⟩ HL.out.read
  have ci := HL.out.inside
  go_enter Tryf.func26, Tryf.ntmps26
  go_wp2_with (first | (go_at_call 29; refine (Tryf.strings_IndexByte _ _ _).mono ?_; rintro e w' ⟨rfl, rfl⟩) | (go_at_call 31; refine (Tryf.strings_HasPrefix _ _ _).mono ?_; rintro e w' ⟨rfl, rfl⟩) | (go_at_call 41; refine (dash_some s _ hs).mono ?_; rintro e w' ⟨HQ, rfl⟩; obtain ⟨b, rfl⟩ := HQ) | (go_at_call 42; refine (lineEnd_some s _ hs).mono ?_; rintro e w' ⟨⟨n, rfl⟩, rfl⟩) | (go_at_call 44; refine (myString_some s _ hs h0).mono ?_; rintro e w' ⟨HQ, rfl⟩; obtain ⟨n, k, p, rfl⟩ := HQ))
  all_goals
    go_ret3
    first | exact ⟨⟨_, _, _, rfl⟩, Below.refl _ _⟩ | exact ⟨⟨_, _, _, rfl⟩, hb1⟩ | exact ⟨⟨_, _, _, rfl⟩, hb1.mono (by omega)⟩

set_option maxHeartbeats 1000000 in
set_option maxRecDepth 100000 in
theorem many34 (F : Interp) (s : ByteArray) (w : World) (m : Int) (lb B : Nat) (hB : B ≤ lb) (hs : s.size ≤ 1048576) (h0 : 0 < s.size) (HF : Hid (F.answers w.tape)) (HM : Hid (w.cell? ⟨0, 0, none⟩ = some (.int .i64 m))) (HL : Hid (Lex w lb)) (t35 : ((s[0].toNat : Int) == 35) = false) (p4 : Lib.hasPrefix s.data.toList [47, 42] = false) (t39 : ((s[0].toNat : Int) == 39) = false) (t34 : ((s[0].toNat : Int) == 34) = true) :
    Calls Tryf.prog 26 #[.pointer (some ⟨lb, 0, none⟩), .string s] w fun e w' => Three e ∧ Below B w w' := by
  have hlt : lb < w.heap.size := World.block_lt_of_cell? w ⟨lb, 0, none⟩ HL.out.read
  have ci := HL.out.inside
  go_enter Tryf.func26, Tryf.ntmps26
  go_wp2_with (first | (go_at_call 29; refine (Tryf.strings_IndexByte _ _ _).mono ?_; rintro e w' ⟨rfl, rfl⟩) | (go_at_call 31; refine (Tryf.strings_HasPrefix _ _ _).mono ?_; rintro e w' ⟨rfl, rfl⟩) | (go_at_call 41; refine (dash_some s _ hs).mono ?_; rintro e w' ⟨HQ, rfl⟩; obtain ⟨b, rfl⟩ := HQ) | (go_at_call 42; refine (lineEnd_some s _ hs).mono ?_; rintro e w' ⟨⟨n, rfl⟩, rfl⟩) | (go_at_call 44; refine (myString_some s _ hs h0).mono ?_; rintro e w' ⟨HQ, rfl⟩; obtain ⟨n, k, p, rfl⟩ := HQ))
  all_goals
    go_ret3
    first | exact ⟨⟨_, _, _, rfl⟩, Below.refl _ _⟩ | exact ⟨⟨_, _, _, rfl⟩, hb1⟩ | exact ⟨⟨_, _, _, rfl⟩, hb1.mono (by omega)⟩

set_option maxHeartbeats 1000000 in
set_option maxRecDepth 100000 in
theorem many96 (F : Interp) (s : ByteArray) (w : World) (m : Int) (lb B : Nat) (hB : B ≤ lb) (hs : s.size ≤ 1048576) (h0 : 0 < s.size) (HF : Hid (F.answers w.tape)) (HM : Hid (w.cell? ⟨0, 0, none⟩ = some (.int .i64 m))) (HL : Hid (Lex w lb)) (t35 : ((s[0].toNat : Int) == 35) = false) (p4 : Lib.hasPrefix s.data.toList [47, 42] = false) (t39 : ((s[0].toNat : Int) == 39) = false) (t34 : ((s[0].toNat : Int) == 34) = false) (t96 : ((s[0].toNat : Int) == 96) = true) :
    Calls Tryf.prog 26 #[.pointer (some ⟨lb, 0, none⟩), .string s] w fun e w' => Three e ∧ Below B w w' := by
  have hlt : lb < w.heap.size := World.block_lt_of_cell? w ⟨lb, 0, none⟩ HL.out.read
  have ci := HL.out.inside
  go_enter Tryf.func26, Tryf.ntmps26
  go_wp2_with (first | (go_at_call 29; refine (Tryf.strings_IndexByte _ _ _).mono ?_; rintro e w' ⟨rfl, rfl⟩) | (go_at_call 31; refine (Tryf.strings_HasPrefix _ _ _).mono ?_; rintro e w' ⟨rfl, rfl⟩) | (go_at_call 41; refine (dash_some s _ hs).mono ?_; rintro e w' ⟨HQ, rfl⟩; obtain ⟨b, rfl⟩ := HQ) | (go_at_call 42; refine (lineEnd_some s _ hs).mono ?_; rintro e w' ⟨⟨n, rfl⟩, rfl⟩) | (go_at_call 45; refine (myQuoted_some s _ hs h0).mono ?_; rintro e w' ⟨HQ, rfl⟩; obtain ⟨n, k, p, rfl⟩ := HQ))
  all_goals
    go_ret3
    first | exact ⟨⟨_, _, _, rfl⟩, Below.refl _ _⟩ | exact ⟨⟨_, _, _, rfl⟩, hb1⟩ | exact ⟨⟨_, _, _, rfl⟩, hb1.mono (by omega)⟩

set_option maxHeartbeats 1000000 in
set_option maxRecDepth 100000 in
theorem manyO (F : Interp) (s : ByteArray) (w : World) (m : Int) (lb B : Nat) (hB : B ≤ lb) (hs : s.size ≤ 1048576) (h0 : 0 < s.size) (HF : Hid (F.answers w.tape)) (HM : Hid (w.cell? ⟨0, 0, none⟩ = some (.int .i64 m))) (HL : Hid (Lex w lb)) (t35 : ((s[0].toNat : Int) == 35) = false) (p4 : Lib.hasPrefix s.data.toList [47, 42] = false) (t39 : ((s[0].toNat : Int) == 39) = false) (t34 : ((s[0].toNat : Int) == 34) = false) (t96 : ((s[0].toNat : Int) == 96) = false) (pd : dig s[0] = false) (pi : idc s[0] = false) (t46 : ((s[0].toNat : Int) == 46) = false) :
    Calls Tryf.prog 26 #[.pointer (some ⟨lb, 0, none⟩), .string s] w fun e w' => Three e ∧ Below B w w' := by
  have hlt : lb < w.heap.size := World.block_lt_of_cell? w ⟨lb, 0, none⟩ HL.out.read
  have ci := HL.out.inside
  go_enter Tryf.func26, Tryf.ntmps26
  go_wp2_with (first | (go_at_call 29; refine (Tryf.strings_IndexByte _ _ _).mono ?_; rintro e w' ⟨rfl, rfl⟩) | (go_at_call 31; refine (Tryf.strings_HasPrefix _ _ _).mono ?_; rintro e w' ⟨rfl, rfl⟩) | (go_at_call 41; refine (dash_some s _ hs).mono ?_; rintro e w' ⟨HQ, rfl⟩; obtain ⟨b, rfl⟩ := HQ) | (go_at_call 42; refine (lineEnd_some s _ hs).mono ?_; rintro e w' ⟨⟨n, rfl⟩, rfl⟩) | (go_at_call 34; refine (isDigit_any _ _).mono ?_; rintro e w' ⟨rfl, rfl⟩) | (go_at_call 47; refine (isIdent_any _ _).mono ?_; rintro e w' ⟨rfl, rfl⟩) | (go_at_call 48; refine (notSQL_any F _ _ (by exact HF.out)).mono ?_; rintro e w1 ⟨rfl, hb1⟩))
  all_goals
    go_ret3
    first | exact ⟨⟨_, _, _, rfl⟩, Below.refl _ _⟩ | exact ⟨⟨_, _, _, rfl⟩, hb1⟩ | exact ⟨⟨_, _, _, rfl⟩, hb1.mono (by omega)⟩

set_option maxHeartbeats 1000000 in
set_option maxRecDepth 100000 in
theorem manyPa (F : Interp) (s : ByteArray) (w : World) (m : Int) (lb B : Nat) (hB : B ≤ lb) (hs : s.size ≤ 1048576) (h0 : 0 < s.size) (HF : Hid (F.answers w.tape)) (HM : Hid (w.cell? ⟨0, 0, none⟩ = some (.int .i64 m))) (HL : Hid (Lex w lb)) (t35 : ((s[0].toNat : Int) == 35) = false) (p4 : Lib.hasPrefix s.data.toList [47, 42] = false) (t39 : ((s[0].toNat : Int) == 39) = false) (t34 : ((s[0].toNat : Int) == 34) = false) (t96 : ((s[0].toNat : Int) == 96) = false) (pd : dig s[0] = false) (pi : idc s[0] = false) (t46 : ((s[0].toNat : Int) == 46) = true) (h1 : ¬ 1 < s.size) :
    Calls Tryf.prog 26 #[.pointer (some ⟨lb, 0, none⟩), .string s] w fun e w' => Three e ∧ Below B w w' := by
  have hlt : lb < w.heap.size := World.block_lt_of_cell? w ⟨lb, 0, none⟩ HL.out.read
  have ci := HL.out.inside
  go_enter Tryf.func26, Tryf.ntmps26
  go_wp2_with (first | (go_at_call 29; refine (Tryf.strings_IndexByte _ _ _).mono ?_; rintro e w' ⟨rfl, rfl⟩) | (go_at_call 31; refine (Tryf.strings_HasPrefix _ _ _).mono ?_; rintro e w' ⟨rfl, rfl⟩) | (go_at_call 41; refine (dash_some s _ hs).mono ?_; rintro e w' ⟨HQ, rfl⟩; obtain ⟨b, rfl⟩ := HQ) | (go_at_call 42; refine (lineEnd_some s _ hs).mono ?_; rintro e w' ⟨⟨n, rfl⟩, rfl⟩) | (go_at_call 34; refine (isDigit_any _ _).mono ?_; rintro e w' ⟨rfl, rfl⟩) | (go_at_call 47; refine (isIdent_any _ _).mono ?_; rintro e w' ⟨rfl, rfl⟩) | (go_at_call 48; refine (notSQL_any F _ _ (by exact HF.out)).mono ?_; rintro e w1 ⟨rfl, hb1⟩))
  all_goals
    go_ret3
    first | exact ⟨⟨_, _, _, rfl⟩, Below.refl _ _⟩ | exact ⟨⟨_, _, _, rfl⟩, hb1⟩ | exact ⟨⟨_, _, _, rfl⟩, hb1.mono (by omega)⟩

set_option maxHeartbeats 1000000 in
set_option maxRecDepth 100000 in
theorem manyPb (F : Interp) (s : ByteArray) (w : World) (m : Int) (lb B : Nat) (hB : B ≤ lb) (hs : s.size ≤ 1048576) (h0 : 0 < s.size) (HF : Hid (F.answers w.tape)) (HM : Hid (w.cell? ⟨0, 0, none⟩ = some (.int .i64 m))) (HL : Hid (Lex w lb)) (t35 : ((s[0].toNat : Int) == 35) = false) (p4 : Lib.hasPrefix s.data.toList [47, 42] = false) (t39 : ((s[0].toNat : Int) == 39) = false) (t34 : ((s[0].toNat : Int) == 34) = false) (t96 : ((s[0].toNat : Int) == 96) = false) (pd : dig s[0] = false) (pi : idc s[0] = false) (t46 : ((s[0].toNat : Int) == 46) = true) (h1 : 1 < s.size) (hd : dig s[1] = false) :
    Calls Tryf.prog 26 #[.pointer (some ⟨lb, 0, none⟩), .string s] w fun e w' => Three e ∧ Below B w w' := by
  have hlt : lb < w.heap.size := World.block_lt_of_cell? w ⟨lb, 0, none⟩ HL.out.read
  have ci := HL.out.inside
  go_enter Tryf.func26, Tryf.ntmps26
  go_wp2_with (first | (go_at_call 29; refine (Tryf.strings_IndexByte _ _ _).mono ?_; rintro e w' ⟨rfl, rfl⟩) | (go_at_call 31; refine (Tryf.strings_HasPrefix _ _ _).mono ?_; rintro e w' ⟨rfl, rfl⟩) | (go_at_call 41; refine (dash_some s _ hs).mono ?_; rintro e w' ⟨HQ, rfl⟩; obtain ⟨b, rfl⟩ := HQ) | (go_at_call 42; refine (lineEnd_some s _ hs).mono ?_; rintro e w' ⟨⟨n, rfl⟩, rfl⟩) | (go_at_call 34; refine (isDigit_any _ _).mono ?_; rintro e w' ⟨rfl, rfl⟩) | (go_at_call 47; refine (isIdent_any _ _).mono ?_; rintro e w' ⟨rfl, rfl⟩) | (go_at_call 48; refine (notSQL_any F _ _ (by exact HF.out)).mono ?_; rintro e w1 ⟨rfl, hb1⟩))
  all_goals
    go_ret3
    first | exact ⟨⟨_, _, _, rfl⟩, Below.refl _ _⟩ | exact ⟨⟨_, _, _, rfl⟩, hb1⟩ | exact ⟨⟨_, _, _, rfl⟩, hb1.mono (by omega)⟩

end Go.Proofs.Qxb6613816aFmt.Tok
