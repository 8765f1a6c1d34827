/- The walk of sqliteToken: its last branch, and the whole. -/
import Derived.Test.Qxb6613816aFmtWk8
namespace Go.Proofs.Qxb6613816aFmt.Tok
open Go.RowKit Go.Extern.Stop Go.Stop Go.Extern Go.Kit
set_option linter.unusedVariables false

set_option maxHeartbeats 1000000 in
set_option maxRecDepth 100000 in
theorem tok12_s (F : Interp) (s : ByteArray) (w : World) (hF : F.answers w.tape) (HNE : Hid (∀ c : UInt8, 0 < (FmtStop.textOf (F "fmt.Sprintf" (asked c.toNat) 0)).size)) (h0 : 0 < s.size) (he : Hid (s[0].toNat = 47)) (p4 : Lib.hasPrefix s.data.toList [47, 42] = true) (h2 : ¬ 2 < s.size) :
    Calls Tryf.prog 25 #[.string s] w fun e w' => Said (ops s.data.toList) e ∧ Below w.heap.size w w' := by
  have hx : Lib.indexByte [32, 9, 10, 12, 13] s[0] < 0 := spc_no (by have := he.out; unfold spc; simp; omega)
  have p2 : Lib.hasPrefix s.data.toList [239, 187, 191] = false := hp_head3 s h0 _ _ _ (by have := he.out; simp; omega)
  have p3 : Lib.hasPrefix s.data.toList [45, 45] = false := hp_head2 s h0 _ _ (by have := he.out; simp; omega)
  have t39 : ((s[0].toNat : Int) == 39) = false := by have := he.out; simp; omega
  have t34 : ((s[0].toNat : Int) == 34) = false := by have := he.out; simp; omega
  have t96 : ((s[0].toNat : Int) == 96) = false := by have := he.out; simp; omega
  have t91 : ((s[0].toNat : Int) == 91) = false := by have := he.out; simp; omega
  have pd : dig s[0] = false := by have := he.out; unfold dig; simp; omega
  have t46 : ((s[0].toNat : Int) == 46) = false := by have := he.out; simp; omega
  have t63 : ((s[0].toNat : Int) == 63) = false := by have := he.out; simp; omega
  have t36 : ((s[0].toNat : Int) == 36) = false := by have := he.out; simp; omega
  have t64 : ((s[0].toNat : Int) == 64) = false := by have := he.out; simp; omega
  have t35 : ((s[0].toNat : Int) == 35) = false := by have := he.out; simp; omega
  have t58 : ((s[0].toNat : Int) == 58) = false := by have := he.out; simp; omega
  have t120 : ((s[0].toNat : Int) == 120) = false := by have := he.out; simp; omega
  have t88 : ((s[0].toNat : Int) == 88) = false := by have := he.out; simp; omega
  have pl : ltr s[0] = false := by have := he.out; unfold ltr; simp; omega
  have t95 : ((s[0].toNat : Int) == 95) = false := by have := he.out; simp; omega
  have pg : (s[0].toNat : Int) < 128 := by have := he.out; omega
  go_enter Tryf.func25, Tryf.ntmps25
  go_wp2_with (first | (go_at_call 29; refine (Tryf.strings_IndexByte _ _ _).mono ?_; rintro e w' ⟨rfl, rfl⟩) | (go_at_call 31; refine (Tryf.strings_HasPrefix _ _ _).mono ?_; rintro e w' ⟨rfl, rfl⟩) | (go_at_call 34; refine (isDigit_any _ _).mono ?_; rintro e w' ⟨rfl, rfl⟩) | (go_at_call 38; refine (isLetter_any _ _).mono ?_; rintro e w' ⟨rfl, rfl⟩) | (go_at_call 40; refine (operator_any F s _ (by exact hF) HNE.out h0).mono ?_; rintro e w' ⟨HQ, hb⟩; obtain ⟨n, k, p, rfl, HP⟩ := HQ))
  go_ret3
  exact ⟨⟨n, k, p, rfl, HP⟩, hb⟩

set_option maxHeartbeats 1000000 in
set_option maxRecDepth 100000 in
theorem tok12_pa (F : Interp) (s : ByteArray) (w : World) (hF : F.answers w.tape) (HNE : Hid (∀ c : UInt8, 0 < (FmtStop.textOf (F "fmt.Sprintf" (asked c.toNat) 0)).size)) (h0 : 0 < s.size) (he : Hid (s[0].toNat = 46)) (h1 : ¬ 1 < s.size) :
    Calls Tryf.prog 25 #[.string s] w fun e w' => Said (ops s.data.toList) e ∧ Below w.heap.size w w' := by
  have hx : Lib.indexByte [32, 9, 10, 12, 13] s[0] < 0 := spc_no (by have := he.out; unfold spc; simp; omega)
  have p2 : Lib.hasPrefix s.data.toList [239, 187, 191] = false := hp_head3 s h0 _ _ _ (by have := he.out; simp; omega)
  have p3 : Lib.hasPrefix s.data.toList [45, 45] = false := hp_head2 s h0 _ _ (by have := he.out; simp; omega)
  have p4 : Lib.hasPrefix s.data.toList [47, 42] = false := hp_head2 s h0 _ _ (by have := he.out; simp; omega)
  have t39 : ((s[0].toNat : Int) == 39) = false := by have := he.out; simp; omega
  have t34 : ((s[0].toNat : Int) == 34) = false := by have := he.out; simp; omega
  have t96 : ((s[0].toNat : Int) == 96) = false := by have := he.out; simp; omega
  have t91 : ((s[0].toNat : Int) == 91) = false := by have := he.out; simp; omega
  have pd : dig s[0] = false := by have := he.out; unfold dig; simp; omega
  have t63 : ((s[0].toNat : Int) == 63) = false := by have := he.out; simp; omega
  have t36 : ((s[0].toNat : Int) == 36) = false := by have := he.out; simp; omega
  have t64 : ((s[0].toNat : Int) == 64) = false := by have := he.out; simp; omega
  have t35 : ((s[0].toNat : Int) == 35) = false := by have := he.out; simp; omega
  have t58 : ((s[0].toNat : Int) == 58) = false := by have := he.out; simp; omega
  have t120 : ((s[0].toNat : Int) == 120) = false := by have := he.out; simp; omega
  have t88 : ((s[0].toNat : Int) == 88) = false := by have := he.out; simp; omega
  have pl : ltr s[0] = false := by have := he.out; unfold ltr; simp; omega
  have t95 : ((s[0].toNat : Int) == 95) = false := by have := he.out; simp; omega
  have pg : (s[0].toNat : Int) < 128 := by have := he.out; omega
  have t46 : ((s[0].toNat : Int) == 46) = true := by have := he.out; simp; omega
  go_enter Tryf.func25, Tryf.ntmps25
  go_wp2_with (first | (go_at_call 29; refine (Tryf.strings_IndexByte _ _ _).mono ?_; rintro e w' ⟨rfl, rfl⟩) | (go_at_call 31; refine (Tryf.strings_HasPrefix _ _ _).mono ?_; rintro e w' ⟨rfl, rfl⟩) | (go_at_call 34; refine (isDigit_any _ _).mono ?_; rintro e w' ⟨rfl, rfl⟩) | (go_at_call 38; refine (isLetter_any _ _).mono ?_; rintro e w' ⟨rfl, rfl⟩) | (go_at_call 40; refine (operator_any F s _ (by exact hF) HNE.out h0).mono ?_; rintro e w' ⟨HQ, hb⟩; obtain ⟨n, k, p, rfl, HP⟩ := HQ))
  go_ret3
  exact ⟨⟨n, k, p, rfl, HP⟩, hb⟩

set_option maxHeartbeats 1000000 in
set_option maxRecDepth 100000 in
theorem tok12_pb (F : Interp) (s : ByteArray) (w : World) (hF : F.answers w.tape) (HNE : Hid (∀ c : UInt8, 0 < (FmtStop.textOf (F "fmt.Sprintf" (asked c.toNat) 0)).size)) (h0 : 0 < s.size) (he : Hid (s[0].toNat = 46)) (h1 : 1 < s.size) (hd : dig s[1] = false) :
    Calls Tryf.prog 25 #[.string s] w fun e w' => Said (ops s.data.toList) e ∧ Below w.heap.size w w' := by
  have hx : Lib.indexByte [32, 9, 10, 12, 13] s[0] < 0 := spc_no (by have := he.out; unfold spc; simp; omega)
  have p2 : Lib.hasPrefix s.data.toList [239, 187, 191] = false := hp_head3 s h0 _ _ _ (by have := he.out; simp; omega)
  have p3 : Lib.hasPrefix s.data.toList [45, 45] = false := hp_head2 s h0 _ _ (by have := he.out; simp; omega)
  have p4 : Lib.hasPrefix s.data.toList [47, 42] = false := hp_head2 s h0 _ _ (by have := he.out; simp; omega)
  have t39 : ((s[0].toNat : Int) == 39) = false := by have := he.out; simp; omega
  have t34 : ((s[0].toNat : Int) == 34) = false := by have := he.out; simp; omega
  have t96 : ((s[0].toNat : Int) == 96) = false := by have := he.out; simp; omega
  have t91 : ((s[0].toNat : Int) == 91) = false := by have := he.out; simp; omega
  have pd : dig s[0] = false := by have := he.out; unfold dig; simp; omega
  have t63 : ((s[0].toNat : Int) == 63) = false := by have := he.out; simp; omega
  have t36 : ((s[0].toNat : Int) == 36) = false := by have := he.out; simp; omega
  have t64 : ((s[0].toNat : Int) == 64) = false := by have := he.out; simp; omega
  have t35 : ((s[0].toNat : Int) == 35) = false := by have := he.out; simp; omega
  have t58 : ((s[0].toNat : Int) == 58) = false := by have := he.out; simp; omega
  have t120 : ((s[0].toNat : Int) == 120) = false := by have := he.out; simp; omega
  have t88 : ((s[0].toNat : Int) == 88) = false := by have := he.out; simp; omega
  have pl : ltr s[0] = false := by have := he.out; unfold ltr; simp; omega
  have t95 : ((s[0].toNat : Int) == 95) = false := by have := he.out; simp; omega
  have pg : (s[0].toNat : Int) < 128 := by have := he.out; omega
  have t46 : ((s[0].toNat : Int) == 46) = true := by have := he.out; simp; omega
  go_enter Tryf.func25, Tryf.ntmps25
  go_wp2_with (first | (go_at_call 29; refine (Tryf.strings_IndexByte _ _ _).mono ?_; rintro e w' ⟨rfl, rfl⟩) | (go_at_call 31; refine (Tryf.strings_HasPrefix _ _ _).mono ?_; rintro e w' ⟨rfl, rfl⟩) | (go_at_call 34; refine (isDigit_any _ _).mono ?_; rintro e w' ⟨rfl, rfl⟩) | (go_at_call 38; refine (isLetter_any _ _).mono ?_; rintro e w' ⟨rfl, rfl⟩) | (go_at_call 40; refine (operator_any F s _ (by exact hF) HNE.out h0).mono ?_; rintro e w' ⟨HQ, hb⟩; obtain ⟨n, k, p, rfl, HP⟩ := HQ))
  go_ret3
  exact ⟨⟨n, k, p, rfl, HP⟩, hb⟩

set_option maxHeartbeats 1000000 in
set_option maxRecDepth 100000 in
theorem tok12_o (F : Interp) (s : ByteArray) (w : World) (hF : F.answers w.tape) (HNE : Hid (∀ c : UInt8, 0 < (FmtStop.textOf (F "fmt.Sprintf" (asked c.toNat) 0)).size)) (h0 : 0 < s.size) (he : Hid (s[0].toNat ≠ 32 ∧ s[0].toNat ≠ 9 ∧ s[0].toNat ≠ 10 ∧ s[0].toNat ≠ 12 ∧ s[0].toNat ≠ 13 ∧ s[0].toNat ≠ 39 ∧ s[0].toNat ≠ 34 ∧ s[0].toNat ≠ 96 ∧ s[0].toNat ≠ 91 ∧ s[0].toNat ≠ 46 ∧ s[0].toNat ≠ 63 ∧ s[0].toNat ≠ 36 ∧ s[0].toNat ≠ 64 ∧ s[0].toNat ≠ 35 ∧ s[0].toNat ≠ 58 ∧ s[0].toNat ≠ 95 ∧ ¬ (48 ≤ s[0].toNat ∧ s[0].toNat ≤ 57) ∧ ¬ (97 ≤ s[0].toNat ∧ s[0].toNat ≤ 122) ∧ ¬ (65 ≤ s[0].toNat ∧ s[0].toNat ≤ 90) ∧ s[0].toNat < 128)) (p3 : Lib.hasPrefix s.data.toList [45, 45] = false) (p4 : Lib.hasPrefix s.data.toList [47, 42] = false) :
    Calls Tryf.prog 25 #[.string s] w fun e w' => Said (ops s.data.toList) e ∧ Below w.heap.size w w' := by
  have hx : Lib.indexByte [32, 9, 10, 12, 13] s[0] < 0 := spc_no (by have := he.out; unfold spc; simp; omega)
  have p2 : Lib.hasPrefix s.data.toList [239, 187, 191] = false := hp_head3 s h0 _ _ _ (by have := he.out; simp; omega)
  have t39 : ((s[0].toNat : Int) == 39) = false := by have := he.out; simp; omega
  have t34 : ((s[0].toNat : Int) == 34) = false := by have := he.out; simp; omega
  have t96 : ((s[0].toNat : Int) == 96) = false := by have := he.out; simp; omega
  have t91 : ((s[0].toNat : Int) == 91) = false := by have := he.out; simp; omega
  have pd : dig s[0] = false := by have := he.out; unfold dig; simp; omega
  have t46 : ((s[0].toNat : Int) == 46) = false := by have := he.out; simp; omega
  have t63 : ((s[0].toNat : Int) == 63) = false := by have := he.out; simp; omega
  have t36 : ((s[0].toNat : Int) == 36) = false := by have := he.out; simp; omega
  have t64 : ((s[0].toNat : Int) == 64) = false := by have := he.out; simp; omega
  have t35 : ((s[0].toNat : Int) == 35) = false := by have := he.out; simp; omega
  have t58 : ((s[0].toNat : Int) == 58) = false := by have := he.out; simp; omega
  have t120 : ((s[0].toNat : Int) == 120) = false := by have := he.out; simp; omega
  have t88 : ((s[0].toNat : Int) == 88) = false := by have := he.out; simp; omega
  have pl : ltr s[0] = false := by have := he.out; unfold ltr; simp; omega
  have t95 : ((s[0].toNat : Int) == 95) = false := by have := he.out; simp; omega
  have pg : (s[0].toNat : Int) < 128 := by have := he.out; omega
  go_enter Tryf.func25, Tryf.ntmps25
  go_wp2_with (first | (go_at_call 29; refine (Tryf.strings_IndexByte _ _ _).mono ?_; rintro e w' ⟨rfl, rfl⟩) | (go_at_call 31; refine (Tryf.strings_HasPrefix _ _ _).mono ?_; rintro e w' ⟨rfl, rfl⟩) | (go_at_call 34; refine (isDigit_any _ _).mono ?_; rintro e w' ⟨rfl, rfl⟩) | (go_at_call 38; refine (isLetter_any _ _).mono ?_; rintro e w' ⟨rfl, rfl⟩) | (go_at_call 40; refine (operator_any F s _ (by exact hF) HNE.out h0).mono ?_; rintro e w' ⟨HQ, hb⟩; obtain ⟨n, k, p, rfl, HP⟩ := HQ))
  go_ret3
  exact ⟨⟨n, k, p, rfl, HP⟩, hb⟩

/-- a branch that leaves the world as it was. -/
theorem same_end {s : ByteArray} {w : World} {o : Option (Nat × Nat)} (h : Calls Tryf.prog 25 #[.string s] w fun e w' => Said o e ∧ w' = w) (ho : sqT s.data.toList = o) :
    Calls Tryf.prog 25 #[.string s] w fun e w' => Said (sqT s.data.toList) e ∧ Below w.heap.size w w' := by
  refine h.mono ?_
  rintro e w' ⟨h1, rfl⟩
  exact ⟨by rw [ho]; exact h1, Below.refl _ _⟩

theorem eqlF {c : UInt8} {n : Nat} (h : c.toNat ≠ n) : eql n c = false := by unfold eql; simp [h]
theorem eqlT {c : UInt8} {n : Nat} (h : c.toNat = n) : eql n c = true := by unfold eql; simp [h]

/-- ████ sqliteToken ████ -/
theorem token_any (F : Interp) (s : ByteArray) (w : World) (m : Int) (hF : F.answers w.tape) (HNE : Hid (∀ c : UInt8, 0 < (FmtStop.textOf (F "fmt.Sprintf" (asked c.toNat) 0)).size))
    (hm : w.cell? ⟨0, 0, none⟩ = some (.int .i64 m)) (hs : s.size ≤ 1048576) (h0 : 0 < s.size) :
    Calls Tryf.prog 25 #[.string s] w fun e w' => Said (sqT s.data.toList) e ∧ Below w.heap.size w w' := by
  have A0 : ∀ p, isAt s.data.toList 0 p = p s[0] := isAt_get s 0 h0
  have nf : ∀ {b : Bool}, ¬ b = true → b = false := fun {b} h => by simpa using h
  by_cases e1 : spc s[0] = true
  · exact same_end (tok1 s w hs h0 e1) (by unfold sqT g1; rw [A0, if_pos e1])
  have f1 : ¬ g1 s.data.toList = true := by unfold g1; rw [A0]; exact e1
  by_cases e2 : g2 s.data.toList = true
  · exact same_end (tok2 s w hs h0 (nf e1) e2) (by unfold sqT; rw [if_neg f1, if_pos e2])
  by_cases e3 : g3 s.data.toList = true
  · exact same_end (tok3 s w hs h0 (nf e1) (nf e2) e3) (by unfold sqT; rw [if_neg f1, if_neg e2, if_pos e3])
  by_cases e4 : g4 s.data.toList = true
  · have e4' := e4
    simp only [g4, Bool.and_eq_true] at e4'
    have h2 : 2 < s.size := isAt_lt e4'.2
    exact same_end (tok4 s w hs h0 m hm (nf e1) (nf e2) (nf e3) e4'.1 h2) (by unfold sqT; rw [if_neg f1, if_neg e2, if_neg e3, if_pos e4])
  have f14 : sqT s.data.toList = if g5 s.data.toList then b5 s.data.toList else if g6 s.data.toList then b6 s.data.toList else if g7 s.data.toList then b7 s.data.toList
      else if g8 s.data.toList then some (run dig s.data.toList 1, 3) else if g9 s.data.toList then b9 s.data.toList else if g10 s.data.toList then b10 s.data.toList
      else if g11 s.data.toList then some (run idc s.data.toList 1, 0) else ops s.data.toList := by
    unfold sqT; rw [if_neg f1, if_neg e2, if_neg e3, if_neg e4]
  by_cases c39 : s[0].toNat = 39
  · exact same_end (tok5_39 s w hs h0 c39) (by rw [f14, if_pos]; unfold g5; rw [A0, eqlT c39]; rfl)
  by_cases c34 : s[0].toNat = 34
  · exact same_end (tok5_34 s w hs h0 c34) (by rw [f14, if_pos]; unfold g5; rw [A0, A0, eqlT c34, Bool.or_true]; rfl)
  by_cases c96 : s[0].toNat = 96
  · exact same_end (tok5_96 s w hs h0 c96) (by rw [f14, if_pos]; unfold g5; rw [A0, A0, A0, eqlT c96, Bool.or_true])
  have f5 : ¬ g5 s.data.toList = true := by unfold g5; rw [A0, A0, A0, eqlF c39, eqlF c34, eqlF c96]; simp
  rw [if_neg f5] at f14
  by_cases c91 : s[0].toNat = 91
  · exact same_end (tok6 s w hs h0 c91) (by rw [f14, if_pos]; unfold g6; rw [A0, eqlT c91])
  have f6 : ¬ g6 s.data.toList = true := by unfold g6; rw [A0, eqlF c91]; simp
  rw [if_neg f6] at f14
  by_cases cd : 48 ≤ s[0].toNat ∧ s[0].toNat ≤ 57
  · exact same_end (tok7_d s w hs h0 cd) (by rw [f14, if_pos]; unfold g7; rw [A0]; unfold dig; simp [cd])
  have dg : dig s[0] = false := by unfold dig; simp; omega
  by_cases c46 : s[0].toNat = 46
  · by_cases h1 : 1 < s.size
    · cases hd : dig s[1] with
      | true =>
        exact same_end (tok7_p s w hs h0 c46 h1 hd) (by rw [f14, if_pos]; unfold g7; rw [A0, A0, dg, eqlT c46, isAt_get s 1 h1, hd]; rfl)
      | false =>
        have f7 : ¬ g7 s.data.toList = true := by unfold g7; rw [A0, A0, dg, isAt_get s 1 h1, hd]; simp
        have f8 : sqT s.data.toList = ops s.data.toList := by
          rw [f14, if_neg f7, if_neg, if_neg, if_neg, if_neg]
          · unfold g11; rw [A0]; unfold nam ltr; simp; omega
          · unfold g10; rw [A0]; unfold xX; simp; omega
          · unfold g9; rw [A0, A0, A0, A0]; unfold eql; simp; omega
          · unfold g8; rw [A0]; unfold eql; simp; omega
        rw [f8]; exact tok12_pb F s w hF HNE h0 c46 h1 hd
    · have f7 : ¬ g7 s.data.toList = true := by unfold g7; rw [A0, A0, dg, isAt_out s 1 h1]; simp
      have f8 : sqT s.data.toList = ops s.data.toList := by
        rw [f14, if_neg f7, if_neg, if_neg, if_neg, if_neg]
        · unfold g11; rw [A0]; unfold nam ltr; simp; omega
        · unfold g10; rw [A0]; unfold xX; simp; omega
        · unfold g9; rw [A0, A0, A0, A0]; unfold eql; simp; omega
        · unfold g8; rw [A0]; unfold eql; simp; omega
      rw [f8]; exact tok12_pa F s w hF HNE h0 c46 h1
  have f7 : ¬ g7 s.data.toList = true := by unfold g7; rw [A0, A0, dg, eqlF c46]; simp
  rw [if_neg f7] at f14
  by_cases c63 : s[0].toNat = 63
  · exact same_end (tok8 s w hs h0 c63) (by rw [f14, if_pos]; unfold g8; rw [A0, eqlT c63])
  have f8 : ¬ g8 s.data.toList = true := by unfold g8; rw [A0, eqlF c63]; simp
  rw [if_neg f8] at f14
  by_cases c36 : s[0].toNat = 36
  · exact same_end (tok9_36 s w hs h0 c36) (by rw [f14, if_pos]; unfold g9; rw [A0, A0, A0, A0]; simp [eqlT c36])
  by_cases c64 : s[0].toNat = 64
  · exact same_end (tok9_64 s w hs h0 c64) (by rw [f14, if_pos]; unfold g9; rw [A0, A0, A0, A0]; simp [eqlT c64])
  by_cases c35 : s[0].toNat = 35
  · exact same_end (tok9_35 s w hs h0 c35) (by rw [f14, if_pos]; unfold g9; rw [A0, A0, A0, A0]; simp [eqlT c35])
  by_cases c58 : s[0].toNat = 58
  · exact same_end (tok9_58 s w hs h0 c58) (by rw [f14, if_pos]; unfold g9; rw [A0, A0, A0, A0]; simp [eqlT c58])
  have f9 : ¬ g9 s.data.toList = true := by unfold g9; rw [A0, A0, A0, A0, eqlF c36, eqlF c64, eqlF c35, eqlF c58]; simp
  rw [if_neg f9] at f14
  have hg11 : (ltr s[0] = true ∨ s[0].toNat = 95 ∨ 128 ≤ s[0].toNat) → g11 s.data.toList = true := by
    intro h; unfold g11; rw [A0]; unfold nam; simp only [Bool.or_eq_true, decide_eq_true_eq]; rcases h with h | h | h
    · exact .inl (.inl h)
    · exact .inl (.inr h)
    · exact .inr h
  by_cases cx : s[0].toNat = 120 ∨ s[0].toNat = 88
  · have hx : xX s[0] = true := by unfold xX; simp; omega
    have hl : ltr s[0] = true := by unfold ltr; simp; omega
    by_cases h1 : 1 < s.size
    · cases hq : ((s[1].toNat : Int) == 39) with
      | true =>
        have fin : sqT s.data.toList = b10 s.data.toList := by
          rw [f14, if_pos]; unfold g10; rw [A0, hx, isAt_get s 1 h1, eqlB (n := 39) _ hq]; rfl
        rcases cx with cx | cx
        · exact same_end (tok10_120 s w hs h0 cx h1 hq) fin
        · exact same_end (tok10_88 s w hs h0 cx h1 hq) fin
      | false =>
        have fin : sqT s.data.toList = some (run idc s.data.toList 1, 0) := by
          rw [f14, if_neg, if_pos (hg11 (.inl hl))]; unfold g10; rw [isAt_get s 1 h1, eqlB (n := 39) _ hq]; simp
        rcases cx with cx | cx
        · exact same_end (tok11_120n s w hs h0 cx h1 hq) fin
        · exact same_end (tok11_88n s w hs h0 cx h1 hq) fin
    · have fin : sqT s.data.toList = some (run idc s.data.toList 1, 0) := by
        rw [f14, if_neg, if_pos (hg11 (.inl hl))]; unfold g10; rw [isAt_out s 1 h1]; simp
      rcases cx with cx | cx
      · exact same_end (tok11_120s s w hs h0 cx h1) fin
      · exact same_end (tok11_88s s w hs h0 cx h1) fin
  have hx : xX s[0] = false := by unfold xX; simp; omega
  have f10 : ¬ g10 s.data.toList = true := by unfold g10; rw [A0, hx]; simp
  rw [if_neg f10] at f14
  by_cases cl : (97 ≤ s[0].toNat ∧ s[0].toNat ≤ 122) ∨ (65 ≤ s[0].toNat ∧ s[0].toNat ≤ 90)
  · have hl : ltr s[0] = true := by unfold ltr; simp; omega
    exact same_end (tok11_l s w hs h0 ⟨cl, by omega, by omega⟩) (by rw [f14, if_pos (hg11 (.inl hl))])
  by_cases c95 : s[0].toNat = 95
  · exact same_end (tok11_u s w hs h0 c95) (by rw [f14, if_pos (hg11 (.inr (.inl c95)))])
  by_cases c128 : 128 ≤ s[0].toNat
  · exact same_end (tok11_h s w hs h0 c128 (nf e2)) (by rw [f14, if_pos (hg11 (.inr (.inr c128)))])
  have hl : ltr s[0] = false := by unfold ltr; simp; omega
  have f11 : ¬ g11 s.data.toList = true := by unfold g11; rw [A0]; unfold nam; rw [hl]; simp; omega
  rw [if_neg f11] at f14
  rw [f14]
  unfold spc at e1
  simp only [Bool.or_eq_true, decide_eq_true_eq] at e1
  cases p4 : Lib.hasPrefix s.data.toList [47, 42] with
  | true =>
    have h47 : s[0].toNat = 47 := by
      rw [hp2, A0] at p4
      simp only [Bool.and_eq_true, eql, decide_eq_true_eq] at p4
      exact p4.1
    have h2 : ¬ 2 < s.size := by
      intro h
      apply e4
      unfold g4; rw [p4, isAt_get s 2 h]; rfl
    exact tok12_s F s w hF HNE h0 h47 p4 h2
  | false =>
    refine tok12_o F s w hF HNE h0 ?_ (nf e3) p4
    unfold Hid
    omega

end Go.Proofs.Qxb6613816aFmt.Tok
