/- FnSqliteTokenAgreesWithMysqlOnNamesAndNumbers: all its inputs. -/
import Derived.Test.Qxb6613816aFmtMy7
import Derived.Test.Qxb6613816aFmtMy7c
import Derived.Test.Qxb6613816aFmtLaw4
namespace Go.Proofs.Qxb6613816aFmt.Tok
open Go.RowKit Go.Extern.Stop Go.Stop Go.Extern Go.Kit
set_option linter.unusedVariables false

theorem three_of_said {o : Option (Nat × Nat)} {e : Ending} (h : Said o e) : Three e := by
  obtain ⟨n, k, p, rfl, _⟩ := h
  exact ⟨n, k, p, rfl⟩

set_option maxHeartbeats 2000000 in
set_option maxRecDepth 100000 in
theorem walk6 (F : Interp) (s : ByteArray) (ws : s.size ≤ maxLen) (w : World) (m : Int) (hF : F.answers w.tape) (HNE : Hid (∀ c : UInt8, 0 < (FmtStop.textOf (F "fmt.Sprintf" (asked c.toNat) 0)).size)) (hm : w.cell? ⟨0, 0, none⟩ = some (.int .i64 m)) :
    Calls Tryf.prog 6 #[.string s] w fun e w' => e = .returned (.bool true) ∧ Below w.heap.size w w' := by
  by_cases hs : s.size ≤ 1048576
  rotate_left
  · clear hF hm HNE
    go_enter Tryf.func6, Tryf.ntmps6
    go_wp2_with (go_at_call 15; refine (bytes1_no _ _ ws hs).mono ?_; rintro e w' ⟨rfl, rfl⟩)
    go_ret
    exact ⟨rfl, Below.refl _ _⟩
  by_cases h0 : 0 < s.size
  rotate_left
  · have ez : ((s.size : Int) == 0) = true := by rw [beq_iff_eq]; omega
    clear hF hm HNE
    go_enter Tryf.func6, Tryf.ntmps6
    go_wp2_with (go_at_call 15; refine (bytes1_yes _ _ hs).mono ?_; rintro e w' ⟨rfl, rfl⟩)
    go_ret
    exact ⟨rfl, Below.refl _ _⟩
  have A0 : ∀ p, isAt s.data.toList 0 p = p s[0] := isAt_get s 0 h0
  have h0w : 0 < w.heap.size := World.block_lt_of_cell? w ⟨0, 0, none⟩ hm
  have C14y : ∀ n k : Nat, sqT s.data.toList = some (n, k) → Hid (∀ w0, w0 = w → Calls Tryf.prog 14 #[.string s] w0 fun e w' => e = .returned (.tuple #[.int .i64 (n : Nat), .int .i64 (k : Nat), .string ⟨#[]⟩]) ∧ Below w.heap.size w w') := by
    intro n k ht w0 hw
    subst hw
    exact zztoken_yes F s w0 m n k hF HNE hm hs h0 ht
  have C14n : sqT s.data.toList = none → Hid (∀ w0, w0 = w → Calls Tryf.prog 14 #[.string s] w0 fun e w' => ∃ p : ByteArray, p.toList.isEmpty = false ∧ e = .returned (.tuple #[.int .i64 0, .int .i64 0, .string p]) ∧ Below w.heap.size w w') := by
    intro ht w0 hw
    subst hw
    exact zztoken_no F s w0 m hF HNE hm hs h0 ht
  have C14a : Hid (∀ w0, w0 = w → Calls Tryf.prog 14 #[.string s] w0 fun e w' => Three e ∧ Below w.heap.size w w') := by
    intro w0 hw
    subst hw
    refine (zztoken_any F s w0 m hF HNE hm hs h0).mono ?_
    rintro e w' ⟨h, hb⟩
    exact ⟨three_of_said h, hb⟩
  have C16a : Hid (∀ w0, Below w.heap.size w w0 → Calls Tryf.prog 16 #[.string s] w0 fun e w' => Three e ∧ Below w0.heap.size w0 w') := by
    intro w0 hb0
    refine (zzmy_any F s w0 m hs h0 (by rw [hb0.tape]; exact hF) (by rw [hb0.cell (p := ⟨0, 0, none⟩) h0w]; exact hm)).mono ?_
    rintro e w' ⟨⟨n, k, p, rfl, _⟩, hb⟩
    exact ⟨⟨n, k, p, rfl⟩, hb⟩
  by_cases hg : g7 s.data.toList = true
  · -- a number
    have hpos := numE_pos xB s.data.toList hg
    have hle : numE xB s.data.toList ≤ s.size := numE_le xB s.data.toList
    have C16 : Hid (∀ w0, Below w.heap.size w w0 → Calls Tryf.prog 16 #[.string s] w0 fun e w' => e = .returned (.tuple #[.int .i64 (numE xB s.data.toList : Nat), .int .i64 3, .string ⟨#[]⟩]) ∧ Below w0.heap.size w0 w') := by
      intro w0 hb0
      refine (zzmy_num s w0 hs h0 hg).mono ?_
      rintro e w' ⟨⟨n, k, p, rfl, rfl, rfl, rfl⟩, hb⟩
      exact ⟨rfl, hb⟩
    have hT := sqT_num s h0 hg
    have hcase : (48 ≤ s[0].toNat ∧ s[0].toNat ≤ 57) ∨ (s[0].toNat = 46 ∧ ∃ h1 : 1 < s.size, dig s[1] = true) := by
      have hg' := hg
      unfold g7 at hg'
      rw [A0, A0] at hg'
      simp only [Bool.or_eq_true, Bool.and_eq_true] at hg'
      rcases hg' with h | ⟨h, h'⟩
      · left; unfold dig at h; simpa using h
      · right
        have h1 : 1 < s.size := isAt_lt h'
        exact ⟨by unfold eql at h; simpa using h, h1, (isAt_get s 1 h1 dig).symm.trans h'⟩
    cases ha : isAt s.data.toList (numE xX s.data.toList) idc with
    | false =>
      have heq := rad_acc s.data.toList ha
      have hT' : sqT s.data.toList = some (numE xB s.data.toList, 3) := by rw [hT]; unfold b7; rw [ha, heq]; rfl
      rcases hcase with h | ⟨h, h1, hd⟩
      · exact lawB_d s w hs h0 _ hpos.1 hle (C14y _ _ hT') C16 h
      · exact lawB_p s w hs h0 _ hpos.1 hle (C14y _ _ hT') C16 h h1 hd
    | true =>
      have hT' : sqT s.data.toList = none := by rw [hT]; unfold b7; rw [ha]; rfl
      by_cases heq : numE xX s.data.toList = numE xB s.data.toList
      · rw [heq] at ha
        have hlt : numE xB s.data.toList < s.size := isAt_lt ha
        have hi : idc s[numE xB s.data.toList] = true := (isAt_get s _ hlt idc).symm.trans ha
        rcases hcase with h | ⟨h, h1, hd⟩
        · exact lawC_d s w hs h0 _ hpos.1 hlt hi (C14n hT') C16 h
        · exact lawC_p s w hs h0 _ hpos.1 hlt hi (C14n hT') C16 h h1 hd
      · obtain ⟨k0, kb, k2, _⟩ := rad_diff s.data.toList heq
        have h2 : 2 < s.size := isAt_lt k2
        have c48 : s[0].toNat = 48 := by rw [A0] at k0; unfold eql at k0; simpa using k0
        rcases kb with kb | kb
        · have c1 : s[1].toNat = 98 := by rw [isAt_get s 1 (by omega)] at kb; unfold eql at kb; simpa using kb
          exact lawC_b98 s w hs h0 _ hpos.1 hle (C14n hT') C16 c48 h2 c1
        · have c1 : s[1].toNat = 66 := by rw [isAt_get s 1 (by omega)] at kb; unfold eql at kb; simpa using kb
          exact lawC_b66 s w hs h0 _ hpos.1 hle (C14n hT') C16 c48 h2 c1
  · have hg' : g7 s.data.toList = false := by simpa using hg
    have nd : ¬ (48 ≤ s[0].toNat ∧ s[0].toNat ≤ 57) := by
      intro h
      apply hg
      unfold g7; rw [A0]
      have : dig s[0] = true := by unfold dig; simp; omega
      rw [this]; rfl
    cases hn : nam s[0] with
    | false =>
      have hc : ¬ (97 ≤ s[0].toNat ∧ s[0].toNat ≤ 122) ∧ ¬ (65 ≤ s[0].toNat ∧ s[0].toNat ≤ 90) ∧ s[0].toNat ≠ 95 ∧ s[0].toNat < 128 := by
        simp only [nam, ltr, Bool.or_eq_false_iff, Bool.and_eq_false_iff, decide_eq_false_iff_not] at hn
        omega
      by_cases c46 : s[0].toNat = 46
      · by_cases h1 : 1 < s.size
        · have hd : dig s[1] = false := by
            cases hd : dig s[1] with
            | false => rfl
            | true => exact absurd (by unfold g7; rw [A0, A0, eqlT c46, isAt_get s 1 h1, hd]; simp) hg
          exact lawD_pb s w hs h0 C14a C16a c46 h1 hd
        · exact lawD_pa s w hs h0 C14a C16a c46 h1
      · exact lawD_o s w hs h0 C14a C16a ⟨hc.1, hc.2.1, hc.2.2.1, hc.2.2.2, nd, c46⟩
    | true =>
      have hc : (97 ≤ s[0].toNat ∧ s[0].toNat ≤ 122) ∨ (65 ≤ s[0].toNat ∧ s[0].toNat ≤ 90) ∨ s[0].toNat = 95 ∨ 128 ≤ s[0].toNat := by
        simp only [nam, ltr, Bool.or_eq_true, Bool.and_eq_true, decide_eq_true_eq] at hn
        omega
      cases hb : g10 s.data.toList with
      | true =>
        unfold g10 at hb
        rw [A0, Bool.and_eq_true] at hb
        have h1 : 1 < s.size := isAt_lt hb.2
        have hq : ((s[1].toNat : Int) == 39) = true := by
          have := hb.2; rw [isAt_get s 1 h1] at this; unfold eql at this; simp at this ⊢; omega
        have hx := hb.1
        unfold xX at hx
        simp only [Bool.or_eq_true, decide_eq_true_eq] at hx
        rcases hx with hx | hx
        · exact lawD_x s w hs h0 C14a C16a hx h1 hq
        · exact lawD_X s w hs h0 C14a C16a hx h1 hq
      | false =>
        cases h2 : g2 s.data.toList with
        | true =>
          unfold g2 at h2
          rw [hp3] at h2
          simp only [Bool.and_eq_true] at h2
          have h3 : 3 ≤ s.size := isAt_lt h2.2.2
          have e0 : s[0].toNat = 239 := by have := h2.1; rw [A0] at this; unfold eql at this; simpa using this
          have e1 : s[1].toNat = 187 := by have := h2.2.1; rw [isAt_get s 1 (by omega)] at this; unfold eql at this; simpa using this
          have e2 : s[2].toNat = 191 := by have := h2.2.2; rw [isAt_get s 2 (by omega)] at this; unfold eql at this; simpa using this
          exact lawD_b s w hs h0 C14a C16a e0 h3 (by simp; omega) (by simp; omega)
        | false =>
          have hT := sqT_name s h0 hn hb h2
          have C14 := C14y _ _ hT
          have C16 : Hid (∀ w0, Below w.heap.size w w0 → Calls Tryf.prog 16 #[.string s] w0 fun e w' => e = .returned (.tuple #[.int .i64 (run idc s.data.toList 1 : Nat), .int .i64 0, .string ⟨#[]⟩]) ∧ Below w0.heap.size w0 w') := by
            intro w0 hb0
            refine (zzmy_word s w0 hs h0 (by unfold Hid; omega)).mono ?_
            rintro e w' ⟨⟨n, k, p, rfl, rfl, rfl, rfl⟩, hb⟩
            exact ⟨rfl, hb⟩
          have hn1 := run_ge idc s.data.toList 1
          have hn2 : run idc s.data.toList 1 ≤ s.size := run_le idc s.data.toList 1 h0
          have HA : Hid (∀ k (h : k < s.size), k < run idc s.data.toList 1 → idc s[k] = true) := by
            intro k h hk
            by_cases k0 : k = 0
            · subst k0
              unfold idc ltr; simp; omega
            · exact (isAt_get s k h idc).symm.trans (run_all idc s.data.toList 1 k (by omega) hk)
          have HZ : Hid (∀ h : run idc s.data.toList 1 < s.size, idc s[run idc s.data.toList 1] = false) := by
            intro h
            exact (isAt_get s _ h idc).symm.trans (run_stop idc s.data.toList 1)
          by_cases cx : s[0].toNat = 120 ∨ s[0].toNat = 88
          · by_cases h1 : 1 < s.size
            · have hq : ((s[1].toNat : Int) == 39) = false := by
                unfold g10 at hb
                rw [A0, Bool.and_eq_false_iff] at hb
                rcases hb with hb | hb
                · exfalso; unfold xX at hb; simp only [Bool.or_eq_false_iff, decide_eq_false_iff_not] at hb; omega
                · rw [isAt_get s 1 h1] at hb; unfold eql at hb; simp at hb ⊢; omega
              rcases cx with cx | cx
              · exact lawA_120n s w hs h0 _ hn1 hn2 HA HZ C14 C16 cx h1 hq
              · exact lawA_88n s w hs h0 _ hn1 hn2 HA HZ C14 C16 cx h1 hq
            · rcases cx with cx | cx
              · exact lawA_120s s w hs h0 _ hn1 hn2 HA HZ C14 C16 cx h1
              · exact lawA_88s s w hs h0 _ hn1 hn2 HA HZ C14 C16 cx h1
          · by_cases c95 : s[0].toNat = 95
            · exact lawA_u s w hs h0 _ hn1 hn2 HA HZ C14 C16 c95
            · by_cases c239 : s[0].toNat = 239
              · by_cases h3 : 3 ≤ s.size
                · cases q1 : ((s[1].toNat : Int) == 187) with
                  | false => exact lawA_bb s w hs h0 _ hn1 hn2 HA HZ C14 C16 c239 h3 q1
                  | true =>
                    cases q2 : ((s[2].toNat : Int) == 191) with
                    | false => exact lawA_bc s w hs h0 _ hn1 hn2 HA HZ C14 C16 c239 h3 q1 q2
                    | true =>
                      exfalso
                      unfold g2 at h2
                      rw [hp3, isAt_get s 0 h0, isAt_get s 1 (by omega), isAt_get s 2 (by omega)] at h2
                      simp at q1 q2
                      rw [eqlT (show s[0].toNat = (239 : UInt8).toNat from c239), eqlT (show s[1].toNat = (187 : UInt8).toNat by show s[1].toNat = 187; omega), eqlT (show s[2].toNat = (191 : UInt8).toNat by show s[2].toNat = 191; omega)] at h2
                      cases h2
                · exact lawA_ba s w hs h0 _ hn1 hn2 HA HZ C14 C16 c239 h3
              · by_cases c128 : 128 ≤ s[0].toNat
                · exact lawA_h s w hs h0 _ hn1 hn2 HA HZ C14 C16 ⟨c128, c239⟩
                · exact lawA_l s w hs h0 _ hn1 hn2 HA HZ C14 C16 ⟨by omega, by omega, by omega⟩

end Go.Proofs.Qxb6613816aFmt.Tok
