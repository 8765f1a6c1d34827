/- The walk of numberEnd. -/
import Derived.Test.Qxb6613816aFmtWk2
import Derived.Deep.DeepCutAuto
namespace Go.Proofs.Qxb6613816aFmt.Tok
open Go.RowKit

theorem digits_is (s : ByteArray) (i n : Nat) (w : World) (hs : s.size ≤ 1048576) (hi : i ≤ s.size) (hn : Hid (run dgu s.data.toList i = n)) :
    Calls Tryf.prog 58 #[.string s, .int .i64 i] w fun e w' => e = .returned (.int .i64 n) ∧ w' = w := by
  have h := digits_any s i w hs hi
  rw [hn.out] at h
  exact h

theorem digits_at (s : ByteArray) (a : Int) (i n : Nat) (w : World) (hs : s.size ≤ 1048576) (hi : i ≤ s.size) (ha : a = (i : Int)) (hn : Hid (run dgu s.data.toList i = n)) :
    Calls Tryf.prog 58 #[.string s, .int .i64 a] w fun e w' => e = .returned (.int .i64 n) ∧ w' = w := by
  subst ha
  exact digits_is s i n w hs hi hn

theorem rad_yes {l : List UInt8} {c : UInt8} {rad : UInt8 → Bool} (hrad : ∀ c, l.contains c = rad c) (h : rad c = true) : 0 ≤ Lib.indexByte l c := by
  have := idx_contains l c
  rw [hrad, h] at this; simpa using this
theorem rad_no {l : List UInt8} {c : UInt8} {rad : UInt8 → Bool} (hrad : ∀ c, l.contains c = rad c) (h : rad c = false) : Lib.indexByte l c < 0 := by
  have := idx_contains l c
  rw [hrad, h] at this
  simp only [decide_eq_false_iff_not] at this; omega

theorem hxu_hex {c : UInt8} (h : hex c = true) : hxu c = true := by simp [hxu, h]
theorem hxu_us {c : UInt8} (h : ((c.toNat : Int) == 95) = true) : hxu c = true := by simp at h; simp [hxu]; omega
theorem hxu_no {c : UInt8} (h : hex c = false) (h' : ((c.toNat : Int) == 95) = false) : hxu c = false := by simp at h'; simp [hxu, h]; omega

theorem eqlB {c : UInt8} {n : Nat} (b : Bool) (h : ((c.toNat : Int) == (n : Int)) = b) : eql n c = b := by
  rw [← h, Bool.eq_iff_iff]; simp [eql]; omega

set_option maxHeartbeats 2000000 in
set_option maxRecDepth 100000 in
theorem numEnd_any (s r : ByteArray) (rad : UInt8 → Bool) (w : World) (hs : s.size ≤ 1048576) (hrad : Hid (∀ c, r.data.toList.contains c = rad c)) :
    Calls Tryf.prog 46 #[.string s, .string r] w fun e w' => e = .returned (.int .i64 (numE rad s.data.toList)) ∧ w' = w := by
  go_enter Tryf.func46, Tryf.ntmps46
  go_upto_region 1 with fail
  go_cut [27] (fun v wx => v = .bool (numH rad s.data.toList) ∧ wx = w)
  case first =>
    by_cases h2 : 2 < s.size
    · have G : Hid (∀ k (_ : k < s.size) p, isAt s.data.toList k p = p s[k]) := fun k h => isAt_get s k h
      rcases hb : ((s[0].toNat : Int) == 48) with _ | _
      · have HH : Hid (numH rad s.data.toList = false) := by
          unfold Hid numH; rw [G.out 0 (by omega), eqlB (n := 48) _ hb]; rfl
        go_wp2_with fail
        go_meet
        exact ⟨by rw [HH.out], rfl⟩
      · rcases hr : rad s[1] with _ | _
        · have hx := rad_no hrad.out hr
          have HH : Hid (numH rad s.data.toList = false) := by
            unfold Hid numH; rw [G.out 1 (by omega), hr]; simp
          go_wp2_with (go_at_call 29; refine (Tryf.strings_IndexByte _ _ _).mono ?_; rintro e w' ⟨rfl, rfl⟩)
          go_meet
          exact ⟨by rw [HH.out], rfl⟩
        · have hx := rad_yes hrad.out hr
          have HH : Hid (numH rad s.data.toList = hex s[2]) := by
            unfold Hid numH; rw [G.out 1 (by omega), hr, G.out 0 (by omega), eqlB (n := 48) _ hb, G.out 2 h2]; simp
          go_wp2_with (first | (go_at_call 29; refine (Tryf.strings_IndexByte _ _ _).mono ?_; rintro e w' ⟨rfl, rfl⟩) | (go_at_call 53; refine (isHex_any _ _).mono ?_; rintro e w' ⟨rfl, rfl⟩))
          go_meet
          exact ⟨by rw [HH.out], rfl⟩
    · have HH : Hid (numH rad s.data.toList = false) := by
        unfold Hid numH; rw [isAt_out s 2 h2]; simp
      go_wp2_with fail
      go_meet
      exact ⟨by rw [HH.out], rfl⟩
  case rest =>
    obtain ⟨rfl, rfl⟩ := hcut
    rcases hH : numH rad s.data.toList with _ | _
    · obtain ⟨i, HI⟩ : ∃ i, Hid (run dgu s.data.toList 0 = i) := ⟨_, rfl⟩
      have hil : i ≤ s.size := by have := numI_le s.data.toList; unfold numI at this; rw [HI.out] at this; simpa using this
      obtain ⟨j, HJ⟩ : ∃ j, Hid (numJ s.data.toList = j) := ⟨_, rfl⟩
      have hjl : j ≤ s.size := by have := numJ_le s.data.toList; rw [HJ.out] at this; simpa using this
      have HE : Hid (numE rad s.data.toList = if numX s.data.toList then run dgu s.data.toList (j + 2) else j) := by
        unfold Hid numE; rw [hH, HJ.out]; simp
      clear hH
      go_wp2_with fail
      refine (digits_at s 0 0 i _ hs (by omega) rfl HI).mono ?_
      rintro e w' ⟨rfl, rfl⟩
      go_upto_region 7 with fail
      go_cut [58] (fun v wx => v = .bool (isAt s.data.toList i (eql 46)) ∧ wx = w')
      case first =>
        by_cases hlt : i < s.size
        · have HG : Hid (isAt s.data.toList i (eql 46) = ((s[i].toNat : Int) == 46)) := by
            unfold Hid; rw [isAt_get s i hlt]; exact eqlB (n := 46) _ rfl
          go_wp2_with fail
          go_meet
          exact ⟨by rw [HG.out], rfl⟩
        · have HG : Hid (isAt s.data.toList i (eql 46) = false) := isAt_out s i hlt _
          go_wp2_with fail
          go_meet
          exact ⟨by rw [HG.out], rfl⟩
      case rest =>
        obtain ⟨rfl, rfl⟩ := hcut
        go_upto_if 58 with fail
        go_cut [6] (fun v wx => v = .int .i64 j ∧ wx = wc)
        case first =>
          rcases hd : isAt s.data.toList i (eql 46) with _ | _
          · have e : j = i := by rw [← HJ.out]; unfold numJ numI; rw [HI.out, hd]; simp
            go_wp2_with fail
            go_meet
            exact ⟨by rw [e], rfl⟩
          · have e : Hid (run dgu s.data.toList (i + 1) = j) := by unfold Hid; rw [← HJ.out]; unfold numJ numI; rw [HI.out, hd]; simp
            have hlt : i < s.size := by have := isAt_lt hd; simpa using this
            go_wp2_with fail
            refine (digits_at s (i + 1) (i + 1) j _ hs (by omega) (by omega) e).mono ?_
            rintro e w' ⟨rfl, rfl⟩
            go_wp2_with fail
            go_meet
            exact ⟨rfl, rfl⟩
        case rest =>
          obtain ⟨rfl, rfl⟩ := hcut
          have HX : Hid (numX s.data.toList = (isAt s.data.toList j exq && (isAt s.data.toList (j + 1) dig || isAt s.data.toList (j + 1) sgn && isAt s.data.toList (j + 2) dig))) := by
            unfold Hid numX; rw [HJ.out]
          go_upto_region 9 with fail
          go_cut [79] (fun v wx => v = .bool (isAt s.data.toList j exq && decide (j + 1 < s.size)) ∧ wx = wc)
          case first =>
            by_cases h1 : j + 1 < s.size
            · have h0 : j < s.size := by omega
              have G0 : Hid (∀ p, isAt s.data.toList j p = p s[j]) := isAt_get s j (by omega)
              have D1 : Hid (decide (j + 1 < s.size) = true) := by unfold Hid; simp [h1]
              rcases hx1 : ((s[j].toNat : Int) == 101) with _ | _
              · rcases hx2 : ((s[j].toNat : Int) == 69) with _ | _
                · have HV : Hid (exq s[j] = false) := by simp at hx1 hx2; unfold Hid exq; simp; omega
                  go_wp2_with fail
                  go_meet
                  exact ⟨by rw [G0.out, HV.out]; rfl, rfl⟩
                · have HV : Hid (exq s[j] = true) := by simp at hx2; unfold Hid exq; simp; omega
                  go_wp2_with fail
                  go_meet
                  exact ⟨by rw [G0.out, HV.out, D1.out]; rfl, rfl⟩
              · have HV : Hid (exq s[j] = true) := by simp at hx1; unfold Hid exq; simp; omega
                go_wp2_with fail
                go_meet
                exact ⟨by rw [G0.out, HV.out, D1.out]; rfl, rfl⟩
            · have D1 : Hid (decide (j + 1 < s.size) = false) := by unfold Hid; simp [h1]
              go_wp2_with fail
              go_meet
              exact ⟨by rw [D1.out, Bool.and_false], rfl⟩
          case rest =>
            obtain ⟨rfl, rfl⟩ := hcut
            rcases hE : (isAt s.data.toList j exq && decide (j + 1 < s.size)) with _ | _
            · have HF : Hid (numE rad s.data.toList = j) := by
                unfold Hid; rw [HE.out, HX.out]
                cases hq : isAt s.data.toList j exq with
                | false => rfl
                | true =>
                  rw [hq, Bool.true_and, decide_eq_false_iff_not] at hE
                  rw [isAt_out s (j + 1) hE, isAt_out s (j + 1) hE]; rfl
              go_wp2_with fail
              go_ret
              exact ⟨ret_int (by rw [HF.out]), rfl⟩
            · have h1 : j + 1 < s.size := by simp only [Bool.and_eq_true, decide_eq_true_eq] at hE; exact hE.2
              have HX0 : Hid (isAt s.data.toList j exq = true) := by simp only [Bool.and_eq_true, decide_eq_true_eq] at hE; exact hE.1
              have G1 : Hid (∀ p, isAt s.data.toList (j + 1) p = p s[j + 1]) := isAt_get s (j + 1) h1
              go_upto_region 10 with fail
              go_cut [7] (fun v wx => v = .bool (isAt s.data.toList (j + 1) sgn && isAt s.data.toList (j + 2) dig) ∧ wx = wc)
              case first =>
                have KEY : Hid (∀ b : Bool, sgn s[j + 1] = true → (isAt s.data.toList (j + 2) dig = b) → (isAt s.data.toList (j + 1) sgn && isAt s.data.toList (j + 2) dig) = b) := by
                  intro b h1 h2; rw [G1.out, h1, h2]; rfl
                rcases hx1 : ((s[j + 1].toNat : Int) == 43) with _ | _
                · rcases hx2 : ((s[j + 1].toNat : Int) == 45) with _ | _
                  · have HV : Hid ((isAt s.data.toList (j + 1) sgn && isAt s.data.toList (j + 2) dig) = false) := by
                      unfold Hid; rw [G1.out]
                      have : sgn s[j + 1] = false := by simp at hx1 hx2; unfold sgn; simp; omega
                      rw [this]; rfl
                    go_wp2_with fail
                    go_meet
                    exact ⟨by rw [HV.out], rfl⟩
                  · have HV : Hid (sgn s[j + 1] = true) := by simp at hx2; unfold Hid sgn; simp; omega
                    by_cases h2 : j + 2 < s.size
                    · have G2 : Hid (isAt s.data.toList (j + 2) dig = dig s[j + 2]) := isAt_get s (j + 2) h2 dig
                      go_wp2_with (go_at_call 34; refine (isDigit_any _ _).mono ?_; rintro e w' ⟨rfl, rfl⟩)
                      go_meet
                      exact ⟨by rw [KEY.out _ HV.out G2.out], rfl⟩
                    · have G2 : Hid (isAt s.data.toList (j + 2) dig = false) := isAt_out s (j + 2) h2 dig
                      go_wp2_with fail
                      go_meet
                      exact ⟨by rw [KEY.out _ HV.out G2.out], rfl⟩
                · have HV : Hid (sgn s[j + 1] = true) := by simp at hx1; unfold Hid sgn; simp; omega
                  by_cases h2 : j + 2 < s.size
                  · have G2 : Hid (isAt s.data.toList (j + 2) dig = dig s[j + 2]) := isAt_get s (j + 2) h2 dig
                    go_wp2_with (go_at_call 34; refine (isDigit_any _ _).mono ?_; rintro e w' ⟨rfl, rfl⟩)
                    go_meet
                    exact ⟨by rw [KEY.out _ HV.out G2.out], rfl⟩
                  · have G2 : Hid (isAt s.data.toList (j + 2) dig = false) := isAt_out s (j + 2) h2 dig
                    go_wp2_with fail
                    go_meet
                    exact ⟨by rw [KEY.out _ HV.out G2.out], rfl⟩
              case rest =>
                obtain ⟨rfl, rfl⟩ := hcut
                obtain ⟨n, HN⟩ : ∃ n, Hid (run dgu s.data.toList (j + 2) = n) := ⟨_, rfl⟩
                rcases hd : dig s[j + 1] with _ | _
                · rcases hq : (isAt s.data.toList (j + 1) sgn && isAt s.data.toList (j + 2) dig) with _ | _
                  · have HF : Hid (numE rad s.data.toList = j) := by
                      unfold Hid; rw [HE.out, HX.out, HX0.out, hq, G1.out, hd]; rfl
                    go_wp2_with (go_at_call 34; refine (isDigit_any _ _).mono ?_; rintro e w' ⟨rfl, rfl⟩)
                    go_ret
                    exact ⟨ret_int (by rw [HF.out]), rfl⟩
                  · have HF : Hid (numE rad s.data.toList = n) := by
                      unfold Hid; rw [HE.out, HX.out, HX0.out, hq, G1.out, hd, HN.out]; rfl
                    go_wp2_with (first | (go_at_call 34; refine (isDigit_any _ _).mono ?_; rintro e w' ⟨rfl, rfl⟩) | (go_at_call 58; refine (digits_at s _ (j + 2) n _ hs (by omega) (by omega) HN).mono ?_; rintro e w' ⟨rfl, rfl⟩))
                    go_ret
                    exact ⟨ret_int (by rw [HF.out]), rfl⟩
                · have HF : Hid (numE rad s.data.toList = n) := by
                    unfold Hid; rw [HE.out, HX.out, HX0.out, G1.out, hd, HN.out]; rfl
                  go_wp2_with (first | (go_at_call 34; refine (isDigit_any _ _).mono ?_; rintro e w' ⟨rfl, rfl⟩) | (go_at_call 58; refine (digits_at s _ (j + 2) n _ hs (by omega) (by omega) HN).mono ?_; rintro e w' ⟨rfl, rfl⟩))
                  go_ret
                  exact ⟨ret_int (by rw [HF.out]), rfl⟩
    · have HE : Hid (numE rad s.data.toList = run hxu s.data.toList 3) := by unfold Hid numE; rw [hH]; simp
      have h3 : 3 ≤ s.size := by
        have : isAt s.data.toList 2 hex = true := by unfold numH at hH; simp only [Bool.and_eq_true] at hH; exact hH.2
        have := isAt_lt this
        have e : s.data.toList.length = s.size := rfl
        omega
      clear hH
      go_wp2_with fail
      go_loop [5] (fun v => ∃ k : Nat, k ≤ s.size ∧ v = .int .i64 k ∧ Hid (run hxu s.data.toList 3 = run hxu s.data.toList k)) (fun v => s.size - (intOf v).toNat)
      case atStart => exact ⟨3, h3, rfl, rfl⟩
      case round =>
        obtain ⟨k, hk, rfl, HR⟩ := hrel
        by_cases hlt : k < s.size
        · have HG : Hid (∀ p, isAt s.data.toList k p = p s[k]) := isAt_get s k hlt
          rcases hd : hex s[k] with _ | _
          · rcases hu : ((s[k].toNat : Int) == 95) with _ | _
            · have HE2 : Hid (run hxu s.data.toList k = k) := run_here (by rw [HG.out]; exact hxu_no hd hu)
              go_wp2_with (go_at_call 53; refine (isHex_any _ _).mono ?_; rintro e w' ⟨rfl, rfl⟩)
              go_ret
              exact ⟨ret_int (by rw [HE.out, HR.out, HE2.out]), rfl⟩
            · have HE2 : Hid (run hxu s.data.toList k = run hxu s.data.toList (k + 1)) := run_step (by rw [HG.out]; exact hxu_us hu)
              go_wp2_with (go_at_call 53; refine (isHex_any _ _).mono ?_; rintro e w' ⟨rfl, rfl⟩)
              go_round
              case rel => exact ⟨k + 1, by omega, by go_num, HR.out.trans HE2.out⟩
              case measure => simp [intOf]; omega
          · have HE2 : Hid (run hxu s.data.toList k = run hxu s.data.toList (k + 1)) := run_step (by rw [HG.out]; exact hxu_hex hd)
            go_wp2_with (go_at_call 53; refine (isHex_any _ _).mono ?_; rintro e w' ⟨rfl, rfl⟩)
            go_round
            case rel => exact ⟨k + 1, by omega, by go_num, HR.out.trans HE2.out⟩
            case measure => simp [intOf]; omega
        · have HE2 : Hid (run hxu s.data.toList k = k) := run_here (isAt_out s k hlt _)
          go_wp2_with (go_at_call 53; refine (isHex_any _ _).mono ?_; rintro e w' ⟨rfl, rfl⟩)
          go_ret
          exact ⟨ret_int (by rw [HE.out, HR.out, HE2.out]), rfl⟩

end Go.Proofs.Qxb6613816aFmt.Tok
