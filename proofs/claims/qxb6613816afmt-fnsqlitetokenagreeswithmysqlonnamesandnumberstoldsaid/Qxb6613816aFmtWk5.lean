/- The walk of sqliteParameter. -/
import Derived.Test.Qxb6613816aFmtWk4
namespace Go.Proofs.Qxb6613816aFmt.Tok
open Go.RowKit

theorem par_at (s : ByteArray) (k : Nat) (h : k < s.size) (nm : Bool) : par (s.data.toList.drop k) nm = if idc s[k] then (par (s.data.toList.drop (k + 1)) true).map (· + 1) else if eql 40 s[k] && nm then (suf (s.data.toList.drop (k + 1))).map (· + 1)
      else if eql 58 s[k] && isAt s.data.toList (k + 1) (eql 58) then (par (s.data.toList.drop (k + 2)) nm).map (· + 2) else if nm then some 0 else none := by
  rw [drop_get s k h, par_cons, isAt_drop, List.drop_drop]
theorem suf_at (s : ByteArray) (k : Nat) (h : k < s.size) : suf (s.data.toList.drop k) = if eql 41 s[k] then some 1 else if sps s[k] then none else (suf (s.data.toList.drop (k + 1))).map (· + 1) := by
  rw [drop_get s k h, suf]

section
variable {s : ByteArray} {k : Nat} {nm : Bool} {o : Option Nat}
theorem par_id (h : k < s.size) (HO : (par (s.data.toList.drop k) nm).map (· + k) = o) (hc : idc s[k] = true) : (par (s.data.toList.drop (k + 1)) true).map (· + (k + 1)) = o := by
  rw [par_at s k h, hc] at HO
  simp only [if_true] at HO
  rw [← HO, map_map_add]
theorem par_suf (h : k < s.size) (HO : (par (s.data.toList.drop k) nm).map (· + k) = o) (hc : idc s[k] = false) (h2 : (eql 40 s[k] && nm) = true) : (suf (s.data.toList.drop (k + 1))).map (· + (k + 1)) = o := by
  rw [par_at s k h, hc, h2] at HO
  simp only [if_true, Bool.false_eq_true, if_false] at HO
  rw [← HO, map_map_add]
theorem par_two (h : k < s.size) (HO : (par (s.data.toList.drop k) nm).map (· + k) = o) (hc : idc s[k] = false) (h2 : (eql 40 s[k] && nm) = false) (h3 : (eql 58 s[k] && isAt s.data.toList (k + 1) (eql 58)) = true) : (par (s.data.toList.drop (k + 2)) nm).map (· + (k + 2)) = o := by
  rw [par_at s k h, hc, h2, h3] at HO
  simp only [if_true, Bool.false_eq_true, if_false] at HO
  rw [← HO, map_map_add]
theorem par_stop (h : k < s.size) (HO : (par (s.data.toList.drop k) nm).map (· + k) = o) (hc : idc s[k] = false) (h2 : (eql 40 s[k] && nm) = false) (h3 : (eql 58 s[k] && isAt s.data.toList (k + 1) (eql 58)) = false) : o = if nm then some k else none := by
  rw [par_at s k h, hc, h2, h3] at HO
  simp only [Bool.false_eq_true, if_false] at HO
  rw [← HO]; cases nm <;> simp
theorem par_out (h : ¬ k < s.size) (HO : (par (s.data.toList.drop k) nm).map (· + k) = o) : o = if nm then some k else none := by
  rw [List.drop_of_length_le (by simp; omega)] at HO
  rw [← HO]; cases nm <;> simp [par]
theorem suf_yes (h : k < s.size) (HO : (suf (s.data.toList.drop k)).map (· + k) = o) (hc : eql 41 s[k] = true) : o = some (k + 1) := by
  rw [suf_at s k h, hc] at HO
  simp only [if_true] at HO
  rw [← HO]; simp; omega
theorem suf_sp (h : k < s.size) (HO : (suf (s.data.toList.drop k)).map (· + k) = o) (hc : eql 41 s[k] = false) (h2 : sps s[k] = true) : o = none := by
  rw [suf_at s k h, hc, h2] at HO
  simp only [if_true, Bool.false_eq_true, if_false] at HO
  rw [← HO]; rfl
theorem suf_go (h : k < s.size) (HO : (suf (s.data.toList.drop k)).map (· + k) = o) (hc : eql 41 s[k] = false) (h2 : sps s[k] = false) : (suf (s.data.toList.drop (k + 1))).map (· + (k + 1)) = o := by
  rw [suf_at s k h, hc, h2] at HO
  simp only [Bool.false_eq_true, if_false] at HO
  rw [← HO, map_map_add]
theorem suf_out (h : ¬ k < s.size) (HO : (suf (s.data.toList.drop k)).map (· + k) = o) : o = none := by
  rw [List.drop_of_length_le (by simp; omega)] at HO
  rw [← HO]; rfl
theorem b9_of (HO : (par (s.data.toList.drop 1) false).map (· + 1) = o) : b9 s.data.toList = o.map fun n => (n, 3) := by
  unfold b9; rw [← HO]
  cases par (s.data.toList.drop 1) false <;> rfl
end

set_option maxHeartbeats 1000000 in
theorem param_any (s : ByteArray) (w : World) (hs : s.size ≤ 1048576) (h0 : 0 < s.size) :
    Calls Tryf.prog 36 #[.string s] w fun e w' => Said (b9 s.data.toList) e ∧ w' = w := by
  obtain ⟨o, HO⟩ : ∃ o, Hid ((par (s.data.toList.drop 1) false).map (· + 1) = o) := ⟨(par (s.data.toList.drop 1) false).map (· + 1), by unfold Hid; rfl⟩
  have HB : Hid (b9 s.data.toList = o.map fun n => (n, 3)) := b9_of HO.out
  go_enter Tryf.func36, Tryf.ntmps36
  go_wp2
  go_loop [5, 6] (fun u v => ∃ m k : Nat, k ≤ s.size ∧ m ≤ k ∧ u = .int .i64 m ∧ v = .int .i64 k ∧ Hid ((par (s.data.toList.drop k) (decide (0 < m))).map (· + k) = o)) (fun _ v => s.size - (intOf v).toNat)
  case atStart => exact ⟨0, 1, h0, by omega, rfl, rfl, HO⟩
  case round =>
    obtain ⟨m, k, hk, hm, rfl, rfl, HR⟩ := hrel
    clear HO
    by_cases hlt : k < s.size
    · rcases hi : idc s[k] with _ | _
      · rcases hp : ((s[k].toNat : Int) == 40) with _ | _
        · have E2 : Hid ((eql 40 s[k] && decide (0 < m)) = false) := by unfold Hid; rw [eqlB (n := 40) _ hp]; rfl
          rcases hc : ((s[k].toNat : Int) == 58) with _ | _
          · have HF : Hid (o = if decide (0 < m) then some k else none) := par_stop hlt HR.out hi E2.out (by rw [eqlB (n := 58) _ hc]; rfl)
            by_cases hz : 0 < m
            · have hz' : ((m : Int) == 0) = false := by simp; omega
              go_wp2_with (go_at_call 39; refine (isId_any _ _).mono ?_; rintro e w' ⟨rfl, rfl⟩)
              go_ret3
              exact ⟨said_yes k 3 _ _ (by rw [HB.out, HF.out]; simp [hz]) rfl rfl, rfl⟩
            · obtain rfl : m = 0 := by omega
              go_wp2_with (go_at_call 39; refine (isId_any _ _).mono ?_; rintro e w' ⟨rfl, rfl⟩)
              go_ret3
              exact ⟨said_no _ (by rw [HB.out, HF.out]; simp) (by decide), rfl⟩
          · by_cases h1 : k + 1 < s.size
            · rcases hd : ((s[k + 1].toNat : Int) == 58) with _ | _
              · have HF : Hid (o = if decide (0 < m) then some k else none) := par_stop hlt HR.out hi E2.out (by rw [isAt_get s (k + 1) h1, eqlB (n := 58) _ hd, Bool.and_false])
                by_cases hz : 0 < m
                · have hz' : ((m : Int) == 0) = false := by simp; omega
                  go_wp2_with (go_at_call 39; refine (isId_any _ _).mono ?_; rintro e w' ⟨rfl, rfl⟩)
                  go_ret3
                  exact ⟨said_yes k 3 _ _ (by rw [HB.out, HF.out]; simp [hz]) rfl rfl, rfl⟩
                · obtain rfl : m = 0 := by omega
                  go_wp2_with (go_at_call 39; refine (isId_any _ _).mono ?_; rintro e w' ⟨rfl, rfl⟩)
                  go_ret3
                  exact ⟨said_no _ (by rw [HB.out, HF.out]; simp) (by decide), rfl⟩
              · have HF : Hid ((par (s.data.toList.drop (k + 2)) (decide (0 < m))).map (· + (k + 2)) = o) := par_two hlt HR.out hi E2.out (by rw [isAt_get s (k + 1) h1, eqlB (n := 58) _ hd, eqlB (n := 58) _ hc]; rfl)
                go_wp2_with (go_at_call 39; refine (isId_any _ _).mono ?_; rintro e w' ⟨rfl, rfl⟩)
                go_round
                case rel => exact ⟨m, k + 2, by omega, by omega, rfl, by go_num, HF⟩
                case measure => simp [intOf]; omega
            · have HF : Hid (o = if decide (0 < m) then some k else none) := par_stop hlt HR.out hi E2.out (by rw [isAt_out s (k + 1) h1, Bool.and_false])
              by_cases hz : 0 < m
              · have hz' : ((m : Int) == 0) = false := by simp; omega
                go_wp2_with (go_at_call 39; refine (isId_any _ _).mono ?_; rintro e w' ⟨rfl, rfl⟩)
                go_ret3
                exact ⟨said_yes k 3 _ _ (by rw [HB.out, HF.out]; simp [hz]) rfl rfl, rfl⟩
              · obtain rfl : m = 0 := by omega
                go_wp2_with (go_at_call 39; refine (isId_any _ _).mono ?_; rintro e w' ⟨rfl, rfl⟩)
                go_ret3
                exact ⟨said_no _ (by rw [HB.out, HF.out]; simp) (by decide), rfl⟩
        · by_cases hz : 0 < m
          · have HF : Hid ((suf (s.data.toList.drop (k + 1))).map (· + (k + 1)) = o) := par_suf hlt HR.out hi (by rw [eqlB (n := 40) _ hp]; simp [hz])
            clear HR
            go_wp2_with (go_at_call 39; refine (isId_any _ _).mono ?_; rintro e w' ⟨rfl, rfl⟩)
            go_loop [8] (fun v => ∃ j : Nat, j ≤ s.size ∧ v = .int .i64 j ∧ Hid ((suf (s.data.toList.drop j)).map (· + j) = o)) (fun v => s.size - (intOf v).toNat)
            case atStart => exact ⟨k + 1, by omega, by go_num, HF⟩
            case round =>
              obtain ⟨j, hj, rfl, HS⟩ := hrel
              clear HF
              by_cases hjl : j < s.size
              · rcases hr : ((s[j].toNat : Int) == 41) with _ | _
                · rcases hsp : sps s[j] with _ | _
                  · have HT : Hid ((suf (s.data.toList.drop (j + 1))).map (· + (j + 1)) = o) := suf_go hjl HS.out (eqlB (n := 41) _ hr) hsp
                    go_wp2_with (go_at_call 30; refine (isSpace_any _ _).mono ?_; rintro e w' ⟨rfl, rfl⟩)
                    go_round
                    case rel => exact ⟨j + 1, by omega, by go_num, HT⟩
                    case measure => simp [intOf]; omega
                  · have HT : Hid (o = none) := suf_sp hjl HS.out (eqlB (n := 41) _ hr) hsp
                    go_wp2_with (go_at_call 30; refine (isSpace_any _ _).mono ?_; rintro e w' ⟨rfl, rfl⟩)
                    go_ret3
                    exact ⟨said_no _ (by rw [HB.out, HT.out]; rfl) (by decide), rfl⟩
                · have HT : Hid (o = some (j + 1)) := suf_yes hjl HS.out (eqlB (n := 41) _ hr)
                  go_wp2_with (go_at_call 30; refine (isSpace_any _ _).mono ?_; rintro e w' ⟨rfl, rfl⟩)
                  go_ret3
                  exact ⟨said_yes (j + 1) 3 _ _ (by rw [HB.out, HT.out]; rfl) (by simp) rfl, rfl⟩
              · have HT : Hid (o = none) := suf_out hjl HS.out
                go_wp2_with (go_at_call 30; refine (isSpace_any _ _).mono ?_; rintro e w' ⟨rfl, rfl⟩)
                go_ret3
                exact ⟨said_no _ (by rw [HB.out, HT.out]; rfl) (by decide), rfl⟩
          · obtain rfl : m = 0 := by omega
            have hc : ((s[k].toNat : Int) == 58) = false := by simp at hp ⊢; omega
            have HF : Hid (o = if decide (0 < 0) then some k else none) := par_stop hlt HR.out hi (by simp) (by rw [eqlB (n := 58) _ hc]; rfl)
            go_wp2_with (go_at_call 39; refine (isId_any _ _).mono ?_; rintro e w' ⟨rfl, rfl⟩)
            go_ret3
            exact ⟨said_no _ (by rw [HB.out, HF.out]; simp) (by decide), rfl⟩
      · have HF : Hid ((par (s.data.toList.drop (k + 1)) (decide (0 < m + 1))).map (· + (k + 1)) = o) := by
          have := par_id hlt HR.out hi
          unfold Hid; rw [show decide (0 < m + 1) = true from by simp]; exact this
        go_wp2_with (go_at_call 39; refine (isId_any _ _).mono ?_; rintro e w' ⟨rfl, rfl⟩)
        go_round
        case rel => exact ⟨m + 1, k + 1, by omega, by omega, by go_num, by go_num, HF⟩
        case measure => simp [intOf]; omega
    · have HF : Hid (o = if decide (0 < m) then some k else none) := par_out hlt HR.out
      by_cases hz : 0 < m
      · have hz' : ((m : Int) == 0) = false := by simp; omega
        go_wp2_with (go_at_call 39; refine (isId_any _ _).mono ?_; rintro e w' ⟨rfl, rfl⟩)
        go_ret3
        exact ⟨said_yes k 3 _ _ (by rw [HB.out, HF.out]; simp [hz]) rfl rfl, rfl⟩
      · obtain rfl : m = 0 := by omega
        go_wp2_with (go_at_call 39; refine (isId_any _ _).mono ?_; rintro e w' ⟨rfl, rfl⟩)
        go_ret3
        exact ⟨said_no _ (by rw [HB.out, HF.out]; simp) (by decide), rfl⟩

end Go.Proofs.Qxb6613816aFmt.Tok
