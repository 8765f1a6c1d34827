/- The walk of sqliteToken, a theorem a branch of its switch. -/
import Derived.Test.Qxb6613816aFmtWk6
namespace Go.Proofs.Qxb6613816aFmt.Tok
open Go.RowKit Go.Extern.Stop Go.Stop Go.Extern Go.Kit
set_option linter.unusedVariables false

theorem hp_head2 (s : ByteArray) (h0 : 0 < s.size) (a b : UInt8) (h : s[0].toNat ≠ a.toNat) : Lib.hasPrefix s.data.toList [a, b] = false := by
  rw [hp2, isAt_get s 0 h0, eqlB (n := a.toNat) false (by simp; omega)]; rfl
theorem hp_head3 (s : ByteArray) (h0 : 0 < s.size) (a b c : UInt8) (h : s[0].toNat ≠ a.toNat) : Lib.hasPrefix s.data.toList [a, b, c] = false := by
  rw [hp3, isAt_get s 0 h0, eqlB (n := a.toNat) false (by simp; omega)]; rfl

/-- the search for one byte, as a run. -/
theorem idx_run (l : List UInt8) (c : UInt8) : (Lib.indexByte l c = (run (neq c.toNat) l 0 : Nat) ∧ isAt l (run (neq c.toNat) l 0) any1 = true) ∨ (Lib.indexByte l c = -1 ∧ run (neq c.toNat) l 0 = l.length) := by
  have hne : ∀ {k : Nat}, l[k]? ≠ some c → k < l.length → isAt l k (neq c.toNat) = true := by
    intro k h hk
    rw [List.getElem?_eq_getElem hk] at h
    unfold isAt
    rw [List.getElem?_eq_getElem hk]
    simp only [Option.any_some, neq, Bool.not_eq_true', decide_eq_false_iff_not]
    intro e
    exact h (by rw [UInt8.toNat_inj.1 e])
  by_cases h : Lib.indexByte l c = -1
  · right
    refine ⟨h, run_unique (Nat.zero_le _) (fun j _ hj => hne (Lib.indexByte_none h j) hj) ?_⟩
    simp [isAt]
  · left
    have hg := Lib.indexByte_ge l c
    obtain ⟨o, ho⟩ : ∃ o : Nat, Lib.indexByte l c = o := ⟨(Lib.indexByte l c).toNat, by omega⟩
    obtain ⟨h1, h2⟩ := Lib.indexByte_some ho
    have hol : o < l.length := by
      rcases Nat.lt_or_ge o l.length with h' | h'
      · exact h'
      · rw [List.getElem?_eq_none h'] at h1; cases h1
    have e : run (neq c.toNat) l 0 = o := by
      refine run_unique (Nat.zero_le _) (fun j _ hj => hne (h2 j hj) (by omega)) ?_
      unfold isAt; rw [h1]; simp [neq]
    rw [e]
    refine ⟨ho, ?_⟩
    unfold isAt; rw [h1]; rfl

/-- the search for star and slash, as a scan. -/
theorem cmt_index : ∀ l : List UInt8, Lib.index l [42, 47] = match cmt l with | some n => (n : Int) - 2 | none => -1
  | [] => rfl
  | c :: r => by
    have ih := cmt_index r
    have hb : ∀ n, cmt r = some n → 2 ≤ n := fun n h => (cmt_local r (r.take n) n h (pre_take r n)).1
    have e1 : Lib.hasPrefix (c :: r) [42, 47] = (eql 42 c && isAt r 0 (eql 47)) := by
      rw [hp2, isAt_cons0, isAt_succ]; rfl
    unfold Lib.hasPrefix at e1
    rw [Lib.index, e1, cmt_cons]
    by_cases h : (eql 42 c && isAt r 0 (eql 47)) = true
    · rw [if_pos h, if_pos h]; rfl
    · rw [if_neg h, if_neg h, ih]
      cases hc : cmt r with
      | none => rfl
      | some n =>
        have := hb n hc
        simp only [Option.map_some]
        rw [if_neg (by simp; omega)]
        show (n : Int) - 2 + 1 = ((n + 1 : Nat) : Int) - 2
        omega

theorem index_is (s sub : ByteArray) (m : Int) (w : World) (v : Int) (hs : s.size < 4294967281) (hm : w.cell? ⟨0, 0, none⟩ = some (.int .i64 m)) (hv : Hid (Lib.index s.data.toList sub.data.toList = v)) :
    Calls Tryf.prog 32 #[.string s, .string sub] w fun e w' => e = .returned (.int .i64 v) ∧ w' = w := by
  have h := Tryf.strings_Index s sub m w hs hm
  rw [hv.out] at h; exact h
theorem idx_is (s : ByteArray) (c : Int) (w : World) (v : Int) (hv : Hid (Lib.indexByte s.data.toList c.toNat.toUInt8 = v)) :
    Calls Tryf.prog 29 #[.string s, .int .u8 c] w fun e w' => e = .returned (.int .i64 v) ∧ w' = w := by
  have h := Tryf.strings_IndexByte s c w
  rw [hv.out] at h; exact h
theorem hasP_is (s p : ByteArray) (w : World) (v : Bool) (hv : Hid (Lib.hasPrefix s.data.toList p.data.toList = v)) :
    Calls Tryf.prog 31 #[.string s, .string p] w fun e w' => e = .returned (.bool v) ∧ w' = w := by
  have h := Tryf.strings_HasPrefix s p w
  rw [hv.out] at h; exact h

set_option maxHeartbeats 1000000 in
set_option maxRecDepth 100000 in
theorem tok1 (s : ByteArray) (w : World) (hs : s.size ≤ 1048576) (h0 : 0 < s.size) (h1 : Hid (spc s[0] = true)) :
    Calls Tryf.prog 25 #[.string s] w fun e w' => Said (some (run sps s.data.toList 1, 5)) e ∧ w' = w := by
  have hx := spc_yes h1.out
  go_enter Tryf.func25, Tryf.ntmps25
  go_wp2_with (first | (go_at_call 29; refine (Tryf.strings_IndexByte _ _ _).mono ?_; rintro e w' ⟨rfl, rfl⟩))
  go_loop [2] (fun v => ∃ k : Nat, k ≤ s.size ∧ v = .int .i64 k ∧ Hid (run sps s.data.toList 1 = run sps s.data.toList k)) (fun v => s.size - (intOf v).toNat)
  case atStart => exact ⟨1, h0, rfl, rfl⟩
  case round =>
    obtain ⟨k, hk, rfl, HR⟩ := hrel
    by_cases hlt : k < s.size
    · have HG : Hid (∀ p, isAt s.data.toList k p = p s[k]) := isAt_get s k hlt
      rcases hd : sps s[k] with _ | _
      · have HE : Hid (run sps s.data.toList k = k) := run_here (by rw [HG.out]; exact hd)
        go_wp2_with (go_at_call 30; refine (isSpace_any _ _).mono ?_; rintro e w' ⟨rfl, rfl⟩)
        go_ret3
        exact ⟨said_yes k 5 _ _ (by rw [HR.out, HE.out]) rfl rfl, rfl⟩
      · have HE : Hid (run sps s.data.toList k = run sps s.data.toList (k + 1)) := run_step (by rw [HG.out]; exact hd)
        go_wp2_with (go_at_call 30; refine (isSpace_any _ _).mono ?_; rintro e w' ⟨rfl, rfl⟩)
        go_round
        case rel => exact ⟨k + 1, by omega, by go_num, HR.out.trans HE.out⟩
        case measure => simp [intOf]; omega
    · have HE : Hid (run sps s.data.toList k = k) := run_here (isAt_out s k hlt _)
      go_wp2_with (go_at_call 30; refine (isSpace_any _ _).mono ?_; rintro e w' ⟨rfl, rfl⟩)
      go_ret3
      exact ⟨said_yes k 5 _ _ (by rw [HR.out, HE.out]) rfl rfl, rfl⟩

set_option maxHeartbeats 1000000 in
set_option maxRecDepth 100000 in
theorem tok2 (s : ByteArray) (w : World) (hs : s.size ≤ 1048576) (h0 : 0 < s.size) (h1 : Hid (spc s[0] = false)) (h2 : Lib.hasPrefix s.data.toList [239, 187, 191] = true) :
    Calls Tryf.prog 25 #[.string s] w fun e w' => Said (some (3, 5)) e ∧ w' = w := by
  have hx := spc_no h1.out
  go_enter Tryf.func25, Tryf.ntmps25
  go_wp2_with (first | (go_at_call 29; refine (Tryf.strings_IndexByte _ _ _).mono ?_; rintro e w' ⟨rfl, rfl⟩) | (go_at_call 31; refine (Tryf.strings_HasPrefix _ _ _).mono ?_; rintro e w' ⟨rfl, rfl⟩))
  go_ret3
  exact ⟨said_yes 3 5 _ _ rfl rfl rfl, rfl⟩

set_option maxHeartbeats 1000000 in
set_option maxRecDepth 100000 in
theorem tok3 (s : ByteArray) (w : World) (hs : s.size ≤ 1048576) (h0 : 0 < s.size) (h1 : Hid (spc s[0] = false)) (h2 : Lib.hasPrefix s.data.toList [239, 187, 191] = false) (h3 : Lib.hasPrefix s.data.toList [45, 45] = true) :
    Calls Tryf.prog 25 #[.string s] w fun e w' => Said (some (run (neq 10) s.data.toList 0, 5)) e ∧ w' = w := by
  have hx := spc_no h1.out
  have hl : s.data.toList.length = s.size := rfl
  rcases idx_run s.data.toList 10 with ⟨hi, _⟩ | ⟨hi, hr⟩
  · obtain ⟨n, HN⟩ : ∃ n, Hid (run (neq 10) s.data.toList 0 = n) := ⟨_, rfl⟩
    have hi' : Lib.indexByte s.data.toList 10 = (n : Int) := by rw [hi]; exact congrArg _ HN.out
    clear hi hl
    go_enter Tryf.func25, Tryf.ntmps25
    go_wp2_with (first | (go_at_call 29; refine (Tryf.strings_IndexByte _ _ _).mono ?_; rintro e w' ⟨rfl, rfl⟩) | (go_at_call 31; refine (Tryf.strings_HasPrefix _ _ _).mono ?_; rintro e w' ⟨rfl, rfl⟩))
    go_ret3
    exact ⟨said_yes n 5 _ _ (by rw [HN.out]) rfl rfl, rfl⟩
  · have HR : Hid (run (neq 10) s.data.toList 0 = s.size) := hr.trans hl
    clear hr hl
    go_enter Tryf.func25, Tryf.ntmps25
    go_wp2_with (first | (go_at_call 29; refine (Tryf.strings_IndexByte _ _ _).mono ?_; rintro e w' ⟨rfl, rfl⟩) | (go_at_call 31; refine (Tryf.strings_HasPrefix _ _ _).mono ?_; rintro e w' ⟨rfl, rfl⟩))
    go_ret3
    exact ⟨said_yes s.size 5 _ _ (by rw [HR.out]) rfl rfl, rfl⟩

set_option maxHeartbeats 1000000 in
set_option maxRecDepth 100000 in
theorem tok4 (s : ByteArray) (w : World) (hs : s.size ≤ 1048576) (h0 : 0 < s.size) (m : Int) (hm : w.cell? ⟨0, 0, none⟩ = some (.int .i64 m)) (h1 : Hid (spc s[0] = false)) (h2 : Lib.hasPrefix s.data.toList [239, 187, 191] = false) (h3 : Lib.hasPrefix s.data.toList [45, 45] = false) (h4 : Lib.hasPrefix s.data.toList [47, 42] = true) (h5 : 2 < s.size) :
    Calls Tryf.prog 25 #[.string s] w fun e w' => Said (some (b4 s.data.toList, 5)) e ∧ w' = w := by
  have hx := spc_no h1.out
  have HS : (s.extract 2 s.size).size < 4294967281 := by rw [ByteArray.size_extract]; omega
  have EX : Hid ((s.extract 2 s.size).data.toList = s.data.toList.drop 2) := Lib.extract_to_end s 2
  cases hc : cmt (s.data.toList.drop 2) with
  | none =>
    have HB : Hid (b4 s.data.toList = s.size) := by unfold Hid b4; rw [hc]; rfl
    have HI : Hid (Lib.index (s.extract 2 s.size).data.toList (⟨#[42, 47]⟩ : ByteArray).data.toList = -1) := by
      unfold Hid; rw [EX.out]
      show Lib.index _ [42, 47] = -1
      rw [cmt_index, hc]
    clear hc
    go_enter Tryf.func25, Tryf.ntmps25
    go_wp2_with (first | (go_at_call 29; refine (Tryf.strings_IndexByte _ _ _).mono ?_; rintro e w' ⟨rfl, rfl⟩) | (go_at_call 31; refine (Tryf.strings_HasPrefix _ _ _).mono ?_; rintro e w' ⟨rfl, rfl⟩) | (go_at_call 32; refine (index_is _ _ m _ _ HS hm HI).mono ?_; rintro e w' ⟨rfl, rfl⟩))
    go_ret3
    exact ⟨said_yes s.size 5 _ _ (by rw [HB.out]) rfl rfl, rfl⟩
  | some n =>
    have hn := cmt_local _ ((s.data.toList.drop 2).take n) n hc (pre_take _ n)
    have hn2 : 2 ≤ n := hn.1
    have hnl : n + 2 ≤ s.size := by
      have := hn.2.1
      rw [List.length_drop] at this
      have e : s.data.toList.length = s.size := rfl
      omega
    have HB : Hid (b4 s.data.toList = n + 2) := by unfold Hid b4; rw [hc]
    have HI : Hid (Lib.index (s.extract 2 s.size).data.toList (⟨#[42, 47]⟩ : ByteArray).data.toList = (n : Int) - 2) := by
      unfold Hid; rw [EX.out]
      show Lib.index _ [42, 47] = _
      rw [cmt_index, hc]
    clear hc hn
    go_enter Tryf.func25, Tryf.ntmps25
    go_wp2_with (first | (go_at_call 29; refine (Tryf.strings_IndexByte _ _ _).mono ?_; rintro e w' ⟨rfl, rfl⟩) | (go_at_call 31; refine (Tryf.strings_HasPrefix _ _ _).mono ?_; rintro e w' ⟨rfl, rfl⟩) | (go_at_call 32; refine (index_is _ _ m _ _ HS hm HI).mono ?_; rintro e w' ⟨rfl, rfl⟩))
    go_ret3
    exact ⟨said_yes (n + 2) 5 _ _ (by rw [HB.out]) (by omega) rfl, rfl⟩

set_option maxHeartbeats 1000000 in
set_option maxRecDepth 100000 in
theorem tok5_39 (s : ByteArray) (w : World) (hs : s.size ≤ 1048576) (h0 : 0 < s.size) (he : Hid (s[0].toNat = 39)) :
    Calls Tryf.prog 25 #[.string s] w fun e w' => Said (b5 s.data.toList) e ∧ w' = w := by
  have hx : Lib.indexByte [32, 9, 10, 12, 13] s[0] < 0 := spc_no (by have := he.out; unfold spc; simp; omega)
  have p2 : Lib.hasPrefix s.data.toList [239, 187, 191] = false := hp_head3 s h0 _ _ _ (by have := he.out; simp; omega)
  have p3 : Lib.hasPrefix s.data.toList [45, 45] = false := hp_head2 s h0 _ _ (by have := he.out; simp; omega)
  have p4 : Lib.hasPrefix s.data.toList [47, 42] = false := hp_head2 s h0 _ _ (by have := he.out; simp; omega)
  have t39 : ((s[0].toNat : Int) == 39) = true := by have := he.out; simp; omega
  go_enter Tryf.func25, Tryf.ntmps25
  go_wp2_with (first | (go_at_call 29; refine (Tryf.strings_IndexByte _ _ _).mono ?_; rintro e w' ⟨rfl, rfl⟩) | (go_at_call 31; refine (Tryf.strings_HasPrefix _ _ _).mono ?_; rintro e w' ⟨rfl, rfl⟩) | (go_at_call 33; refine (quoted_any s _ hs h0).mono ?_; rintro e w' ⟨HQ, rfl⟩; obtain ⟨n, k, p, rfl, HP⟩ := HQ))
  go_ret3
  exact ⟨⟨n, k, p, rfl, HP⟩, rfl⟩

set_option maxHeartbeats 1000000 in
set_option maxRecDepth 100000 in
theorem tok5_34 (s : ByteArray) (w : World) (hs : s.size ≤ 1048576) (h0 : 0 < s.size) (he : Hid (s[0].toNat = 34)) :
    Calls Tryf.prog 25 #[.string s] w fun e w' => Said (b5 s.data.toList) e ∧ w' = w := by
  have hx : Lib.indexByte [32, 9, 10, 12, 13] s[0] < 0 := spc_no (by have := he.out; unfold spc; simp; omega)
  have p2 : Lib.hasPrefix s.data.toList [239, 187, 191] = false := hp_head3 s h0 _ _ _ (by have := he.out; simp; omega)
  have p3 : Lib.hasPrefix s.data.toList [45, 45] = false := hp_head2 s h0 _ _ (by have := he.out; simp; omega)
  have p4 : Lib.hasPrefix s.data.toList [47, 42] = false := hp_head2 s h0 _ _ (by have := he.out; simp; omega)
  have t39 : ((s[0].toNat : Int) == 39) = false := by have := he.out; simp; omega
  have t34 : ((s[0].toNat : Int) == 34) = true := by have := he.out; simp; omega
  go_enter Tryf.func25, Tryf.ntmps25
  go_wp2_with (first | (go_at_call 29; refine (Tryf.strings_IndexByte _ _ _).mono ?_; rintro e w' ⟨rfl, rfl⟩) | (go_at_call 31; refine (Tryf.strings_HasPrefix _ _ _).mono ?_; rintro e w' ⟨rfl, rfl⟩) | (go_at_call 33; refine (quoted_any s _ hs h0).mono ?_; rintro e w' ⟨HQ, rfl⟩; obtain ⟨n, k, p, rfl, HP⟩ := HQ))
  go_ret3
  exact ⟨⟨n, k, p, rfl, HP⟩, rfl⟩

set_option maxHeartbeats 1000000 in
set_option maxRecDepth 100000 in
theorem tok5_96 (s : ByteArray) (w : World) (hs : s.size ≤ 1048576) (h0 : 0 < s.size) (he : Hid (s[0].toNat = 96)) :
    Calls Tryf.prog 25 #[.string s] w fun e w' => Said (b5 s.data.toList) e ∧ w' = w := by
  have hx : Lib.indexByte [32, 9, 10, 12, 13] s[0] < 0 := spc_no (by have := he.out; unfold spc; simp; omega)
  have p2 : Lib.hasPrefix s.data.toList [239, 187, 191] = false := hp_head3 s h0 _ _ _ (by have := he.out; simp; omega)
  have p3 : Lib.hasPrefix s.data.toList [45, 45] = false := hp_head2 s h0 _ _ (by have := he.out; simp; omega)
  have p4 : Lib.hasPrefix s.data.toList [47, 42] = false := hp_head2 s h0 _ _ (by have := he.out; simp; omega)
  have t39 : ((s[0].toNat : Int) == 39) = false := by have := he.out; simp; omega
  have t34 : ((s[0].toNat : Int) == 34) = false := by have := he.out; simp; omega
  have t96 : ((s[0].toNat : Int) == 96) = true := by have := he.out; simp; omega
  go_enter Tryf.func25, Tryf.ntmps25
  go_wp2_with (first | (go_at_call 29; refine (Tryf.strings_IndexByte _ _ _).mono ?_; rintro e w' ⟨rfl, rfl⟩) | (go_at_call 31; refine (Tryf.strings_HasPrefix _ _ _).mono ?_; rintro e w' ⟨rfl, rfl⟩) | (go_at_call 33; refine (quoted_any s _ hs h0).mono ?_; rintro e w' ⟨HQ, rfl⟩; obtain ⟨n, k, p, rfl, HP⟩ := HQ))
  go_ret3
  exact ⟨⟨n, k, p, rfl, HP⟩, rfl⟩

set_option maxHeartbeats 1000000 in
set_option maxRecDepth 100000 in
theorem tok6 (s : ByteArray) (w : World) (hs : s.size ≤ 1048576) (h0 : 0 < s.size) (he : Hid (s[0].toNat = 91)) :
    Calls Tryf.prog 25 #[.string s] w fun e w' => Said (b6 s.data.toList) e ∧ w' = w := by
  have hx : Lib.indexByte [32, 9, 10, 12, 13] s[0] < 0 := spc_no (by have := he.out; unfold spc; simp; omega)
  have p2 : Lib.hasPrefix s.data.toList [239, 187, 191] = false := hp_head3 s h0 _ _ _ (by have := he.out; simp; omega)
  have p3 : Lib.hasPrefix s.data.toList [45, 45] = false := hp_head2 s h0 _ _ (by have := he.out; simp; omega)
  have p4 : Lib.hasPrefix s.data.toList [47, 42] = false := hp_head2 s h0 _ _ (by have := he.out; simp; omega)
  have t39 : ((s[0].toNat : Int) == 39) = false := by have := he.out; simp; omega
  have t34 : ((s[0].toNat : Int) == 34) = false := by have := he.out; simp; omega
  have t96 : ((s[0].toNat : Int) == 96) = false := by have := he.out; simp; omega
  have t91 : ((s[0].toNat : Int) == 91) = true := by have := he.out; simp; omega
  have hl : s.data.toList.length = s.size := rfl
  rcases idx_run s.data.toList 93 with ⟨hi, ha⟩ | ⟨hi, hr⟩
  · obtain ⟨n, HN⟩ : ∃ n, Hid (run (neq 93) s.data.toList 0 = n) := ⟨_, rfl⟩
    have hi' : Lib.indexByte s.data.toList 93 = (n : Int) := by rw [hi]; exact congrArg _ HN.out
    have HB : Hid (b6 s.data.toList = some (n + 1, 1)) := by
      unfold Hid b6; rw [HN.out]
      have ha' : isAt s.data.toList n any1 = true := by rw [← HN.out]; exact ha
      rw [ha']; rfl
    have hnl : n < s.size := by have := isAt_lt ha; have h2 := HN.out; rw [show (93 : UInt8).toNat = 93 from rfl] at this; omega
    clear hi hl ha
    go_enter Tryf.func25, Tryf.ntmps25
    go_wp2_with (first | (go_at_call 29; refine (Tryf.strings_IndexByte _ _ _).mono ?_; rintro e w' ⟨rfl, rfl⟩) | (go_at_call 31; refine (Tryf.strings_HasPrefix _ _ _).mono ?_; rintro e w' ⟨rfl, rfl⟩))
    go_ret3
    exact ⟨said_yes (n + 1) 1 _ _ HB.out (by simp) rfl, rfl⟩
  · have HB : Hid (b6 s.data.toList = none) := by
      unfold Hid b6
      have e : run (neq 93) s.data.toList 0 = s.size := hr.trans hl
      rw [e, isAt_out s s.size (by omega)]; rfl
    clear hr hl
    go_enter Tryf.func25, Tryf.ntmps25
    go_wp2_with (first | (go_at_call 29; refine (Tryf.strings_IndexByte _ _ _).mono ?_; rintro e w' ⟨rfl, rfl⟩) | (go_at_call 31; refine (Tryf.strings_HasPrefix _ _ _).mono ?_; rintro e w' ⟨rfl, rfl⟩))
    go_ret3
    exact ⟨said_no _ HB.out (by decide), rfl⟩

end Go.Proofs.Qxb6613816aFmt.Tok
