/- The walks of sqliteNumber, sqliteQuoted, sqliteBlob. -/
import Derived.Test.Qxb6613816aFmtWk3
namespace Go.Proofs.Qxb6613816aFmt.Tok
open Go.RowKit

/-- how an answer (length, kind, problem) tells an outcome. -/
def Said (o : Option (Nat × Nat)) (e : Ending) : Prop :=
  ∃ (n k : Nat) (p : ByteArray), e = .returned (.tuple #[.int .i64 n, .int .i64 k, .string p]) ∧ ((o = some (n, k) ∧ p = ⟨#[]⟩) ∨ (o = none ∧ n = 0 ∧ k = 0 ∧ 0 < p.size))

theorem said_yes {o : Option (Nat × Nat)} (n k : Nat) (a b : Int) (h : o = some (n, k)) (ha : a = n) (hb : b = k) : Said o (.returned (.tuple #[.int .i64 a, .int .i64 b, .string ⟨#[]⟩])) := by
  subst ha hb
  exact ⟨n, k, _, rfl, .inl ⟨h, rfl⟩⟩
theorem said_no {o : Option (Nat × Nat)} (p : ByteArray) (h : o = none) (hp : 0 < p.size) : Said o (.returned (.tuple #[.int .i64 0, .int .i64 0, .string p])) :=
  ⟨0, 0, p, rfl, .inr ⟨h, rfl, rfl, hp⟩⟩

theorem xX_contains : ∀ c : UInt8, (⟨#[120, 88]⟩ : ByteArray).data.toList.contains c = xX c := by
  intro c
  simp [xX, ← UInt8.toNat_inj]

set_option maxHeartbeats 400000 in
theorem number_any (s : ByteArray) (w : World) (hs : s.size ≤ 1048576) :
    Calls Tryf.prog 35 #[.string s] w fun e w' => Said (b7 s.data.toList) e ∧ w' = w := by
  obtain ⟨n, HN⟩ : ∃ n, Hid (numE xX s.data.toList = n) := ⟨_, rfl⟩
  have hn : n ≤ s.size := by have := numE_le xX s.data.toList; rw [HN.out] at this; simpa using this
  have HB : Hid (b7 s.data.toList = if isAt s.data.toList n idc then none else some (n, 3)) := by unfold Hid b7; rw [HN.out]
  have c46 : ∀ w, Calls Tryf.prog 46 #[.string s, .string ⟨#[120, 88]⟩] w fun e w' => e = .returned (.int .i64 n) ∧ w' = w := by
    intro w
    have h := numEnd_any s ⟨#[120, 88]⟩ xX w hs xX_contains
    rw [HN.out] at h; exact h
  have C46 : Hid (∀ w, Calls Tryf.prog 46 #[.string s, .string ⟨#[120, 88]⟩] w fun e w' => e = .returned (.int .i64 n) ∧ w' = w) := c46
  clear c46
  by_cases hlt : n < s.size
  · have HG : Hid (isAt s.data.toList n idc = idc s[n]) := isAt_get s n hlt idc
    rcases hi : idc s[n] with _ | _
    · go_enter Tryf.func35, Tryf.ntmps35
      go_wp2_with (first | (go_at_call 46; refine (C46.out _).mono ?_; rintro e w' ⟨rfl, rfl⟩) | (go_at_call 39; refine (isId_any _ _).mono ?_; rintro e w' ⟨rfl, rfl⟩))
      go_ret3
      exact ⟨said_yes n 3 _ _ (by rw [HB.out, HG.out, hi]; rfl) rfl rfl, rfl⟩
    · go_enter Tryf.func35, Tryf.ntmps35
      go_wp2_with (first | (go_at_call 46; refine (C46.out _).mono ?_; rintro e w' ⟨rfl, rfl⟩) | (go_at_call 39; refine (isId_any _ _).mono ?_; rintro e w' ⟨rfl, rfl⟩))
      go_ret3
      exact ⟨said_no _ (by rw [HB.out, HG.out, hi]; rfl) (by decide), rfl⟩
  · have HG : Hid (isAt s.data.toList n idc = false) := isAt_out s n hlt idc
    go_enter Tryf.func35, Tryf.ntmps35
    go_wp2_with (first | (go_at_call 46; refine (C46.out _).mono ?_; rintro e w' ⟨rfl, rfl⟩) | (go_at_call 39; refine (isId_any _ _).mono ?_; rintro e w' ⟨rfl, rfl⟩))
    go_ret3
    exact ⟨said_yes n 3 _ _ (by rw [HB.out, HG.out]; rfl) rfl rfl, rfl⟩

theorem drop_get (s : ByteArray) (k : Nat) (h : k < s.size) : s.data.toList.drop k = s[k] :: s.data.toList.drop (k + 1) :=
  List.drop_eq_getElem_cons (by simpa using h)

/-! ### sqliteBlob -/
set_option maxHeartbeats 400000 in
theorem blob_any (s : ByteArray) (w : World) (hs : s.size ≤ 1048576) (h2 : 2 ≤ s.size) :
    Calls Tryf.prog 37 #[.string s] w fun e w' => Said (b10 s.data.toList) e ∧ w' = w := by
  go_enter Tryf.func37, Tryf.ntmps37
  go_wp2
  go_loop [5] (fun v => ∃ k : Nat, k ≤ s.size ∧ v = .int .i64 k ∧ Hid (run hex s.data.toList 2 = run hex s.data.toList k)) (fun v => s.size - (intOf v).toNat)
  case atStart => exact ⟨2, h2, rfl, rfl⟩
  case round =>
    obtain ⟨k, hk, rfl, HR⟩ := hrel
    by_cases hlt : k < s.size
    · have HG : Hid (∀ p, isAt s.data.toList k p = p s[k]) := isAt_get s k hlt
      rcases hd : hex s[k] with _ | _
      · have HE2 : Hid (run hex s.data.toList 2 = k) := HR.out.trans (run_here (by rw [HG.out]; exact hd))
        have HB : Hid (b10 s.data.toList = if eql 39 s[k] && (k % 2 == 0) then some (k + 1, 3) else none) := by
          unfold Hid b10; rw [HE2.out, HG.out]
        rcases hq : ((s[k].toNat : Int) == 39) with _ | _
        · go_wp2_with (go_at_call 53; refine (isHex_any _ _).mono ?_; rintro e w' ⟨rfl, rfl⟩)
          go_ret3
          exact ⟨said_no _ (by rw [HB.out, eqlB (n := 39) _ hq]; rfl) (by decide), rfl⟩
        · by_cases he : k % 2 = 0
          · have he' : ((k : Int) % 2 == 0) = true := by simp; omega
            go_wp2_with (go_at_call 53; refine (isHex_any _ _).mono ?_; rintro e w' ⟨rfl, rfl⟩)
            go_ret3
            exact ⟨said_yes (k + 1) 3 _ _ (by rw [HB.out, eqlB (n := 39) _ hq]; simp [he]) (by simp) rfl, rfl⟩
          · have he' : ((k : Int) % 2 == 0) = false := by simp; omega
            go_wp2_with (go_at_call 53; refine (isHex_any _ _).mono ?_; rintro e w' ⟨rfl, rfl⟩)
            go_ret3
            exact ⟨said_no _ (by rw [HB.out, eqlB (n := 39) _ hq]; simp [he]) (by decide), rfl⟩
      · have HE2 : Hid (run hex s.data.toList k = run hex s.data.toList (k + 1)) := run_step (by rw [HG.out]; exact hd)
        go_wp2_with (go_at_call 53; refine (isHex_any _ _).mono ?_; rintro e w' ⟨rfl, rfl⟩)
        go_round
        case rel => exact ⟨k + 1, by omega, by go_num, HR.out.trans HE2.out⟩
        case measure => simp [intOf]; omega
    · have HE2 : Hid (run hex s.data.toList 2 = k) := HR.out.trans (run_here (isAt_out s k hlt _))
      have HB : Hid (b10 s.data.toList = none) := by
        unfold Hid b10; rw [HE2.out, isAt_out s k hlt]; rfl
      go_wp2_with (go_at_call 53; refine (isHex_any _ _).mono ?_; rintro e w' ⟨rfl, rfl⟩)
      go_ret3
      exact ⟨said_no _ HB.out (by decide), rfl⟩

/-! ### sqliteQuoted -/
theorem quo_at (q : Nat) (s : ByteArray) (k : Nat) (h : k < s.size) : quo q (s.data.toList.drop k) = if eql q s[k] then (if isAt s.data.toList (k + 1) (eql q) then (quo q (s.data.toList.drop (k + 2))).map (· + 2) else some 1) else (quo q (s.data.toList.drop (k + 1))).map (· + 1) := by
  rw [drop_get s k h, quo_cons, isAt_drop, List.drop_drop]
theorem map_map_add (o : Option Nat) (a b : Nat) : (o.map (· + a)).map (· + b) = o.map (· + (b + a)) := by
  cases o with
  | none => rfl
  | some n => simp; omega

theorem eqlQ {c d : UInt8} (b : Bool) (h : ((c.toNat : Int) == (d.toNat : Int)) = b) : eql d.toNat c = b := by
  rw [← h, Bool.eq_iff_iff]; simp [eql]; omega
theorem eqlN {c d : UInt8} (b : Bool) (h : ((c.toNat : Int) != (d.toNat : Int)) = b) : eql d.toNat c = !b := by
  rw [← h, Bool.eq_iff_iff]; simp [eql]; omega

theorem quo_hop {s : ByteArray} {q k : Nat} {o : Option Nat} (h : k < s.size) (HO : (quo q (s.data.toList.drop k)).map (· + k) = o) (hc : eql q s[k] = false) : (quo q (s.data.toList.drop (k + 1))).map (· + (k + 1)) = o := by
  rw [quo_at q s k h, hc] at HO
  simp only [Bool.false_eq_true, if_false] at HO
  rw [← HO, map_map_add]
theorem quo_two {s : ByteArray} {q k : Nat} {o : Option Nat} (h : k < s.size) (HO : (quo q (s.data.toList.drop k)).map (· + k) = o) (hc : eql q s[k] = true) (hd : isAt s.data.toList (k + 1) (eql q) = true) : (quo q (s.data.toList.drop (k + 2))).map (· + (k + 2)) = o := by
  rw [quo_at q s k h, hc, hd] at HO
  simp only [if_true] at HO
  rw [← HO, map_map_add]
theorem quo_end {s : ByteArray} {q k : Nat} {o : Option Nat} (h : k < s.size) (HO : (quo q (s.data.toList.drop k)).map (· + k) = o) (hc : eql q s[k] = true) (hd : isAt s.data.toList (k + 1) (eql q) = false) : o = some (k + 1) := by
  rw [quo_at q s k h, hc, hd] at HO
  simp only [if_true] at HO
  rw [← HO]; simp; omega
theorem quo_out {s : ByteArray} {q k : Nat} {o : Option Nat} (h : ¬ k < s.size) (HO : (quo q (s.data.toList.drop k)).map (· + k) = o) : o = none := by
  rw [List.drop_of_length_le (by simp; omega)] at HO
  rw [← HO]; rfl
theorem b5_of {s : ByteArray} (h : 0 < s.size) {o : Option Nat} (HO : (quo s[0].toNat (s.data.toList.drop 1)).map (· + 1) = o) : b5 s.data.toList = o.map fun n => (n, if eql 39 s[0] then 2 else 1) := by
  unfold b5
  have e : s.data.toList.headD 0 = s[0] := by
    have := drop_get s 0 h
    rw [List.drop_zero] at this
    rw [this]; rfl
  rw [e, isAt_get s 0 h, ← HO]
  cases quo s[0].toNat (s.data.toList.drop 1) <;> rfl

set_option maxHeartbeats 1000000 in
theorem quoted_any (s : ByteArray) (w : World) (hs : s.size ≤ 1048576) (h0 : 0 < s.size) :
    Calls Tryf.prog 33 #[.string s] w fun e w' => Said (b5 s.data.toList) e ∧ w' = w := by
  obtain ⟨o, HO⟩ : ∃ o, Hid ((quo s[0].toNat (s.data.toList.drop 1)).map (· + 1) = o) := ⟨(quo s[0].toNat (s.data.toList.drop 1)).map (· + 1), rfl⟩
  have HB : Hid (b5 s.data.toList = o.map fun n => (n, if eql 39 s[0] then 2 else 1)) := b5_of h0 HO.out
  go_enter Tryf.func33, Tryf.ntmps33
  go_wp2
  go_loop [6] (fun v => ∃ k : Nat, k ≤ s.size ∧ v = .int .i64 k ∧ Hid ((quo s[0].toNat (s.data.toList.drop k)).map (· + k) = o)) (fun v => s.size - (intOf v).toNat)
  case atStart => exact ⟨1, h0, rfl, HO⟩
  case round =>
    obtain ⟨k, hk, rfl, HR⟩ := hrel
    clear HO
    by_cases hlt : k < s.size
    · rcases hc : ((s[k].toNat : Int) != (s[0].toNat : Int)) with _ | _
      · have E : Hid (eql s[0].toNat s[k] = true) := eqlN _ hc
        by_cases h1 : k + 1 < s.size
        · rcases hd : ((s[k + 1].toNat : Int) == (s[0].toNat : Int)) with _ | _
          · have HF : Hid (o = some (k + 1)) := quo_end hlt HR.out E.out (by rw [isAt_get s (k + 1) h1]; exact eqlQ _ hd)
            rcases hq : ((s[0].toNat : Int) == 39) with _ | _
            · go_wp2
              go_ret3
              exact ⟨said_yes (k + 1) 1 _ _ (by rw [HB.out, HF.out, eqlB (n := 39) _ hq]; rfl) (by simp) rfl, rfl⟩
            · go_wp2
              go_ret3
              exact ⟨said_yes (k + 1) 2 _ _ (by rw [HB.out, HF.out, eqlB (n := 39) _ hq]; rfl) (by simp) rfl, rfl⟩
          · have HF : Hid ((quo s[0].toNat (s.data.toList.drop (k + 2))).map (· + (k + 2)) = o) := quo_two hlt HR.out E.out (by rw [isAt_get s (k + 1) h1]; exact eqlQ _ hd)
            go_wp2
            go_round
            case rel => exact ⟨k + 2, by omega, by go_num, HF⟩
            case measure => simp [intOf]; omega
        · have HF : Hid (o = some (k + 1)) := quo_end hlt HR.out E.out (isAt_out s (k + 1) h1 _)
          rcases hq : ((s[0].toNat : Int) == 39) with _ | _
          · go_wp2
            go_ret3
            exact ⟨said_yes (k + 1) 1 _ _ (by rw [HB.out, HF.out, eqlB (n := 39) _ hq]; rfl) (by simp) rfl, rfl⟩
          · go_wp2
            go_ret3
            exact ⟨said_yes (k + 1) 2 _ _ (by rw [HB.out, HF.out, eqlB (n := 39) _ hq]; rfl) (by simp) rfl, rfl⟩
      · have HF : Hid ((quo s[0].toNat (s.data.toList.drop (k + 1))).map (· + (k + 1)) = o) := quo_hop hlt HR.out (eqlN _ hc)
        go_wp2
        go_round
        case rel => exact ⟨k + 1, by omega, by go_num, HF⟩
        case measure => simp [intOf]; omega
    · have HF : Hid (o = none) := quo_out hlt HR.out
      rcases hq : ((s[0].toNat : Int) == 39) with _ | _
      · go_wp2
        go_ret3
        exact ⟨said_no _ (by rw [HB.out, HF.out]; rfl) (by decide), rfl⟩
      · go_wp2
        go_ret3
        exact ⟨said_no _ (by rw [HB.out, HF.out]; rfl) (by decide), rfl⟩

end Go.Proofs.Qxb6613816aFmt.Tok
