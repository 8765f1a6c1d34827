/- The walk of FnSqliteTokenKeepsItsLength. -/
import Derived.Test.Qxb6613816aFmtWk9
namespace Go.Proofs.Qxb6613816aFmt.Tok
open Go.RowKit Go.Extern.Stop Go.Stop Go.Extern Go.Kit
set_option linter.unusedVariables false

set_option maxHeartbeats 400000 in
theorem bytes_yes (a b : ByteArray) (w : World) (h : a.size + b.size ≤ 1048576) :
    Calls Tryf.prog 13 #[.string a, .string b] w fun e w' => e = .returned (.bool true) ∧ w' = w := by
  go_enter Tryf.func13, Tryf.ntmps13
  go_wp2
  go_ret
  exact ⟨rfl, rfl⟩

set_option maxHeartbeats 400000 in
theorem bytes_no (a b : ByteArray) (w : World) (ha : a.size ≤ maxLen) (hb : b.size ≤ maxLen) (h : ¬ a.size + b.size ≤ 1048576) :
    Calls Tryf.prog 13 #[.string a, .string b] w fun e w' => e = .returned (.bool false) ∧ w' = w := by
  unfold maxLen at ha hb
  by_cases h1 : a.size ≤ 1048576
  · by_cases h2 : b.size ≤ 1048576
    · go_enter Tryf.func13, Tryf.ntmps13
      go_wp2
      go_ret
      exact ⟨rfl, rfl⟩
    · go_enter Tryf.func13, Tryf.ntmps13
      go_wp2
      go_ret
      exact ⟨rfl, rfl⟩
  · go_enter Tryf.func13, Tryf.ntmps13
    go_wp2
    go_ret
    exact ⟨rfl, rfl⟩

set_option maxHeartbeats 400000 in
theorem zztoken_any (F : Interp) (s : ByteArray) (w : World) (m : Int) (hF : F.answers w.tape) (HNE : Hid (∀ c : UInt8, 0 < (FmtStop.textOf (F "fmt.Sprintf" (asked c.toNat) 0)).size))
    (hm : w.cell? ⟨0, 0, none⟩ = some (.int .i64 m)) (hs : s.size ≤ 1048576) (h0 : 0 < s.size) :
    Calls Tryf.prog 14 #[.string s] w fun e w' => Said (sqT s.data.toList) e ∧ Below w.heap.size w w' := by
  have HF : Hid (F.answers w.tape) := hF
  have HM : Hid (w.cell? ⟨0, 0, none⟩ = some (.int .i64 m)) := hm
  clear hF hm
  go_enter Tryf.func14, Tryf.ntmps14
  go_wp2_with (go_at_call 25; refine (token_any F s _ m (by exact HF.out) HNE (by exact HM.out) hs h0).mono ?_; rintro e w' ⟨HQ, hb⟩; obtain ⟨n, k, p, rfl, HP⟩ := HQ)
  go_ret3
  exact ⟨⟨n, k, p, rfl, HP⟩, hb⟩

/-- the answer where a token is read. -/
theorem zztoken_yes (F : Interp) (s : ByteArray) (w : World) (m : Int) (n k : Nat) (hF : F.answers w.tape) (HNE : Hid (∀ c : UInt8, 0 < (FmtStop.textOf (F "fmt.Sprintf" (asked c.toNat) 0)).size))
    (hm : w.cell? ⟨0, 0, none⟩ = some (.int .i64 m)) (hs : s.size ≤ 1048576) (h0 : 0 < s.size) (ht : Hid (sqT s.data.toList = some (n, k))) :
    Calls Tryf.prog 14 #[.string s] w fun e w' => e = .returned (.tuple #[.int .i64 n, .int .i64 k, .string ⟨#[]⟩]) ∧ Below w.heap.size w w' := by
  refine (zztoken_any F s w m hF HNE hm hs h0).mono ?_
  rintro e w' ⟨⟨n', k', p, rfl, h⟩, hb⟩
  rw [ht.out] at h
  rcases h with ⟨h, rfl⟩ | ⟨h, _⟩
  · simp only [Option.some.injEq, Prod.mk.injEq] at h
    obtain ⟨rfl, rfl⟩ := h
    exact ⟨rfl, hb⟩
  · cases h
/-- the answer where none is read. -/
theorem zztoken_no (F : Interp) (s : ByteArray) (w : World) (m : Int) (hF : F.answers w.tape) (HNE : Hid (∀ c : UInt8, 0 < (FmtStop.textOf (F "fmt.Sprintf" (asked c.toNat) 0)).size))
    (hm : w.cell? ⟨0, 0, none⟩ = some (.int .i64 m)) (hs : s.size ≤ 1048576) (h0 : 0 < s.size) (ht : Hid (sqT s.data.toList = none)) :
    Calls Tryf.prog 14 #[.string s] w fun e w' => ∃ p : ByteArray, p.toList.isEmpty = false ∧ e = .returned (.tuple #[.int .i64 0, .int .i64 0, .string p]) ∧ Below w.heap.size w w' := by
  refine (zztoken_any F s w m hF HNE hm hs h0).mono ?_
  rintro e w' ⟨⟨n', k', p, rfl, h⟩, hb⟩
  rw [ht.out] at h
  rcases h with ⟨h, _⟩ | ⟨_, rfl, rfl, hp⟩
  · cases h
  · refine ⟨p, ?_, rfl, hb⟩
    rw [Lib.toList_data]
    cases hl : p.data.toList with
    | nil =>
      have : p.data.toList.length = p.size := rfl
      rw [hl] at this; simp at this; omega
    | cons a r => rfl

theorem take_list (s : ByteArray) (n : Nat) : (s.extract 0 n).data.toList = s.data.toList.take n := by
  rw [Lib.extract_data]; simp

set_option maxHeartbeats 1000000 in
set_option maxRecDepth 100000 in
theorem core (F : Interp) (s t : ByteArray) (w : World) (m : Int) (hF : F.answers w.tape) (HNE : Hid (∀ c : UInt8, 0 < (FmtStop.textOf (F "fmt.Sprintf" (asked c.toNat) 0)).size))
    (hm : w.cell? ⟨0, 0, none⟩ = some (.int .i64 m)) (hs : s.size + t.size ≤ 1048576) (h0 : 0 < s.size) :
    Calls Tryf.prog 5 #[.string s, .string t] w fun e w' => e = .returned (.bool true) ∧ Below w.heap.size w w' := by
  have HF : Hid (F.answers w.tape) := hF
  have HM : Hid (w.cell? ⟨0, 0, none⟩ = some (.int .i64 m)) := hm
  have HW : Hid (0 < w.heap.size) := World.block_lt_of_cell? w ⟨0, 0, none⟩ hm
  clear hF hm
  have ez : ((s.size : Int) == 0) = false := by rw [beq_eq_false_iff_ne]; omega
  cases ht : sqT s.data.toList with
  | none =>
    have HT : Hid (sqT s.data.toList = none) := ht
    clear ht
    go_enter Tryf.func5, Tryf.ntmps5
    go_wp2_with (first | (go_at_call 13; refine (bytes_yes _ _ _ hs).mono ?_; rintro e w' ⟨rfl, rfl⟩) | (go_at_call 14; refine (zztoken_no F s _ m (by exact HF.out) HNE (by exact HM.out) (by omega) h0 HT).mono ?_; rintro e w' ⟨p, hp, rfl, hb⟩))
    go_ret
    exact ⟨rfl, hb⟩
  | some nk =>
    obtain ⟨n, k⟩ := nk
    have HT : Hid (sqT s.data.toList = some (n, k)) := ht
    have hbd := sqT_bound (by show 1 ≤ s.size; omega) ht
    clear ht
    have hn1 : 1 ≤ n := hbd.1
    have hn2 : n ≤ s.size := hbd.2.1
    have hk : k ≤ 5 := hbd.2.2
    clear hbd
    have T2 : Hid (sqT (s.extract 0 n).data.toList = some (n, k)) := by
      unfold Hid; rw [take_list]
      exact sqT_local (by show 1 ≤ s.size; omega) HT.out (pre_take _ _)
    go_enter Tryf.func5, Tryf.ntmps5
    go_wp2_with (go_at_call 13; refine (bytes_yes _ _ _ hs).mono ?_; rintro e w ⟨rfl, rfl⟩)
    refine (zztoken_yes F s _ m n k (by exact HF.out) HNE (by exact HM.out) (by omega) h0 HT).mono ?_
    rintro e w1 ⟨rfl, hb1⟩
    have HF1 : Hid (F.answers w1.tape) := by unfold Hid; rw [hb1.tape]; exact HF.out
    have HM1 : Hid (w1.cell? ⟨0, 0, none⟩ = some (.int .i64 m)) := by unfold Hid; rw [hb1.cell HW.out]; exact HM.out
    have HB1 : Hid (Below w.heap.size w w1) := hb1
    clear hb1
    go_wp2_with fail
    have hs2 : (s.extract 0 n).size = n := by rw [ByteArray.size_extract]; omega
    refine (zztoken_yes F (s.extract 0 n) _ m n k (by exact HF1.out) HNE (by exact HM1.out) (by omega) (by omega) T2).mono ?_
    rintro e w2 ⟨rfl, hb2⟩
    have HF2 : Hid (F.answers w2.tape) := by unfold Hid; rw [hb2.tape]; exact HF1.out
    have HM2 : Hid (w2.cell? ⟨0, 0, none⟩ = some (.int .i64 m)) := by unfold Hid; rw [hb2.cell (by have := HB1.out.size; have := HW.out; show 0 < w1.heap.size; omega)]; exact HM1.out
    have HB2 : Hid (Below w.heap.size w w2) := HB1.out.trans (hb2.mono HB1.out.size)
    clear hb2 hs2
    by_cases h2 : n + 2 ≤ s.size
    · have T3 : Hid (sqT (s.extract 0 (n + 2) ++ t).data.toList = some (n, k)) := by
        unfold Hid
        rw [show (s.extract 0 (n + 2) ++ t).data.toList = (s.extract 0 (n + 2)).data.toList ++ t.data.toList from by simp, take_list]
        exact sqT_local (by show 1 ≤ s.size; omega) HT.out (pre_more _ _ _ h2)
      go_wp2_with fail
      have hs3 : (s.extract 0 (n + 2) ++ t).size = n + 2 + t.size := by rw [ByteArray.size_append, ByteArray.size_extract]; omega
      refine (zztoken_yes F (s.extract 0 (n + 2) ++ t) _ m n k (by exact HF2.out) HNE (by exact HM2.out) (by omega) (by omega) T3).mono ?_
      rintro e w3 ⟨rfl, hb3⟩
      have HB3 : Hid (Below w.heap.size w w3) := HB2.out.trans (hb3.mono HB2.out.size)
      clear hb3 hs3
      go_wp2_with fail
      go_ret
      exact ⟨rfl, HB3.out⟩
    · go_wp2_with fail
      go_ret
      exact ⟨rfl, HB2.out⟩

end Go.Proofs.Qxb6613816aFmt.Tok
