/- The walk of FnSqliteTokenAgreesWithMysqlOnNamesAndNumbers. -/
import Derived.Test.Qxb6613816aFmtMy4
namespace Go.Proofs.Qxb6613816aFmt.Tok
open Go.RowKit Go.Extern.Stop Go.Stop Go.Extern Go.Kit
set_option linter.unusedVariables false

theorem lex_new (w : World) : Lex (w.alloc (.cells #[.func (Fn.func 21) #[] #[], .bool false, .bool false] 46)) w.heap.size := by
  refine ⟨by rw [World.cell?_alloc_mark]; rfl, by rw [World.cell?_alloc_mark]; rfl, ?_⟩
  rw [frozen?_alloc_cells]
  simp [World.frozen?]

theorem alloc_below (w : World) (o : Obj) : Below w.heap.size w (w.alloc o) := (Below.refl _ _).alloc (Nat.le_refl _) o

set_option maxHeartbeats 400000 in
/-- ZZMysqlTokenEveryRuns hands on what token answers. -/
theorem zzmy_of (s : ByteArray) (w : World) (P : Int → Int → ByteArray → Prop)
    (h : Hid (Calls Tryf.prog 26 #[.pointer (some ⟨w.heap.size, 0, none⟩), .string s] (w.alloc (.cells #[.func (Fn.func 21) #[] #[], .bool false, .bool false] 46)) fun e w' => (∃ n k p, e = .returned (.tuple #[.int .i64 n, .int .i64 k, .string p]) ∧ P n k p) ∧ Below w.heap.size (w.alloc (.cells #[.func (Fn.func 21) #[] #[], .bool false, .bool false] 46)) w')) :
    Calls Tryf.prog 16 #[.string s] w fun e w' => (∃ n k p, e = .returned (.tuple #[.int .i64 n, .int .i64 k, .string p]) ∧ P n k p) ∧ Below w.heap.size w w' := by
  go_enter Tryf.func16, Tryf.ntmps16
  go_wp2_with (go_at_call 26; refine h.out.mono ?_; rintro e w' ⟨⟨n, k, p, rfl, HP⟩, hb⟩; have HP' : Hid (P n k p) := HP; clear HP)
  go_ret3
  exact ⟨⟨_, _, _, rfl, HP'.out⟩, (alloc_below w _).trans hb⟩

theorem zzmy_word (s : ByteArray) (w : World) (hs : s.size ≤ 1048576) (h0 : 0 < s.size) (he : Hid ((97 ≤ s[0].toNat ∧ s[0].toNat ≤ 122) ∨ (65 ≤ s[0].toNat ∧ s[0].toNat ≤ 90) ∨ s[0].toNat = 95 ∨ s[0].toNat = 36 ∨ 128 ≤ s[0].toNat)) :
    Calls Tryf.prog 16 #[.string s] w fun e w' => (∃ n k p, e = .returned (.tuple #[.int .i64 n, .int .i64 k, .string p]) ∧ (n = (run idc s.data.toList 1 : Nat) ∧ k = 0 ∧ p = ⟨#[]⟩)) ∧ Below w.heap.size w w' := by
  refine zzmy_of s w (fun n k p => n = (run idc s.data.toList 1 : Nat) ∧ k = 0 ∧ p = ⟨#[]⟩) ?_
  refine (mtok_word s _ _ hs h0 (lex_new w) he).mono ?_
  rintro e w' ⟨rfl, rfl⟩
  exact ⟨⟨_, _, _, rfl, rfl, rfl, rfl⟩, Below.refl _ _⟩

theorem zzmy_num (s : ByteArray) (w : World) (hs : s.size ≤ 1048576) (h0 : 0 < s.size) (hg : g7 s.data.toList = true) :
    Calls Tryf.prog 16 #[.string s] w fun e w' => (∃ n k p, e = .returned (.tuple #[.int .i64 n, .int .i64 k, .string p]) ∧ (n = (numE xB s.data.toList : Nat) ∧ k = 3 ∧ p = ⟨#[]⟩)) ∧ Below w.heap.size w w' := by
  refine zzmy_of s w (fun n k p => n = (numE xB s.data.toList : Nat) ∧ k = 3 ∧ p = ⟨#[]⟩) ?_
  have A0 : ∀ p, isAt s.data.toList 0 p = p s[0] := isAt_get s 0 h0
  unfold Hid
  cases hd : dig s[0] with
  | true =>
    refine (mtok_num_d s _ _ hs h0 (lex_new w) ?_).mono ?_
    · unfold dig at hd; simp at hd; exact hd
    · rintro e w' ⟨rfl, rfl⟩
      exact ⟨⟨_, _, _, rfl, rfl, rfl, rfl⟩, Below.refl _ _⟩
  | false =>
    unfold g7 at hg
    rw [A0, A0, hd, Bool.false_or, Bool.and_eq_true] at hg
    have h46 : s[0].toNat = 46 := by have := hg.1; unfold eql at this; simpa using this
    have h1 : 1 < s.size := isAt_lt hg.2
    have hd1 : dig s[1] = true := (isAt_get s 1 h1 dig).symm.trans hg.2
    refine (mtok_num_p s _ _ hs h0 (lex_new w) h46 h1 hd1).mono ?_
    rintro e w' ⟨rfl, rfl⟩
    exact ⟨⟨_, _, _, rfl, rfl, rfl, rfl⟩, Below.refl _ _⟩

theorem zzmy_any (F : Interp) (s : ByteArray) (w : World) (m : Int) (hs : s.size ≤ 1048576) (h0 : 0 < s.size) (hF : F.answers w.tape) (hm : w.cell? ⟨0, 0, none⟩ = some (.int .i64 m)) :
    Calls Tryf.prog 16 #[.string s] w fun e w' => (∃ n k p, e = .returned (.tuple #[.int .i64 n, .int .i64 k, .string p]) ∧ True) ∧ Below w.heap.size w w' := by
  have A0 : ∀ p, isAt s.data.toList 0 p = p s[0] := isAt_get s 0 h0
  have weak : ∀ (P : Int → Int → ByteArray → Prop), (Calls Tryf.prog 16 #[.string s] w fun e w' => (∃ n k p, e = .returned (.tuple #[.int .i64 n, .int .i64 k, .string p]) ∧ P n k p) ∧ Below w.heap.size w w') →
      Calls Tryf.prog 16 #[.string s] w fun e w' => (∃ n k p, e = .returned (.tuple #[.int .i64 n, .int .i64 k, .string p]) ∧ True) ∧ Below w.heap.size w w' := by
    intro P h
    refine h.mono ?_
    rintro e w' ⟨⟨n, k, p, rfl, _⟩, hb⟩
    exact ⟨⟨n, k, p, rfl, trivial⟩, hb⟩
  by_cases hg : g7 s.data.toList = true
  · exact weak _ (zzmy_num s w hs h0 hg)
  by_cases hw : (97 ≤ s[0].toNat ∧ s[0].toNat ≤ 122) ∨ (65 ≤ s[0].toNat ∧ s[0].toNat ≤ 90) ∨ s[0].toNat = 95 ∨ s[0].toNat = 36 ∨ 128 ≤ s[0].toNat
  · exact weak _ (zzmy_word s w hs h0 hw)
  have pd : dig s[0] = false := by
    cases hd : dig s[0] with
    | false => rfl
    | true => exact absurd (by unfold g7; rw [A0, hd]; rfl) hg
  have pi : idc s[0] = false := by unfold idc ltr; rw [pd]; simp; omega
  have HF : Hid (F.answers (w.alloc (.cells #[.func (Fn.func 21) #[] #[], .bool false, .bool false] 46)).tape) := hF
  have h0w : 0 < w.heap.size := World.block_lt_of_cell? w ⟨0, 0, none⟩ hm
  have HM : Hid ((w.alloc (.cells #[.func (Fn.func 21) #[] #[], .bool false, .bool false] 46)).cell? ⟨0, 0, none⟩ = some (.int .i64 m)) := by
    unfold Hid; rw [(alloc_below w _).cell (p := ⟨0, 0, none⟩) h0w]; exact hm
  have HL : Hid (Lex (w.alloc (.cells #[.func (Fn.func 21) #[] #[], .bool false, .bool false] 46)) w.heap.size) := lex_new w
  refine zzmy_of s w (fun _ _ _ => True) ?_
  unfold Hid
  have fin : ∀ {Q : Ending → World → Prop}, (Calls Tryf.prog 26 #[.pointer (some ⟨w.heap.size, 0, none⟩), .string s] (w.alloc (.cells #[.func (Fn.func 21) #[] #[], .bool false, .bool false] 46)) Q) → (∀ e w', Q e w' → Three e ∧ Below w.heap.size (w.alloc (.cells #[.func (Fn.func 21) #[] #[], .bool false, .bool false] 46)) w') →
      Calls Tryf.prog 26 #[.pointer (some ⟨w.heap.size, 0, none⟩), .string s] (w.alloc (.cells #[.func (Fn.func 21) #[] #[], .bool false, .bool false] 46)) fun e w' => (∃ n k p, e = .returned (.tuple #[.int .i64 n, .int .i64 k, .string p]) ∧ True) ∧ Below w.heap.size (w.alloc (.cells #[.func (Fn.func 21) #[] #[], .bool false, .bool false] 46)) w' := by
    intro Q h hq
    refine h.mono ?_
    intro e w' hQ
    obtain ⟨⟨n, k, p, rfl⟩, hb⟩ := hq e w' hQ
    exact ⟨⟨n, k, p, rfl, trivial⟩, hb⟩
  cases t35 : ((s[0].toNat : Int) == 35) with
  | true => exact fin (many35 F s _ m _ _ (Nat.le_refl _) hs h0 HF HM HL t35) (fun _ _ h => h)
  | false =>
    cases p4 : Lib.hasPrefix s.data.toList [47, 42] with
    | true => exact fin (manyC F s _ m _ _ (Nat.le_refl _) hs h0 HF HM HL t35 (hp_size s _ p4) p4) (fun _ _ h => h)
    | false =>
      cases t39 : ((s[0].toNat : Int) == 39) with
      | true => exact fin (many39 F s _ m _ _ (Nat.le_refl _) hs h0 HF HM HL t35 p4 t39) (fun _ _ h => h)
      | false =>
        cases t34 : ((s[0].toNat : Int) == 34) with
        | true => exact fin (many34 F s _ m _ _ (Nat.le_refl _) hs h0 HF HM HL t35 p4 t39 t34) (fun _ _ h => h)
        | false =>
          cases t96 : ((s[0].toNat : Int) == 96) with
          | true => exact fin (many96 F s _ m _ _ (Nat.le_refl _) hs h0 HF HM HL t35 p4 t39 t34 t96) (fun _ _ h => h)
          | false =>
            cases t46 : ((s[0].toNat : Int) == 46) with
            | false => exact fin (manyO F s _ m _ _ (Nat.le_refl _) hs h0 HF HM HL t35 p4 t39 t34 t96 pd pi t46) (fun _ _ h => h)
            | true =>
              by_cases h1 : 1 < s.size
              · have hd1 : dig s[1] = false := by
                  cases hd : dig s[1] with
                  | false => rfl
                  | true => exact absurd (by unfold g7; rw [A0, A0, pd, isAt_get s 1 h1, hd, eqlB (n := 46) _ t46]; rfl) hg
                exact fin (manyPb F s _ m _ _ (Nat.le_refl _) hs h0 HF HM HL t35 p4 t39 t34 t96 pd pi t46 h1 hd1) (fun _ _ h => h)
              · exact fin (manyPa F s _ m _ _ (Nat.le_refl _) hs h0 HF HM HL t35 p4 t39 t34 t96 pd pi t46 h1) (fun _ _ h => h)

end Go.Proofs.Qxb6613816aFmt.Tok
