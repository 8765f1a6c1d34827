/- The walk of sqliteToken, a theorem a branch of its switch: the rest. -/
import Derived.Test.Qxb6613816aFmtWk7
namespace Go.Proofs.Qxb6613816aFmt.Tok
open Go.RowKit Go.Extern.Stop Go.Stop Go.Extern Go.Kit
set_option linter.unusedVariables false

set_option maxHeartbeats 1000000 in
set_option maxRecDepth 100000 in
theorem tok7_d (s : ByteArray) (w : World) (hs : s.size ≤ 1048576) (h0 : 0 < s.size) (he : Hid (48 ≤ s[0].toNat ∧ s[0].toNat ≤ 57)) :
    Calls Tryf.prog 25 #[.string s] w fun e w' => Said (b7 s.data.toList) e ∧ w' = w := by
  have hx : Lib.indexByte [32, 9, 10, 12, 13] s[0] < 0 := spc_no (by have := he.out; unfold spc; simp; omega)
  have p2 : Lib.hasPrefix s.data.toList [239, 187, 191] = false := hp_head3 s h0 _ _ _ (by have := he.out; simp; omega)
  have p3 : Lib.hasPrefix s.data.toList [45, 45] = false := hp_head2 s h0 _ _ (by have := he.out; simp; omega)
  have p4 : Lib.hasPrefix s.data.toList [47, 42] = false := hp_head2 s h0 _ _ (by have := he.out; simp; omega)
  have t39 : ((s[0].toNat : Int) == 39) = false := by have := he.out; simp; omega
  have t34 : ((s[0].toNat : Int) == 34) = false := by have := he.out; simp; omega
  have t96 : ((s[0].toNat : Int) == 96) = false := by have := he.out; simp; omega
  have t91 : ((s[0].toNat : Int) == 91) = false := by have := he.out; simp; omega
  have pd : dig s[0] = true := by have := he.out; unfold dig; simp; omega
  go_enter Tryf.func25, Tryf.ntmps25
  go_wp2_with (first | (go_at_call 29; refine (Tryf.strings_IndexByte _ _ _).mono ?_; rintro e w' ⟨rfl, rfl⟩) | (go_at_call 31; refine (Tryf.strings_HasPrefix _ _ _).mono ?_; rintro e w' ⟨rfl, rfl⟩) | (go_at_call 34; refine (isDigit_any _ _).mono ?_; rintro e w' ⟨rfl, rfl⟩) | (go_at_call 35; refine (number_any s _ hs).mono ?_; rintro e w' ⟨HQ, rfl⟩; obtain ⟨n, k, p, rfl, HP⟩ := HQ))
  go_ret3
  exact ⟨⟨n, k, p, rfl, HP⟩, rfl⟩

set_option maxHeartbeats 1000000 in
set_option maxRecDepth 100000 in
theorem tok7_p (s : ByteArray) (w : World) (hs : s.size ≤ 1048576) (h0 : 0 < s.size) (he : Hid (s[0].toNat = 46)) (h1 : 1 < s.size) (hd : dig s[1] = true) :
    Calls Tryf.prog 25 #[.string s] w fun e w' => Said (b7 s.data.toList) e ∧ w' = w := by
  have hx : Lib.indexByte [32, 9, 10, 12, 13] s[0] < 0 := spc_no (by have := he.out; unfold spc; simp; omega)
  have p2 : Lib.hasPrefix s.data.toList [239, 187, 191] = false := hp_head3 s h0 _ _ _ (by have := he.out; simp; omega)
  have p3 : Lib.hasPrefix s.data.toList [45, 45] = false := hp_head2 s h0 _ _ (by have := he.out; simp; omega)
  have p4 : Lib.hasPrefix s.data.toList [47, 42] = false := hp_head2 s h0 _ _ (by have := he.out; simp; omega)
  have t39 : ((s[0].toNat : Int) == 39) = false := by have := he.out; simp; omega
  have t34 : ((s[0].toNat : Int) == 34) = false := by have := he.out; simp; omega
  have t96 : ((s[0].toNat : Int) == 96) = false := by have := he.out; simp; omega
  have t91 : ((s[0].toNat : Int) == 91) = false := by have := he.out; simp; omega
  have pd : dig s[0] = false := by have := he.out; unfold dig; simp; omega
  have t46 : ((s[0].toNat : Int) == 46) = true := by have := he.out; simp; omega
  go_enter Tryf.func25, Tryf.ntmps25
  go_wp2_with (first | (go_at_call 29; refine (Tryf.strings_IndexByte _ _ _).mono ?_; rintro e w' ⟨rfl, rfl⟩) | (go_at_call 31; refine (Tryf.strings_HasPrefix _ _ _).mono ?_; rintro e w' ⟨rfl, rfl⟩) | (go_at_call 34; refine (isDigit_any _ _).mono ?_; rintro e w' ⟨rfl, rfl⟩) | (go_at_call 35; refine (number_any s _ hs).mono ?_; rintro e w' ⟨HQ, rfl⟩; obtain ⟨n, k, p, rfl, HP⟩ := HQ))
  go_ret3
  exact ⟨⟨n, k, p, rfl, HP⟩, rfl⟩

set_option maxHeartbeats 1000000 in
set_option maxRecDepth 100000 in
theorem tok8 (s : ByteArray) (w : World) (hs : s.size ≤ 1048576) (h0 : 0 < s.size) (he : Hid (s[0].toNat = 63)) :
    Calls Tryf.prog 25 #[.string s] w fun e w' => Said (some (run dig s.data.toList 1, 3)) e ∧ w' = w := by
  have hx : Lib.indexByte [32, 9, 10, 12, 13] s[0] < 0 := spc_no (by have := he.out; unfold spc; simp; omega)
  have p2 : Lib.hasPrefix s.data.toList [239, 187, 191] = false := hp_head3 s h0 _ _ _ (by have := he.out; simp; omega)
  have p3 : Lib.hasPrefix s.data.toList [45, 45] = false := hp_head2 s h0 _ _ (by have := he.out; simp; omega)
  have p4 : Lib.hasPrefix s.data.toList [47, 42] = false := hp_head2 s h0 _ _ (by have := he.out; simp; omega)
  have t39 : ((s[0].toNat : Int) == 39) = false := by have := he.out; simp; omega
  have t34 : ((s[0].toNat : Int) == 34) = false := by have := he.out; simp; omega
  have t96 : ((s[0].toNat : Int) == 96) = false := by have := he.out; simp; omega
  have t91 : ((s[0].toNat : Int) == 91) = false := by have := he.out; simp; omega
  have pd : dig s[0] = false := by have := he.out; unfold dig; simp; omega
  have t46 : ((s[0].toNat : Int) == 46) = false := by have := he.out; simp; omega
  have t63 : ((s[0].toNat : Int) == 63) = true := by have := he.out; simp; omega
  go_enter Tryf.func25, Tryf.ntmps25
  go_wp2_with (first | (go_at_call 29; refine (Tryf.strings_IndexByte _ _ _).mono ?_; rintro e w' ⟨rfl, rfl⟩) | (go_at_call 31; refine (Tryf.strings_HasPrefix _ _ _).mono ?_; rintro e w' ⟨rfl, rfl⟩) | (go_at_call 34; refine (isDigit_any _ _).mono ?_; rintro e w' ⟨rfl, rfl⟩))
  go_loop [2] (fun v => ∃ k : Nat, k ≤ s.size ∧ v = .int .i64 k ∧ Hid (run dig s.data.toList 1 = run dig s.data.toList k)) (fun v => s.size - (intOf v).toNat)
  case atStart => exact ⟨1, h0, rfl, rfl⟩
  case round =>
    obtain ⟨k, hk, rfl, HR⟩ := hrel
    by_cases hlt : k < s.size
    · have HG : Hid (∀ p, isAt s.data.toList k p = p s[k]) := isAt_get s k hlt
      rcases hd : dig s[k] with _ | _
      · have HE : Hid (run dig s.data.toList k = k) := run_here (by rw [HG.out]; exact hd)
        go_wp2_with (go_at_call 34; refine (isDigit_any _ _).mono ?_; rintro e w' ⟨rfl, rfl⟩)
        go_ret3
        exact ⟨said_yes k 3 _ _ (by rw [HR.out, HE.out]) rfl rfl, rfl⟩
      · have HE : Hid (run dig s.data.toList k = run dig s.data.toList (k + 1)) := run_step (by rw [HG.out]; exact hd)
        go_wp2_with (go_at_call 34; refine (isDigit_any _ _).mono ?_; rintro e w' ⟨rfl, rfl⟩)
        go_round
        case rel => exact ⟨k + 1, by omega, by go_num, HR.out.trans HE.out⟩
        case measure => simp [intOf]; omega
    · have HE : Hid (run dig s.data.toList k = k) := run_here (isAt_out s k hlt _)
      go_wp2_with (go_at_call 34; refine (isDigit_any _ _).mono ?_; rintro e w' ⟨rfl, rfl⟩)
      go_ret3
      exact ⟨said_yes k 3 _ _ (by rw [HR.out, HE.out]) rfl rfl, rfl⟩

set_option maxHeartbeats 1000000 in
set_option maxRecDepth 100000 in
theorem tok9_36 (s : ByteArray) (w : World) (hs : s.size ≤ 1048576) (h0 : 0 < s.size) (he : Hid (s[0].toNat = 36)) :
    Calls Tryf.prog 25 #[.string s] w fun e w' => Said (b9 s.data.toList) e ∧ w' = w := by
  have hx : Lib.indexByte [32, 9, 10, 12, 13] s[0] < 0 := spc_no (by have := he.out; unfold spc; simp; omega)
  have p2 : Lib.hasPrefix s.data.toList [239, 187, 191] = false := hp_head3 s h0 _ _ _ (by have := he.out; simp; omega)
  have p3 : Lib.hasPrefix s.data.toList [45, 45] = false := hp_head2 s h0 _ _ (by have := he.out; simp; omega)
  have p4 : Lib.hasPrefix s.data.toList [47, 42] = false := hp_head2 s h0 _ _ (by have := he.out; simp; omega)
  have t39 : ((s[0].toNat : Int) == 39) = false := by have := he.out; simp; omega
  have t34 : ((s[0].toNat : Int) == 34) = false := by have := he.out; simp; omega
  have t96 : ((s[0].toNat : Int) == 96) = false := by have := he.out; simp; omega
  have t91 : ((s[0].toNat : Int) == 91) = false := by have := he.out; simp; omega
  have pd : dig s[0] = false := by have := he.out; unfold dig; simp; omega
  have t46 : ((s[0].toNat : Int) == 46) = false := by have := he.out; simp; omega
  have t63 : ((s[0].toNat : Int) == 63) = false := by have := he.out; simp; omega
  have t36 : ((s[0].toNat : Int) == 36) = true := by have := he.out; simp; omega
  go_enter Tryf.func25, Tryf.ntmps25
  go_wp2_with (first | (go_at_call 29; refine (Tryf.strings_IndexByte _ _ _).mono ?_; rintro e w' ⟨rfl, rfl⟩) | (go_at_call 31; refine (Tryf.strings_HasPrefix _ _ _).mono ?_; rintro e w' ⟨rfl, rfl⟩) | (go_at_call 34; refine (isDigit_any _ _).mono ?_; rintro e w' ⟨rfl, rfl⟩) | (go_at_call 36; refine (param_any s _ hs h0).mono ?_; rintro e w' ⟨HQ, rfl⟩; obtain ⟨n, k, p, rfl, HP⟩ := HQ))
  go_ret3
  exact ⟨⟨n, k, p, rfl, HP⟩, rfl⟩

set_option maxHeartbeats 1000000 in
set_option maxRecDepth 100000 in
theorem tok9_64 (s : ByteArray) (w : World) (hs : s.size ≤ 1048576) (h0 : 0 < s.size) (he : Hid (s[0].toNat = 64)) :
    Calls Tryf.prog 25 #[.string s] w fun e w' => Said (b9 s.data.toList) e ∧ w' = w := by
  have hx : Lib.indexByte [32, 9, 10, 12, 13] s[0] < 0 := spc_no (by have := he.out; unfold spc; simp; omega)
  have p2 : Lib.hasPrefix s.data.toList [239, 187, 191] = false := hp_head3 s h0 _ _ _ (by have := he.out; simp; omega)
  have p3 : Lib.hasPrefix s.data.toList [45, 45] = false := hp_head2 s h0 _ _ (by have := he.out; simp; omega)
  have p4 : Lib.hasPrefix s.data.toList [47, 42] = false := hp_head2 s h0 _ _ (by have := he.out; simp; omega)
  have t39 : ((s[0].toNat : Int) == 39) = false := by have := he.out; simp; omega
  have t34 : ((s[0].toNat : Int) == 34) = false := by have := he.out; simp; omega
  have t96 : ((s[0].toNat : Int) == 96) = false := by have := he.out; simp; omega
  have t91 : ((s[0].toNat : Int) == 91) = false := by have := he.out; simp; omega
  have pd : dig s[0] = false := by have := he.out; unfold dig; simp; omega
  have t46 : ((s[0].toNat : Int) == 46) = false := by have := he.out; simp; omega
  have t63 : ((s[0].toNat : Int) == 63) = false := by have := he.out; simp; omega
  have t36 : ((s[0].toNat : Int) == 36) = false := by have := he.out; simp; omega
  have t64 : ((s[0].toNat : Int) == 64) = true := by have := he.out; simp; omega
  go_enter Tryf.func25, Tryf.ntmps25
  go_wp2_with (first | (go_at_call 29; refine (Tryf.strings_IndexByte _ _ _).mono ?_; rintro e w' ⟨rfl, rfl⟩) | (go_at_call 31; refine (Tryf.strings_HasPrefix _ _ _).mono ?_; rintro e w' ⟨rfl, rfl⟩) | (go_at_call 34; refine (isDigit_any _ _).mono ?_; rintro e w' ⟨rfl, rfl⟩) | (go_at_call 36; refine (param_any s _ hs h0).mono ?_; rintro e w' ⟨HQ, rfl⟩; obtain ⟨n, k, p, rfl, HP⟩ := HQ))
  go_ret3
  exact ⟨⟨n, k, p, rfl, HP⟩, rfl⟩

set_option maxHeartbeats 1000000 in
set_option maxRecDepth 100000 in
theorem tok9_35 (s : ByteArray) (w : World) (hs : s.size ≤ 1048576) (h0 : 0 < s.size) (he : Hid (s[0].toNat = 35)) :
    Calls Tryf.prog 25 #[.string s] w fun e w' => Said (b9 s.data.toList) e ∧ w' = w := by
  have hx : Lib.indexByte [32, 9, 10, 12, 13] s[0] < 0 := spc_no (by have := he.out; unfold spc; simp; omega)
  have p2 : Lib.hasPrefix s.data.toList [239, 187, 191] = false := hp_head3 s h0 _ _ _ (by have := he.out; simp; omega)
  have p3 : Lib.hasPrefix s.data.toList [45, 45] = false := hp_head2 s h0 _ _ (by have := he.out; simp; omega)
  have p4 : Lib.hasPrefix s.data.toList [47, 42] = false := hp_head2 s h0 _ _ (by have := he.out; simp; omega)
  have t39 : ((s[0].toNat : Int) == 39) = false := by have := he.out; simp; omega
  have t34 : ((s[0].toNat : Int) == 34) = false := by have := he.out; simp; omega
  have t96 : ((s[0].toNat : Int) == 96) = false := by have := he.out; simp; omega
  have t91 : ((s[0].toNat : Int) == 91) = false := by have := he.out; simp; omega
  have pd : dig s[0] = false := by have := he.out; unfold dig; simp; omega
  have t46 : ((s[0].toNat : Int) == 46) = false := by have := he.out; simp; omega
  have t63 : ((s[0].toNat : Int) == 63) = false := by have := he.out; simp; omega
  have t36 : ((s[0].toNat : Int) == 36) = false := by have := he.out; simp; omega
  have t64 : ((s[0].toNat : Int) == 64) = false := by have := he.out; simp; omega
  have t35 : ((s[0].toNat : Int) == 35) = true := by have := he.out; simp; omega
  go_enter Tryf.func25, Tryf.ntmps25
  go_wp2_with (first | (go_at_call 29; refine (Tryf.strings_IndexByte _ _ _).mono ?_; rintro e w' ⟨rfl, rfl⟩) | (go_at_call 31; refine (Tryf.strings_HasPrefix _ _ _).mono ?_; rintro e w' ⟨rfl, rfl⟩) | (go_at_call 34; refine (isDigit_any _ _).mono ?_; rintro e w' ⟨rfl, rfl⟩) | (go_at_call 36; refine (param_any s _ hs h0).mono ?_; rintro e w' ⟨HQ, rfl⟩; obtain ⟨n, k, p, rfl, HP⟩ := HQ))
  go_ret3
  exact ⟨⟨n, k, p, rfl, HP⟩, rfl⟩

set_option maxHeartbeats 1000000 in
set_option maxRecDepth 100000 in
theorem tok9_58 (s : ByteArray) (w : World) (hs : s.size ≤ 1048576) (h0 : 0 < s.size) (he : Hid (s[0].toNat = 58)) :
    Calls Tryf.prog 25 #[.string s] w fun e w' => Said (b9 s.data.toList) e ∧ w' = w := by
  have hx : Lib.indexByte [32, 9, 10, 12, 13] s[0] < 0 := spc_no (by have := he.out; unfold spc; simp; omega)
  have p2 : Lib.hasPrefix s.data.toList [239, 187, 191] = false := hp_head3 s h0 _ _ _ (by have := he.out; simp; omega)
  have p3 : Lib.hasPrefix s.data.toList [45, 45] = false := hp_head2 s h0 _ _ (by have := he.out; simp; omega)
  have p4 : Lib.hasPrefix s.data.toList [47, 42] = false := hp_head2 s h0 _ _ (by have := he.out; simp; omega)
  have t39 : ((s[0].toNat : Int) == 39) = false := by have := he.out; simp; omega
  have t34 : ((s[0].toNat : Int) == 34) = false := by have := he.out; simp; omega
  have t96 : ((s[0].toNat : Int) == 96) = false := by have := he.out; simp; omega
  have t91 : ((s[0].toNat : Int) == 91) = false := by have := he.out; simp; omega
  have pd : dig s[0] = false := by have := he.out; unfold dig; simp; omega
  have t46 : ((s[0].toNat : Int) == 46) = false := by have := he.out; simp; omega
  have t63 : ((s[0].toNat : Int) == 63) = false := by have := he.out; simp; omega
  have t36 : ((s[0].toNat : Int) == 36) = false := by have := he.out; simp; omega
  have t64 : ((s[0].toNat : Int) == 64) = false := by have := he.out; simp; omega
  have t35 : ((s[0].toNat : Int) == 35) = false := by have := he.out; simp; omega
  have t58 : ((s[0].toNat : Int) == 58) = true := by have := he.out; simp; omega
  go_enter Tryf.func25, Tryf.ntmps25
  go_wp2_with (first | (go_at_call 29; refine (Tryf.strings_IndexByte _ _ _).mono ?_; rintro e w' ⟨rfl, rfl⟩) | (go_at_call 31; refine (Tryf.strings_HasPrefix _ _ _).mono ?_; rintro e w' ⟨rfl, rfl⟩) | (go_at_call 34; refine (isDigit_any _ _).mono ?_; rintro e w' ⟨rfl, rfl⟩) | (go_at_call 36; refine (param_any s _ hs h0).mono ?_; rintro e w' ⟨HQ, rfl⟩; obtain ⟨n, k, p, rfl, HP⟩ := HQ))
  go_ret3
  exact ⟨⟨n, k, p, rfl, HP⟩, rfl⟩

set_option maxHeartbeats 1000000 in
set_option maxRecDepth 100000 in
theorem tok10_120 (s : ByteArray) (w : World) (hs : s.size ≤ 1048576) (h0 : 0 < s.size) (he : Hid (s[0].toNat = 120)) (h1 : 1 < s.size) (hq : ((s[1].toNat : Int) == 39) = true) :
    Calls Tryf.prog 25 #[.string s] w fun e w' => Said (b10 s.data.toList) e ∧ w' = w := by
  have hx : Lib.indexByte [32, 9, 10, 12, 13] s[0] < 0 := spc_no (by have := he.out; unfold spc; simp; omega)
  have p2 : Lib.hasPrefix s.data.toList [239, 187, 191] = false := hp_head3 s h0 _ _ _ (by have := he.out; simp; omega)
  have p3 : Lib.hasPrefix s.data.toList [45, 45] = false := hp_head2 s h0 _ _ (by have := he.out; simp; omega)
  have p4 : Lib.hasPrefix s.data.toList [47, 42] = false := hp_head2 s h0 _ _ (by have := he.out; simp; omega)
  have t39 : ((s[0].toNat : Int) == 39) = false := by have := he.out; simp; omega
  have t34 : ((s[0].toNat : Int) == 34) = false := by have := he.out; simp; omega
  have t96 : ((s[0].toNat : Int) == 96) = false := by have := he.out; simp; omega
  have t91 : ((s[0].toNat : Int) == 91) = false := by have := he.out; simp; omega
  have pd : dig s[0] = false := by have := he.out; unfold dig; simp; omega
  have t46 : ((s[0].toNat : Int) == 46) = false := by have := he.out; simp; omega
  have t63 : ((s[0].toNat : Int) == 63) = false := by have := he.out; simp; omega
  have t36 : ((s[0].toNat : Int) == 36) = false := by have := he.out; simp; omega
  have t64 : ((s[0].toNat : Int) == 64) = false := by have := he.out; simp; omega
  have t35 : ((s[0].toNat : Int) == 35) = false := by have := he.out; simp; omega
  have t58 : ((s[0].toNat : Int) == 58) = false := by have := he.out; simp; omega
  have t120 : ((s[0].toNat : Int) == 120) = true := by have := he.out; simp; omega
  go_enter Tryf.func25, Tryf.ntmps25
  go_wp2_with (first | (go_at_call 29; refine (Tryf.strings_IndexByte _ _ _).mono ?_; rintro e w' ⟨rfl, rfl⟩) | (go_at_call 31; refine (Tryf.strings_HasPrefix _ _ _).mono ?_; rintro e w' ⟨rfl, rfl⟩) | (go_at_call 34; refine (isDigit_any _ _).mono ?_; rintro e w' ⟨rfl, rfl⟩) | (go_at_call 37; refine (blob_any s _ hs h1).mono ?_; rintro e w' ⟨HQ, rfl⟩; obtain ⟨n, k, p, rfl, HP⟩ := HQ))
  go_ret3
  exact ⟨⟨n, k, p, rfl, HP⟩, rfl⟩

set_option maxHeartbeats 1000000 in
set_option maxRecDepth 100000 in
theorem tok10_88 (s : ByteArray) (w : World) (hs : s.size ≤ 1048576) (h0 : 0 < s.size) (he : Hid (s[0].toNat = 88)) (h1 : 1 < s.size) (hq : ((s[1].toNat : Int) == 39) = true) :
    Calls Tryf.prog 25 #[.string s] w fun e w' => Said (b10 s.data.toList) e ∧ w' = w := by
  have hx : Lib.indexByte [32, 9, 10, 12, 13] s[0] < 0 := spc_no (by have := he.out; unfold spc; simp; omega)
  have p2 : Lib.hasPrefix s.data.toList [239, 187, 191] = false := hp_head3 s h0 _ _ _ (by have := he.out; simp; omega)
  have p3 : Lib.hasPrefix s.data.toList [45, 45] = false := hp_head2 s h0 _ _ (by have := he.out; simp; omega)
  have p4 : Lib.hasPrefix s.data.toList [47, 42] = false := hp_head2 s h0 _ _ (by have := he.out; simp; omega)
  have t39 : ((s[0].toNat : Int) == 39) = false := by have := he.out; simp; omega
  have t34 : ((s[0].toNat : Int) == 34) = false := by have := he.out; simp; omega
  have t96 : ((s[0].toNat : Int) == 96) = false := by have := he.out; simp; omega
  have t91 : ((s[0].toNat : Int) == 91) = false := by have := he.out; simp; omega
  have pd : dig s[0] = false := by have := he.out; unfold dig; simp; omega
  have t46 : ((s[0].toNat : Int) == 46) = false := by have := he.out; simp; omega
  have t63 : ((s[0].toNat : Int) == 63) = false := by have := he.out; simp; omega
  have t36 : ((s[0].toNat : Int) == 36) = false := by have := he.out; simp; omega
  have t64 : ((s[0].toNat : Int) == 64) = false := by have := he.out; simp; omega
  have t35 : ((s[0].toNat : Int) == 35) = false := by have := he.out; simp; omega
  have t58 : ((s[0].toNat : Int) == 58) = false := by have := he.out; simp; omega
  have t120 : ((s[0].toNat : Int) == 120) = false := by have := he.out; simp; omega
  have t88 : ((s[0].toNat : Int) == 88) = true := by have := he.out; simp; omega
  go_enter Tryf.func25, Tryf.ntmps25
  go_wp2_with (first | (go_at_call 29; refine (Tryf.strings_IndexByte _ _ _).mono ?_; rintro e w' ⟨rfl, rfl⟩) | (go_at_call 31; refine (Tryf.strings_HasPrefix _ _ _).mono ?_; rintro e w' ⟨rfl, rfl⟩) | (go_at_call 34; refine (isDigit_any _ _).mono ?_; rintro e w' ⟨rfl, rfl⟩) | (go_at_call 37; refine (blob_any s _ hs h1).mono ?_; rintro e w' ⟨HQ, rfl⟩; obtain ⟨n, k, p, rfl, HP⟩ := HQ))
  go_ret3
  exact ⟨⟨n, k, p, rfl, HP⟩, rfl⟩

set_option maxHeartbeats 1000000 in
set_option maxRecDepth 100000 in
theorem tok11_l (s : ByteArray) (w : World) (hs : s.size ≤ 1048576) (h0 : 0 < s.size) (he : Hid (((97 ≤ s[0].toNat ∧ s[0].toNat ≤ 122) ∨ (65 ≤ s[0].toNat ∧ s[0].toNat ≤ 90)) ∧ s[0].toNat ≠ 120 ∧ s[0].toNat ≠ 88)) :
    Calls Tryf.prog 25 #[.string s] w fun e w' => Said (some (run idc s.data.toList 1, 0)) e ∧ w' = w := by
  have hx : Lib.indexByte [32, 9, 10, 12, 13] s[0] < 0 := spc_no (by have := he.out; unfold spc; simp; omega)
  have p2 : Lib.hasPrefix s.data.toList [239, 187, 191] = false := hp_head3 s h0 _ _ _ (by have := he.out; simp; omega)
  have p3 : Lib.hasPrefix s.data.toList [45, 45] = false := hp_head2 s h0 _ _ (by have := he.out; simp; omega)
  have p4 : Lib.hasPrefix s.data.toList [47, 42] = false := hp_head2 s h0 _ _ (by have := he.out; simp; omega)
  have t39 : ((s[0].toNat : Int) == 39) = false := by have := he.out; simp; omega
  have t34 : ((s[0].toNat : Int) == 34) = false := by have := he.out; simp; omega
  have t96 : ((s[0].toNat : Int) == 96) = false := by have := he.out; simp; omega
  have t91 : ((s[0].toNat : Int) == 91) = false := by have := he.out; simp; omega
  have pd : dig s[0] = false := by have := he.out; unfold dig; simp; omega
  have t46 : ((s[0].toNat : Int) == 46) = false := by have := he.out; simp; omega
  have t63 : ((s[0].toNat : Int) == 63) = false := by have := he.out; simp; omega
  have t36 : ((s[0].toNat : Int) == 36) = false := by have := he.out; simp; omega
  have t64 : ((s[0].toNat : Int) == 64) = false := by have := he.out; simp; omega
  have t35 : ((s[0].toNat : Int) == 35) = false := by have := he.out; simp; omega
  have t58 : ((s[0].toNat : Int) == 58) = false := by have := he.out; simp; omega
  have t120 : ((s[0].toNat : Int) == 120) = false := by have := he.out; simp; omega
  have t88 : ((s[0].toNat : Int) == 88) = false := by have := he.out; simp; omega
  have pl : ltr s[0] = true := by have := he.out; unfold ltr; simp; omega
  go_enter Tryf.func25, Tryf.ntmps25
  go_wp2_with (first | (go_at_call 29; refine (Tryf.strings_IndexByte _ _ _).mono ?_; rintro e w' ⟨rfl, rfl⟩) | (go_at_call 31; refine (Tryf.strings_HasPrefix _ _ _).mono ?_; rintro e w' ⟨rfl, rfl⟩) | (go_at_call 34; refine (isDigit_any _ _).mono ?_; rintro e w' ⟨rfl, rfl⟩) | (go_at_call 38; refine (isLetter_any _ _).mono ?_; rintro e w' ⟨rfl, rfl⟩))
  go_loop [2] (fun v => ∃ k : Nat, k ≤ s.size ∧ v = .int .i64 k ∧ Hid (run idc s.data.toList 1 = run idc s.data.toList k)) (fun v => s.size - (intOf v).toNat)
  case atStart => exact ⟨1, h0, rfl, rfl⟩
  case round =>
    obtain ⟨k, hk, rfl, HR⟩ := hrel
    by_cases hlt : k < s.size
    · have HG : Hid (∀ p, isAt s.data.toList k p = p s[k]) := isAt_get s k hlt
      rcases hd : idc s[k] with _ | _
      · have HE : Hid (run idc s.data.toList k = k) := run_here (by rw [HG.out]; exact hd)
        go_wp2_with (go_at_call 39; refine (isId_any _ _).mono ?_; rintro e w' ⟨rfl, rfl⟩)
        go_ret3
        exact ⟨said_yes k 0 _ _ (by rw [HR.out, HE.out]) rfl rfl, rfl⟩
      · have HE : Hid (run idc s.data.toList k = run idc s.data.toList (k + 1)) := run_step (by rw [HG.out]; exact hd)
        go_wp2_with (go_at_call 39; refine (isId_any _ _).mono ?_; rintro e w' ⟨rfl, rfl⟩)
        go_round
        case rel => exact ⟨k + 1, by omega, by go_num, HR.out.trans HE.out⟩
        case measure => simp [intOf]; omega
    · have HE : Hid (run idc s.data.toList k = k) := run_here (isAt_out s k hlt _)
      go_wp2_with (go_at_call 39; refine (isId_any _ _).mono ?_; rintro e w' ⟨rfl, rfl⟩)
      go_ret3
      exact ⟨said_yes k 0 _ _ (by rw [HR.out, HE.out]) rfl rfl, rfl⟩

set_option maxHeartbeats 1000000 in
set_option maxRecDepth 100000 in
theorem tok11_120s (s : ByteArray) (w : World) (hs : s.size ≤ 1048576) (h0 : 0 < s.size) (he : Hid (s[0].toNat = 120)) (h1 : ¬ 1 < s.size) :
    Calls Tryf.prog 25 #[.string s] w fun e w' => Said (some (run idc s.data.toList 1, 0)) e ∧ w' = w := by
  have hx : Lib.indexByte [32, 9, 10, 12, 13] s[0] < 0 := spc_no (by have := he.out; unfold spc; simp; omega)
  have p2 : Lib.hasPrefix s.data.toList [239, 187, 191] = false := hp_head3 s h0 _ _ _ (by have := he.out; simp; omega)
  have p3 : Lib.hasPrefix s.data.toList [45, 45] = false := hp_head2 s h0 _ _ (by have := he.out; simp; omega)
  have p4 : Lib.hasPrefix s.data.toList [47, 42] = false := hp_head2 s h0 _ _ (by have := he.out; simp; omega)
  have t39 : ((s[0].toNat : Int) == 39) = false := by have := he.out; simp; omega
  have t34 : ((s[0].toNat : Int) == 34) = false := by have := he.out; simp; omega
  have t96 : ((s[0].toNat : Int) == 96) = false := by have := he.out; simp; omega
  have t91 : ((s[0].toNat : Int) == 91) = false := by have := he.out; simp; omega
  have pd : dig s[0] = false := by have := he.out; unfold dig; simp; omega
  have t46 : ((s[0].toNat : Int) == 46) = false := by have := he.out; simp; omega
  have t63 : ((s[0].toNat : Int) == 63) = false := by have := he.out; simp; omega
  have t36 : ((s[0].toNat : Int) == 36) = false := by have := he.out; simp; omega
  have t64 : ((s[0].toNat : Int) == 64) = false := by have := he.out; simp; omega
  have t35 : ((s[0].toNat : Int) == 35) = false := by have := he.out; simp; omega
  have t58 : ((s[0].toNat : Int) == 58) = false := by have := he.out; simp; omega
  have t120 : ((s[0].toNat : Int) == 120) = true := by have := he.out; simp; omega
  have pl : ltr s[0] = true := by have := he.out; unfold ltr; simp; omega
  go_enter Tryf.func25, Tryf.ntmps25
  go_wp2_with (first | (go_at_call 29; refine (Tryf.strings_IndexByte _ _ _).mono ?_; rintro e w' ⟨rfl, rfl⟩) | (go_at_call 31; refine (Tryf.strings_HasPrefix _ _ _).mono ?_; rintro e w' ⟨rfl, rfl⟩) | (go_at_call 34; refine (isDigit_any _ _).mono ?_; rintro e w' ⟨rfl, rfl⟩) | (go_at_call 38; refine (isLetter_any _ _).mono ?_; rintro e w' ⟨rfl, rfl⟩))
  go_loop [2] (fun v => ∃ k : Nat, k ≤ s.size ∧ v = .int .i64 k ∧ Hid (run idc s.data.toList 1 = run idc s.data.toList k)) (fun v => s.size - (intOf v).toNat)
  case atStart => exact ⟨1, h0, rfl, rfl⟩
  case round =>
    obtain ⟨k, hk, rfl, HR⟩ := hrel
    by_cases hlt : k < s.size
    · have HG : Hid (∀ p, isAt s.data.toList k p = p s[k]) := isAt_get s k hlt
      rcases hd : idc s[k] with _ | _
      · have HE : Hid (run idc s.data.toList k = k) := run_here (by rw [HG.out]; exact hd)
        go_wp2_with (go_at_call 39; refine (isId_any _ _).mono ?_; rintro e w' ⟨rfl, rfl⟩)
        go_ret3
        exact ⟨said_yes k 0 _ _ (by rw [HR.out, HE.out]) rfl rfl, rfl⟩
      · have HE : Hid (run idc s.data.toList k = run idc s.data.toList (k + 1)) := run_step (by rw [HG.out]; exact hd)
        go_wp2_with (go_at_call 39; refine (isId_any _ _).mono ?_; rintro e w' ⟨rfl, rfl⟩)
        go_round
        case rel => exact ⟨k + 1, by omega, by go_num, HR.out.trans HE.out⟩
        case measure => simp [intOf]; omega
    · have HE : Hid (run idc s.data.toList k = k) := run_here (isAt_out s k hlt _)
      go_wp2_with (go_at_call 39; refine (isId_any _ _).mono ?_; rintro e w' ⟨rfl, rfl⟩)
      go_ret3
      exact ⟨said_yes k 0 _ _ (by rw [HR.out, HE.out]) rfl rfl, rfl⟩

set_option maxHeartbeats 1000000 in
set_option maxRecDepth 100000 in
theorem tok11_120n (s : ByteArray) (w : World) (hs : s.size ≤ 1048576) (h0 : 0 < s.size) (he : Hid (s[0].toNat = 120)) (h1 : 1 < s.size) (hq : ((s[1].toNat : Int) == 39) = false) :
    Calls Tryf.prog 25 #[.string s] w fun e w' => Said (some (run idc s.data.toList 1, 0)) e ∧ w' = w := by
  have hx : Lib.indexByte [32, 9, 10, 12, 13] s[0] < 0 := spc_no (by have := he.out; unfold spc; simp; omega)
  have p2 : Lib.hasPrefix s.data.toList [239, 187, 191] = false := hp_head3 s h0 _ _ _ (by have := he.out; simp; omega)
  have p3 : Lib.hasPrefix s.data.toList [45, 45] = false := hp_head2 s h0 _ _ (by have := he.out; simp; omega)
  have p4 : Lib.hasPrefix s.data.toList [47, 42] = false := hp_head2 s h0 _ _ (by have := he.out; simp; omega)
  have t39 : ((s[0].toNat : Int) == 39) = false := by have := he.out; simp; omega
  have t34 : ((s[0].toNat : Int) == 34) = false := by have := he.out; simp; omega
  have t96 : ((s[0].toNat : Int) == 96) = false := by have := he.out; simp; omega
  have t91 : ((s[0].toNat : Int) == 91) = false := by have := he.out; simp; omega
  have pd : dig s[0] = false := by have := he.out; unfold dig; simp; omega
  have t46 : ((s[0].toNat : Int) == 46) = false := by have := he.out; simp; omega
  have t63 : ((s[0].toNat : Int) == 63) = false := by have := he.out; simp; omega
  have t36 : ((s[0].toNat : Int) == 36) = false := by have := he.out; simp; omega
  have t64 : ((s[0].toNat : Int) == 64) = false := by have := he.out; simp; omega
  have t35 : ((s[0].toNat : Int) == 35) = false := by have := he.out; simp; omega
  have t58 : ((s[0].toNat : Int) == 58) = false := by have := he.out; simp; omega
  have t120 : ((s[0].toNat : Int) == 120) = true := by have := he.out; simp; omega
  have pl : ltr s[0] = true := by have := he.out; unfold ltr; simp; omega
  go_enter Tryf.func25, Tryf.ntmps25
  go_wp2_with (first | (go_at_call 29; refine (Tryf.strings_IndexByte _ _ _).mono ?_; rintro e w' ⟨rfl, rfl⟩) | (go_at_call 31; refine (Tryf.strings_HasPrefix _ _ _).mono ?_; rintro e w' ⟨rfl, rfl⟩) | (go_at_call 34; refine (isDigit_any _ _).mono ?_; rintro e w' ⟨rfl, rfl⟩) | (go_at_call 38; refine (isLetter_any _ _).mono ?_; rintro e w' ⟨rfl, rfl⟩))
  go_loop [2] (fun v => ∃ k : Nat, k ≤ s.size ∧ v = .int .i64 k ∧ Hid (run idc s.data.toList 1 = run idc s.data.toList k)) (fun v => s.size - (intOf v).toNat)
  case atStart => exact ⟨1, h0, rfl, rfl⟩
  case round =>
    obtain ⟨k, hk, rfl, HR⟩ := hrel
    by_cases hlt : k < s.size
    · have HG : Hid (∀ p, isAt s.data.toList k p = p s[k]) := isAt_get s k hlt
      rcases hd : idc s[k] with _ | _
      · have HE : Hid (run idc s.data.toList k = k) := run_here (by rw [HG.out]; exact hd)
        go_wp2_with (go_at_call 39; refine (isId_any _ _).mono ?_; rintro e w' ⟨rfl, rfl⟩)
        go_ret3
        exact ⟨said_yes k 0 _ _ (by rw [HR.out, HE.out]) rfl rfl, rfl⟩
      · have HE : Hid (run idc s.data.toList k = run idc s.data.toList (k + 1)) := run_step (by rw [HG.out]; exact hd)
        go_wp2_with (go_at_call 39; refine (isId_any _ _).mono ?_; rintro e w' ⟨rfl, rfl⟩)
        go_round
        case rel => exact ⟨k + 1, by omega, by go_num, HR.out.trans HE.out⟩
        case measure => simp [intOf]; omega
    · have HE : Hid (run idc s.data.toList k = k) := run_here (isAt_out s k hlt _)
      go_wp2_with (go_at_call 39; refine (isId_any _ _).mono ?_; rintro e w' ⟨rfl, rfl⟩)
      go_ret3
      exact ⟨said_yes k 0 _ _ (by rw [HR.out, HE.out]) rfl rfl, rfl⟩

set_option maxHeartbeats 1000000 in
set_option maxRecDepth 100000 in
theorem tok11_88s (s : ByteArray) (w : World) (hs : s.size ≤ 1048576) (h0 : 0 < s.size) (he : Hid (s[0].toNat = 88)) (h1 : ¬ 1 < s.size) :
    Calls Tryf.prog 25 #[.string s] w fun e w' => Said (some (run idc s.data.toList 1, 0)) e ∧ w' = w := by
  have hx : Lib.indexByte [32, 9, 10, 12, 13] s[0] < 0 := spc_no (by have := he.out; unfold spc; simp; omega)
  have p2 : Lib.hasPrefix s.data.toList [239, 187, 191] = false := hp_head3 s h0 _ _ _ (by have := he.out; simp; omega)
  have p3 : Lib.hasPrefix s.data.toList [45, 45] = false := hp_head2 s h0 _ _ (by have := he.out; simp; omega)
  have p4 : Lib.hasPrefix s.data.toList [47, 42] = false := hp_head2 s h0 _ _ (by have := he.out; simp; omega)
  have t39 : ((s[0].toNat : Int) == 39) = false := by have := he.out; simp; omega
  have t34 : ((s[0].toNat : Int) == 34) = false := by have := he.out; simp; omega
  have t96 : ((s[0].toNat : Int) == 96) = false := by have := he.out; simp; omega
  have t91 : ((s[0].toNat : Int) == 91) = false := by have := he.out; simp; omega
  have pd : dig s[0] = false := by have := he.out; unfold dig; simp; omega
  have t46 : ((s[0].toNat : Int) == 46) = false := by have := he.out; simp; omega
  have t63 : ((s[0].toNat : Int) == 63) = false := by have := he.out; simp; omega
  have t36 : ((s[0].toNat : Int) == 36) = false := by have := he.out; simp; omega
  have t64 : ((s[0].toNat : Int) == 64) = false := by have := he.out; simp; omega
  have t35 : ((s[0].toNat : Int) == 35) = false := by have := he.out; simp; omega
  have t58 : ((s[0].toNat : Int) == 58) = false := by have := he.out; simp; omega
  have t120 : ((s[0].toNat : Int) == 120) = false := by have := he.out; simp; omega
  have t88 : ((s[0].toNat : Int) == 88) = true := by have := he.out; simp; omega
  have pl : ltr s[0] = true := by have := he.out; unfold ltr; simp; omega
  go_enter Tryf.func25, Tryf.ntmps25
  go_wp2_with (first | (go_at_call 29; refine (Tryf.strings_IndexByte _ _ _).mono ?_; rintro e w' ⟨rfl, rfl⟩) | (go_at_call 31; refine (Tryf.strings_HasPrefix _ _ _).mono ?_; rintro e w' ⟨rfl, rfl⟩) | (go_at_call 34; refine (isDigit_any _ _).mono ?_; rintro e w' ⟨rfl, rfl⟩) | (go_at_call 38; refine (isLetter_any _ _).mono ?_; rintro e w' ⟨rfl, rfl⟩))
  go_loop [2] (fun v => ∃ k : Nat, k ≤ s.size ∧ v = .int .i64 k ∧ Hid (run idc s.data.toList 1 = run idc s.data.toList k)) (fun v => s.size - (intOf v).toNat)
  case atStart => exact ⟨1, h0, rfl, rfl⟩
  case round =>
    obtain ⟨k, hk, rfl, HR⟩ := hrel
    by_cases hlt : k < s.size
    · have HG : Hid (∀ p, isAt s.data.toList k p = p s[k]) := isAt_get s k hlt
      rcases hd : idc s[k] with _ | _
      · have HE : Hid (run idc s.data.toList k = k) := run_here (by rw [HG.out]; exact hd)
        go_wp2_with (go_at_call 39; refine (isId_any _ _).mono ?_; rintro e w' ⟨rfl, rfl⟩)
        go_ret3
        exact ⟨said_yes k 0 _ _ (by rw [HR.out, HE.out]) rfl rfl, rfl⟩
      · have HE : Hid (run idc s.data.toList k = run idc s.data.toList (k + 1)) := run_step (by rw [HG.out]; exact hd)
        go_wp2_with (go_at_call 39; refine (isId_any _ _).mono ?_; rintro e w' ⟨rfl, rfl⟩)
        go_round
        case rel => exact ⟨k + 1, by omega, by go_num, HR.out.trans HE.out⟩
        case measure => simp [intOf]; omega
    · have HE : Hid (run idc s.data.toList k = k) := run_here (isAt_out s k hlt _)
      go_wp2_with (go_at_call 39; refine (isId_any _ _).mono ?_; rintro e w' ⟨rfl, rfl⟩)
      go_ret3
      exact ⟨said_yes k 0 _ _ (by rw [HR.out, HE.out]) rfl rfl, rfl⟩

set_option maxHeartbeats 1000000 in
set_option maxRecDepth 100000 in
theorem tok11_88n (s : ByteArray) (w : World) (hs : s.size ≤ 1048576) (h0 : 0 < s.size) (he : Hid (s[0].toNat = 88)) (h1 : 1 < s.size) (hq : ((s[1].toNat : Int) == 39) = false) :
    Calls Tryf.prog 25 #[.string s] w fun e w' => Said (some (run idc s.data.toList 1, 0)) e ∧ w' = w := by
  have hx : Lib.indexByte [32, 9, 10, 12, 13] s[0] < 0 := spc_no (by have := he.out; unfold spc; simp; omega)
  have p2 : Lib.hasPrefix s.data.toList [239, 187, 191] = false := hp_head3 s h0 _ _ _ (by have := he.out; simp; omega)
  have p3 : Lib.hasPrefix s.data.toList [45, 45] = false := hp_head2 s h0 _ _ (by have := he.out; simp; omega)
  have p4 : Lib.hasPrefix s.data.toList [47, 42] = false := hp_head2 s h0 _ _ (by have := he.out; simp; omega)
  have t39 : ((s[0].toNat : Int) == 39) = false := by have := he.out; simp; omega
  have t34 : ((s[0].toNat : Int) == 34) = false := by have := he.out; simp; omega
  have t96 : ((s[0].toNat : Int) == 96) = false := by have := he.out; simp; omega
  have t91 : ((s[0].toNat : Int) == 91) = false := by have := he.out; simp; omega
  have pd : dig s[0] = false := by have := he.out; unfold dig; simp; omega
  have t46 : ((s[0].toNat : Int) == 46) = false := by have := he.out; simp; omega
  have t63 : ((s[0].toNat : Int) == 63) = false := by have := he.out; simp; omega
  have t36 : ((s[0].toNat : Int) == 36) = false := by have := he.out; simp; omega
  have t64 : ((s[0].toNat : Int) == 64) = false := by have := he.out; simp; omega
  have t35 : ((s[0].toNat : Int) == 35) = false := by have := he.out; simp; omega
  have t58 : ((s[0].toNat : Int) == 58) = false := by have := he.out; simp; omega
  have t120 : ((s[0].toNat : Int) == 120) = false := by have := he.out; simp; omega
  have t88 : ((s[0].toNat : Int) == 88) = true := by have := he.out; simp; omega
  have pl : ltr s[0] = true := by have := he.out; unfold ltr; simp; omega
  go_enter Tryf.func25, Tryf.ntmps25
  go_wp2_with (first | (go_at_call 29; refine (Tryf.strings_IndexByte _ _ _).mono ?_; rintro e w' ⟨rfl, rfl⟩) | (go_at_call 31; refine (Tryf.strings_HasPrefix _ _ _).mono ?_; rintro e w' ⟨rfl, rfl⟩) | (go_at_call 34; refine (isDigit_any _ _).mono ?_; rintro e w' ⟨rfl, rfl⟩) | (go_at_call 38; refine (isLetter_any _ _).mono ?_; rintro e w' ⟨rfl, rfl⟩))
  go_loop [2] (fun v => ∃ k : Nat, k ≤ s.size ∧ v = .int .i64 k ∧ Hid (run idc s.data.toList 1 = run idc s.data.toList k)) (fun v => s.size - (intOf v).toNat)
  case atStart => exact ⟨1, h0, rfl, rfl⟩
  case round =>
    obtain ⟨k, hk, rfl, HR⟩ := hrel
    by_cases hlt : k < s.size
    · have HG : Hid (∀ p, isAt s.data.toList k p = p s[k]) := isAt_get s k hlt
      rcases hd : idc s[k] with _ | _
      · have HE : Hid (run idc s.data.toList k = k) := run_here (by rw [HG.out]; exact hd)
        go_wp2_with (go_at_call 39; refine (isId_any _ _).mono ?_; rintro e w' ⟨rfl, rfl⟩)
        go_ret3
        exact ⟨said_yes k 0 _ _ (by rw [HR.out, HE.out]) rfl rfl, rfl⟩
      · have HE : Hid (run idc s.data.toList k = run idc s.data.toList (k + 1)) := run_step (by rw [HG.out]; exact hd)
        go_wp2_with (go_at_call 39; refine (isId_any _ _).mono ?_; rintro e w' ⟨rfl, rfl⟩)
        go_round
        case rel => exact ⟨k + 1, by omega, by go_num, HR.out.trans HE.out⟩
        case measure => simp [intOf]; omega
    · have HE : Hid (run idc s.data.toList k = k) := run_here (isAt_out s k hlt _)
      go_wp2_with (go_at_call 39; refine (isId_any _ _).mono ?_; rintro e w' ⟨rfl, rfl⟩)
      go_ret3
      exact ⟨said_yes k 0 _ _ (by rw [HR.out, HE.out]) rfl rfl, rfl⟩

set_option maxHeartbeats 1000000 in
set_option maxRecDepth 100000 in
theorem tok11_u (s : ByteArray) (w : World) (hs : s.size ≤ 1048576) (h0 : 0 < s.size) (he : Hid (s[0].toNat = 95)) :
    Calls Tryf.prog 25 #[.string s] w fun e w' => Said (some (run idc s.data.toList 1, 0)) e ∧ w' = w := by
  have hx : Lib.indexByte [32, 9, 10, 12, 13] s[0] < 0 := spc_no (by have := he.out; unfold spc; simp; omega)
  have p2 : Lib.hasPrefix s.data.toList [239, 187, 191] = false := hp_head3 s h0 _ _ _ (by have := he.out; simp; omega)
  have p3 : Lib.hasPrefix s.data.toList [45, 45] = false := hp_head2 s h0 _ _ (by have := he.out; simp; omega)
  have p4 : Lib.hasPrefix s.data.toList [47, 42] = false := hp_head2 s h0 _ _ (by have := he.out; simp; omega)
  have t39 : ((s[0].toNat : Int) == 39) = false := by have := he.out; simp; omega
  have t34 : ((s[0].toNat : Int) == 34) = false := by have := he.out; simp; omega
  have t96 : ((s[0].toNat : Int) == 96) = false := by have := he.out; simp; omega
  have t91 : ((s[0].toNat : Int) == 91) = false := by have := he.out; simp; omega
  have pd : dig s[0] = false := by have := he.out; unfold dig; simp; omega
  have t46 : ((s[0].toNat : Int) == 46) = false := by have := he.out; simp; omega
  have t63 : ((s[0].toNat : Int) == 63) = false := by have := he.out; simp; omega
  have t36 : ((s[0].toNat : Int) == 36) = false := by have := he.out; simp; omega
  have t64 : ((s[0].toNat : Int) == 64) = false := by have := he.out; simp; omega
  have t35 : ((s[0].toNat : Int) == 35) = false := by have := he.out; simp; omega
  have t58 : ((s[0].toNat : Int) == 58) = false := by have := he.out; simp; omega
  have t120 : ((s[0].toNat : Int) == 120) = false := by have := he.out; simp; omega
  have t88 : ((s[0].toNat : Int) == 88) = false := by have := he.out; simp; omega
  have pl : ltr s[0] = false := by have := he.out; unfold ltr; simp; omega
  have t95 : ((s[0].toNat : Int) == 95) = true := by have := he.out; simp; omega
  go_enter Tryf.func25, Tryf.ntmps25
  go_wp2_with (first | (go_at_call 29; refine (Tryf.strings_IndexByte _ _ _).mono ?_; rintro e w' ⟨rfl, rfl⟩) | (go_at_call 31; refine (Tryf.strings_HasPrefix _ _ _).mono ?_; rintro e w' ⟨rfl, rfl⟩) | (go_at_call 34; refine (isDigit_any _ _).mono ?_; rintro e w' ⟨rfl, rfl⟩) | (go_at_call 38; refine (isLetter_any _ _).mono ?_; rintro e w' ⟨rfl, rfl⟩))
  go_loop [2] (fun v => ∃ k : Nat, k ≤ s.size ∧ v = .int .i64 k ∧ Hid (run idc s.data.toList 1 = run idc s.data.toList k)) (fun v => s.size - (intOf v).toNat)
  case atStart => exact ⟨1, h0, rfl, rfl⟩
  case round =>
    obtain ⟨k, hk, rfl, HR⟩ := hrel
    by_cases hlt : k < s.size
    · have HG : Hid (∀ p, isAt s.data.toList k p = p s[k]) := isAt_get s k hlt
      rcases hd : idc s[k] with _ | _
      · have HE : Hid (run idc s.data.toList k = k) := run_here (by rw [HG.out]; exact hd)
        go_wp2_with (go_at_call 39; refine (isId_any _ _).mono ?_; rintro e w' ⟨rfl, rfl⟩)
        go_ret3
        exact ⟨said_yes k 0 _ _ (by rw [HR.out, HE.out]) rfl rfl, rfl⟩
      · have HE : Hid (run idc s.data.toList k = run idc s.data.toList (k + 1)) := run_step (by rw [HG.out]; exact hd)
        go_wp2_with (go_at_call 39; refine (isId_any _ _).mono ?_; rintro e w' ⟨rfl, rfl⟩)
        go_round
        case rel => exact ⟨k + 1, by omega, by go_num, HR.out.trans HE.out⟩
        case measure => simp [intOf]; omega
    · have HE : Hid (run idc s.data.toList k = k) := run_here (isAt_out s k hlt _)
      go_wp2_with (go_at_call 39; refine (isId_any _ _).mono ?_; rintro e w' ⟨rfl, rfl⟩)
      go_ret3
      exact ⟨said_yes k 0 _ _ (by rw [HR.out, HE.out]) rfl rfl, rfl⟩

set_option maxHeartbeats 1000000 in
set_option maxRecDepth 100000 in
theorem tok11_h (s : ByteArray) (w : World) (hs : s.size ≤ 1048576) (h0 : 0 < s.size) (he : Hid (128 ≤ s[0].toNat)) (p2 : Lib.hasPrefix s.data.toList [239, 187, 191] = false) :
    Calls Tryf.prog 25 #[.string s] w fun e w' => Said (some (run idc s.data.toList 1, 0)) e ∧ w' = w := by
  have hx : Lib.indexByte [32, 9, 10, 12, 13] s[0] < 0 := spc_no (by have := he.out; unfold spc; simp; omega)
  have p3 : Lib.hasPrefix s.data.toList [45, 45] = false := hp_head2 s h0 _ _ (by have := he.out; simp; omega)
  have p4 : Lib.hasPrefix s.data.toList [47, 42] = false := hp_head2 s h0 _ _ (by have := he.out; simp; omega)
  have t39 : ((s[0].toNat : Int) == 39) = false := by have := he.out; simp; omega
  have t34 : ((s[0].toNat : Int) == 34) = false := by have := he.out; simp; omega
  have t96 : ((s[0].toNat : Int) == 96) = false := by have := he.out; simp; omega
  have t91 : ((s[0].toNat : Int) == 91) = false := by have := he.out; simp; omega
  have pd : dig s[0] = false := by have := he.out; unfold dig; simp; omega
  have t46 : ((s[0].toNat : Int) == 46) = false := by have := he.out; simp; omega
  have t63 : ((s[0].toNat : Int) == 63) = false := by have := he.out; simp; omega
  have t36 : ((s[0].toNat : Int) == 36) = false := by have := he.out; simp; omega
  have t64 : ((s[0].toNat : Int) == 64) = false := by have := he.out; simp; omega
  have t35 : ((s[0].toNat : Int) == 35) = false := by have := he.out; simp; omega
  have t58 : ((s[0].toNat : Int) == 58) = false := by have := he.out; simp; omega
  have t120 : ((s[0].toNat : Int) == 120) = false := by have := he.out; simp; omega
  have t88 : ((s[0].toNat : Int) == 88) = false := by have := he.out; simp; omega
  have pl : ltr s[0] = false := by have := he.out; unfold ltr; simp; omega
  have t95 : ((s[0].toNat : Int) == 95) = false := by have := he.out; simp; omega
  have pg : (128 : Int) ≤ (s[0].toNat : Int) := by have := he.out; omega
  go_enter Tryf.func25, Tryf.ntmps25
  go_wp2_with (first | (go_at_call 29; refine (Tryf.strings_IndexByte _ _ _).mono ?_; rintro e w' ⟨rfl, rfl⟩) | (go_at_call 31; refine (Tryf.strings_HasPrefix _ _ _).mono ?_; rintro e w' ⟨rfl, rfl⟩) | (go_at_call 34; refine (isDigit_any _ _).mono ?_; rintro e w' ⟨rfl, rfl⟩) | (go_at_call 38; refine (isLetter_any _ _).mono ?_; rintro e w' ⟨rfl, rfl⟩))
  go_loop [2] (fun v => ∃ k : Nat, k ≤ s.size ∧ v = .int .i64 k ∧ Hid (run idc s.data.toList 1 = run idc s.data.toList k)) (fun v => s.size - (intOf v).toNat)
  case atStart => exact ⟨1, h0, rfl, rfl⟩
  case round =>
    obtain ⟨k, hk, rfl, HR⟩ := hrel
    by_cases hlt : k < s.size
    · have HG : Hid (∀ p, isAt s.data.toList k p = p s[k]) := isAt_get s k hlt
      rcases hd : idc s[k] with _ | _
      · have HE : Hid (run idc s.data.toList k = k) := run_here (by rw [HG.out]; exact hd)
        go_wp2_with (go_at_call 39; refine (isId_any _ _).mono ?_; rintro e w' ⟨rfl, rfl⟩)
        go_ret3
        exact ⟨said_yes k 0 _ _ (by rw [HR.out, HE.out]) rfl rfl, rfl⟩
      · have HE : Hid (run idc s.data.toList k = run idc s.data.toList (k + 1)) := run_step (by rw [HG.out]; exact hd)
        go_wp2_with (go_at_call 39; refine (isId_any _ _).mono ?_; rintro e w' ⟨rfl, rfl⟩)
        go_round
        case rel => exact ⟨k + 1, by omega, by go_num, HR.out.trans HE.out⟩
        case measure => simp [intOf]; omega
    · have HE : Hid (run idc s.data.toList k = k) := run_here (isAt_out s k hlt _)
      go_wp2_with (go_at_call 39; refine (isId_any _ _).mono ?_; rintro e w' ⟨rfl, rfl⟩)
      go_ret3
      exact ⟨said_yes k 0 _ _ (by rw [HR.out, HE.out]) rfl rfl, rfl⟩

end Go.Proofs.Qxb6613816aFmt.Tok
