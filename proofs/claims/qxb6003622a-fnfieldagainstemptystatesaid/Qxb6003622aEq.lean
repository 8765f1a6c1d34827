/- Seat b6003622a: zzEqual, zzEqualString. -/
import Derived.Test.Qxb6003622aSee
import Derived.Deep.QuietTactic
import Derived.BigQuiet
import Derived.WalkSmall
namespace Go.Proofs.Qxb6003622a.Fld
open Go.RowKit
set_option linter.unusedVariables false

theorem take_same (xs ys : List Int) (k : Nat) (h : xs.take k = ys.take k) (hx : k < xs.length) (hy : k < ys.length) (he : xs.getD k 0 = ys.getD k 0) : xs.take (k + 1) = ys.take (k + 1) := by
  rw [List.take_succ_eq_append_getElem hx, List.take_succ_eq_append_getElem hy, h]
  simp only [List.getD, List.getElem?_eq_getElem hx, List.getElem?_eq_getElem hy, Option.getD_some] at he
  rw [he]
theorem differ (xs ys : List Int) (k : Nat) (he : xs.getD k 0 ≠ ys.getD k 0) : (xs == ys) = false := by
  rw [beq_eq_false_iff_ne]
  intro h
  rw [h] at he
  exact he rfl

set_option maxHeartbeats 1000000 in
theorem equal_any (p q : Option Addr) (n c m d : Nat) (xs ys : List Int) (w : World) (hn : n ≤ 2097152) (hm : m ≤ 2097152) (h1 : See w p n c xs) (h2 : See w q m d ys) :
    Calls Try.prog 9 #[.slice p n c, .slice q m d] w fun e w' => e = .returned (.bool (xs == ys)) ∧ Below w.heap.size w w' := by
  have l1 := h1.len
  have l2 := h2.len
  by_cases hnm : n = m
  · subst hnm
    have enn : ((n : Int) != (n : Int)) = false := by simp
    rcases Nat.eq_zero_or_pos n with h0 | h0
    · subst h0
      have hx : xs = [] := List.eq_nil_of_length_eq_zero l1
      have hy : ys = [] := List.eq_nil_of_length_eq_zero l2
      subst hx hy
      clear h1 h2 l1 l2
      go_enter Try.func9, Try.ntmps9
      go_wp2
      refine wp_loop_rounds 1 ?_
      rw [rounds_succ]
      go_wp2
      go_ret
      exact ⟨rfl, Below.refl _ _⟩
    · obtain ⟨b1, o1, rfl, c1⟩ := h1.cells h0
      obtain ⟨b2, o2, rfl, c2⟩ := h2.cells h0
      have hb1 := h1.lt b1 o1 rfl h0
      have hb2 := h2.lt b2 o2 rfl h0
      have hr1 := h1.room
      have hr2 := h2.room
      have C1 : Hid (∀ i, i < n → w.cell? ⟨b1, o1 + i, none⟩ = some (.int .u8 (xs.getD i 0))) := c1
      have C2 : Hid (∀ i, i < n → w.cell? ⟨b2, o2 + i, none⟩ = some (.int .u8 (ys.getD i 0))) := c2
      have L1 : Hid (xs.length = n) := l1
      have L2 : Hid (ys.length = n) := l2
      clear h1 h2 l1 l2 c1 c2
      go_enter Try.func9, Try.ntmps9
      go_wp2
      go_loopw [5] (fun v wr => ∃ k : Nat, k ≤ n ∧ v = .int .i64 k ∧ Hid (xs.take k = ys.take k) ∧ Below w.heap.size w wr) (fun v _ => n - (intOf v).toNat)
      case atStart => exact ⟨0, by omega, rfl, rfl, Below.refl _ _⟩
      case round =>
        obtain ⟨k, hk, rfl, HT, hbel⟩ := hrel
        by_cases hlt : k < n
        · obtain ⟨x, HX⟩ : ∃ x, Hid (xs.getD k 0 = x) := ⟨_, rfl⟩
          obtain ⟨y, HY⟩ : ∃ y, Hid (ys.getD k 0 = y) := ⟨_, rfl⟩
          have hc1 : wr.cell? ⟨b1, o1 + k, none⟩ = some (.int .u8 x) := by rw [hbel.cell (p := ⟨b1, o1 + k, none⟩) hb1, ← HX.out]; exact C1.out k hlt
          have hc2 : wr.cell? ⟨b2, o2 + k, none⟩ = some (.int .u8 y) := by rw [hbel.cell (p := ⟨b2, o2 + k, none⟩) hb2, ← HY.out]; exact C2.out k hlt
          have HB : Hid (Below w.heap.size w wr) := hbel
          clear hbel
          have hki : (k : Int) < (n : Int) := by omega
          rcases hxy : (x != y) with _ | _
          · have HF : Hid (xs.take (k + 1) = ys.take (k + 1)) := take_same xs ys k HT.out (by rw [L1.out]; exact hlt) (by rw [L2.out]; exact hlt) (by rw [HX.out, HY.out]; simpa using hxy)
            go_wp2
            go_quiet (fail)
            go_wp2
            go_roundw
            case rel => exact ⟨k + 1, by omega, by go_num, HF, below_drewN HB.out _⟩
            case measure => simp [intOf]; omega
          · have HF : Hid ((xs == ys) = false) := differ xs ys k (by rw [HX.out, HY.out]; simpa using hxy)
            go_wp2
            go_quiet (fail)
            go_wp2
            go_ret
            exact ⟨by rw [HF.out]; rfl, below_drewN HB.out _⟩
        · have HF : Hid ((xs == ys) = true) := by
            unfold Hid
            have e1 : xs.take k = xs := List.take_of_length_le (by rw [L1.out]; omega)
            have e2 : ys.take k = ys := List.take_of_length_le (by rw [L2.out]; omega)
            rw [beq_iff_eq, ← e1, ← e2]; exact HT.out
          have HB : Hid (Below w.heap.size w wr) := hbel
          clear hbel
          go_wp2
          go_ret
          exact ⟨by rw [HF.out]; rfl, HB.out⟩
  · have enn : ((n : Int) != (m : Int)) = true := by simp; omega
    have HF : Hid ((xs == ys) = false) := by
      unfold Hid
      rw [beq_eq_false_iff_ne]
      intro h
      rw [h] at l1
      omega
    clear h1 h2 l1 l2
    go_enter Try.func9, Try.ntmps9
    go_wp2
    go_ret
    exact ⟨by rw [HF.out]; rfl, Below.refl _ _⟩

/-- a string's bytes as numbers. -/
def nums (s : ByteArray) : List Int := s.data.toList.map fun b => (b.toNat : Int)
theorem nums_length (s : ByteArray) : (nums s).length = s.size := by simp [nums]
theorem nums_get (s : ByteArray) (k : Nat) (h : k < s.size) : (nums s).getD k 0 = (s[k].toNat : Int) := by
  have h' : k < s.data.toList.length := by simpa using h
  simp only [nums, List.getD, List.getElem?_map, List.getElem?_eq_getElem h', Option.map_some, Option.getD_some]
  rfl

set_option maxHeartbeats 1000000 in
theorem equalS_any (p : Option Addr) (n c : Nat) (xs : List Int) (s : ByteArray) (w : World) (hn : n ≤ 2097152) (hs : s.size ≤ 2097152) (h1 : See w p n c xs) :
    Calls Try.prog 14 #[.slice p n c, .string s] w fun e w' => e = .returned (.bool (xs == nums s)) ∧ Below w.heap.size w w' := by
  have l1 := h1.len
  have l2 := nums_length s
  by_cases hnm : n = s.size
  · have enn : ((n : Int) != (s.size : Int)) = false := by simp; omega
    rcases Nat.eq_zero_or_pos n with h0 | h0
    · have HF : Hid ((xs == nums s) = true) := by
        unfold Hid
        have hx : xs = [] := List.eq_nil_of_length_eq_zero (by omega)
        have hy : nums s = [] := List.eq_nil_of_length_eq_zero (by omega)
        rw [hx, hy]; rfl
      subst h0
      have hz : s.size = 0 := hnm.symm
      clear h1 l1 l2 hnm enn
      go_enter Try.func14, Try.ntmps14
      go_wp2
      refine wp_loop_rounds 1 ?_
      rw [rounds_succ]
      go_wp2
      go_ret
      exact ⟨by rw [HF.out]; rfl, Below.refl _ _⟩
    · obtain ⟨b1, o1, rfl, c1⟩ := h1.cells h0
      have hb1 := h1.lt b1 o1 rfl h0
      have hr1 := h1.room
      have C1 : Hid (∀ i, i < n → w.cell? ⟨b1, o1 + i, none⟩ = some (.int .u8 (xs.getD i 0))) := c1
      have L1 : Hid (xs.length = n) := l1
      have L2 : Hid ((nums s).length = n) := by unfold Hid; omega
      have NM : Hid (n = s.size) := hnm
      have hle : n ≤ s.size := by omega
      clear h1 l1 l2 c1 hnm
      go_enter Try.func14, Try.ntmps14
      go_wp2
      go_loopw [5] (fun v wr => ∃ k : Nat, k ≤ n ∧ v = .int .i64 k ∧ Hid (xs.take k = (nums s).take k) ∧ Below w.heap.size w wr) (fun v _ => n - (intOf v).toNat)
      case atStart => exact ⟨0, by omega, rfl, rfl, Below.refl _ _⟩
      case round =>
        obtain ⟨k, hk, rfl, HT, hbel⟩ := hrel
        by_cases hlt : k < n
        · obtain ⟨x, HX⟩ : ∃ x, Hid (xs.getD k 0 = x) := ⟨_, rfl⟩
          have hks : k < s.size := by omega
          have HY : Hid ((nums s).getD k 0 = (s[k].toNat : Int)) := nums_get s k hks
          have hc1 : wr.cell? ⟨b1, o1 + k, none⟩ = some (.int .u8 x) := by rw [hbel.cell (p := ⟨b1, o1 + k, none⟩) hb1, ← HX.out]; exact C1.out k hlt
          have HB : Hid (Below w.heap.size w wr) := hbel
          clear hbel
          have hki : (k : Int) < (n : Int) := by omega
          have hki2 : (k : Int) < (s.size : Int) := by omega
          rcases hxy : (x != (s[k].toNat : Int)) with _ | _
          · have HF : Hid (xs.take (k + 1) = (nums s).take (k + 1)) := take_same xs (nums s) k HT.out (by rw [L1.out]; exact hlt) (by rw [L2.out]; exact hlt) (by rw [HX.out, HY.out]; simpa using hxy)
            go_wp2
            go_quiet (fail)
            go_wp2
            go_roundw
            case rel => exact ⟨k + 1, by omega, by go_num, HF, below_drewN HB.out _⟩
            case measure => simp [intOf]; omega
          · have HF : Hid ((xs == nums s) = false) := differ xs (nums s) k (by rw [HX.out, HY.out]; simpa using hxy)
            go_wp2
            go_quiet (fail)
            go_wp2
            go_ret
            exact ⟨by rw [HF.out]; rfl, below_drewN HB.out _⟩
        · have HF : Hid ((xs == nums s) = true) := by
            unfold Hid
            have e1 : xs.take k = xs := List.take_of_length_le (by rw [L1.out]; omega)
            have e2 : (nums s).take k = nums s := List.take_of_length_le (by rw [L2.out]; omega)
            rw [beq_iff_eq, ← e1, ← e2]; exact HT.out
          have HB : Hid (Below w.heap.size w wr) := hbel
          clear hbel
          go_wp2
          go_ret
          exact ⟨by rw [HF.out]; rfl, HB.out⟩
  · have enn : ((n : Int) != (s.size : Int)) = true := by simp; omega
    have HF : Hid ((xs == nums s) = false) := by
      unfold Hid
      rw [beq_eq_false_iff_ne]
      intro h
      rw [h] at l1
      omega
    clear h1 l1 l2
    go_enter Try.func14, Try.ntmps14
    go_wp2
    go_ret
    exact ⟨by rw [HF.out]; rfl, Below.refl _ _⟩

end Go.Proofs.Qxb6003622a.Fld
