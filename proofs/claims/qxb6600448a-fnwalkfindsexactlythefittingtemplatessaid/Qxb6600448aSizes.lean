/- Seat b6600448a: zzBytes, zzSegsTooBig. -/
import Derived.Test.Qxb6600448aClone
namespace Go.Proofs.Qxb6600448a.Tr
open Go.RowKit
set_option linter.unusedVariables false

def lens (xss : List (List ByteArray)) : Nat := (xss.map List.length).sum
theorem lens_take (xss : List (List ByteArray)) (i : Nat) (h : i < xss.length) : lens (xss.take (i + 1)) = lens (xss.take i) + (xss.getD i []).length := by
  unfold lens
  rw [List.take_succ_eq_append_getElem h, List.map_append, List.sum_append]
  simp [List.getD, List.getElem?_eq_getElem h]
/-- what zzSegsTooBig = false tells. -/
structure SmallTo (xss : List (List ByteArray)) (i t : Nat) : Prop where
  each : ∀ j, j < i → (xss.getD j []).length ≤ 65536 ∧ ∀ s ∈ xss.getD j [], s.size ≤ 1048576
  sum : 16 * lens (xss.take i) ≤ t

/-- lengths that a slice in memory has. -/
def Fine (m : Nat) (xss : List (List ByteArray)) : Prop := ∀ xs ∈ xss, xs.length ≤ m ∧ ∀ s ∈ xs, s.size ≤ m
def BigEnd (n : Nat) (xss : List (List ByteArray)) (e : Ending) : Prop := ∃ b : Bool, e = .returned (.bool b) ∧ (b = false → n ≤ 65536 ∧ SmallTo xss n 1048576)
theorem big_t (n : Nat) (xss : List (List ByteArray)) : BigEnd n xss (.returned (.bool true)) := ⟨true, rfl, fun h => by cases h⟩

set_option maxHeartbeats 2000000 in
theorem tooBig_any (p : Option Addr) (n c x : Nat) (xss : List (List ByteArray)) (w : World) (hn : n ≤ 1048576) (hx : x ≤ 1048576) (HS : Hid (SeeSS w p n c xss)) (HF : Hid (Fine 1048576 xss)) :
    Calls Try.prog 15 #[.slice p n c, .int .i64 (x : Nat)] w fun e w' => BigEnd n xss e ∧ w' = w := by
  have LX := Hid.mk' HS.out.len
  by_cases h1 : n ≤ 65536
  rotate_left
  · go_enter Try.func15, Try.ntmps15
    go_wp2
    go_ret
    exact ⟨big_t _ _, rfl⟩
  by_cases h2 : x + 24 * n ≤ 1048576
  rotate_left
  · go_enter Try.func15, Try.ntmps15
    go_wp2
    go_ret
    exact ⟨big_t _ _, rfl⟩
  go_enter Try.func15, Try.ntmps15
  go_wp2
  go_loop [5, 6] (fun u v => ∃ i t : Nat, i ≤ n ∧ t ≤ 1048576 ∧ u = .int .i64 t ∧ v = .int .i64 i ∧ Hid (SmallTo xss i t)) (fun u v => n - (intOf v).toNat)
  case atStart => exact ⟨0, x + 24 * n, by omega, h2, by go_num, rfl, fun j hj => by omega, by simp [lens]⟩
  case round =>
    obtain ⟨i, t, hin, ht, rfl, rfl, HT⟩ := hrel
    by_cases hlt : i < n
    · obtain ⟨b, o, p', n', c', rfl, hc, hs'⟩ := HS.out.cells i hlt
      obtain ⟨xs, HX⟩ : ∃ xs, Hid (xss.getD i [] = xs) := ⟨_, rfl⟩
      have HS' : Hid (SeeS w p' n' c' xs) := by rw [← HX.out]; exact hs'
      have HM : Hid (xs.length ≤ 1048576 ∧ ∀ s ∈ xs, s.size ≤ 1048576) := by
        rw [← HX.out]
        have hil : i < xss.length := by rw [LX.out]; exact hlt
        have : xss.getD i [] = xss[i] := by simp [List.getD, List.getElem?_eq_getElem hil]
        rw [this]; exact HF.out _ (List.getElem_mem _)
      have LN := Hid.mk' HS'.out.len
      have hn' : n' ≤ 1048576 := by have := HM.out.1; rw [LN.out] at this; exact this
      clear hs'
      by_cases h3 : n' ≤ 65536
      · by_cases h4 : t + 16 * n' ≤ 1048576
        · go_wp2
          go_loop [5, 7] (fun u v => ∃ j t' : Nat, j ≤ n' ∧ t' ≤ 1048576 ∧ u = .int .i64 t' ∧ v = .int .i64 j ∧ Hid (t + 16 * n' ≤ t' ∧ ∀ l, l < j → (xs.getD l mt).size ≤ 1048576)) (fun u v => n' - (intOf v).toNat)
          case atStart => exact ⟨0, t + 16 * n', by omega, h4, by go_num, rfl, Nat.le_refl _, fun l hl => by omega⟩
          case round =>
            obtain ⟨j, t', hjn, ht', rfl, rfl, HJ⟩ := hrel
            by_cases hjl : j < n'
            · obtain ⟨b2, o2, rfl, hcs⟩ := HS'.out.cells (by omega)
              obtain ⟨y, HY⟩ : ∃ y, Hid (xs.getD j mt = y) := ⟨_, rfl⟩
              have hc2 : w.cell? ⟨b2, o2 + j, none⟩ = some (.string y) := by rw [← HY.out]; exact hcs j hjl
              have hy : y.size ≤ 1048576 := by
                have hjx : j < xs.length := by rw [LN.out]; exact hjl
                have e1 : xs.getD j mt = xs[j] := by simp [List.getD, List.getElem?_eq_getElem hjx]
                have := HM.out.2 _ (List.getElem_mem hjx)
                rw [← e1, HY.out] at this
                exact this
              clear hcs
              by_cases h5 : t' + y.size ≤ 1048576
              · have HJ' : Hid (t + 16 * n' ≤ t' + y.size ∧ ∀ l, l < j + 1 → (xs.getD l mt).size ≤ 1048576) := by
                  refine ⟨by have := HJ.out.1; omega, fun l hl => ?_⟩
                  by_cases hlj : l < j
                  · exact HJ.out.2 l hlj
                  · rw [show l = j from by omega, HY.out]; omega
                go_wp2
                go_round
                case rel => exact ⟨j + 1, t' + y.size, by omega, h5, by go_num, by go_num, HJ'⟩
                case measure => simp [intOf]; omega
              · go_wp2
                go_ret
                exact ⟨big_t _ _, rfl⟩
            · have HT' : Hid (SmallTo xss (i + 1) t') := by
                refine ⟨fun l hl => ?_, ?_⟩
                · by_cases hli : l < i
                  · exact HT.out.each l hli
                  · rw [show l = i from by omega, HX.out]
                    refine ⟨by rw [LN.out]; exact h3, fun s hs => ?_⟩
                    obtain ⟨k, hk, rfl⟩ := List.getElem_of_mem hs
                    have := HJ.out.2 k (by rw [LN.out] at hk; omega)
                    simpa [List.getD, List.getElem?_eq_getElem hk] using this
                · rw [lens_take xss i (by rw [LX.out]; exact hlt), HX.out, LN.out]
                  have := HT.out.sum; have := HJ.out.1; omega
              go_wp2
              go_round
              case rel => exact ⟨i + 1, t', by omega, ht', rfl, by go_num, HT'⟩
              case measure => simp [intOf]; omega
        · go_wp2
          go_ret
          exact ⟨big_t _ _, rfl⟩
      · go_wp2
        go_ret
        exact ⟨big_t _ _, rfl⟩
    · have HE : Hid (SmallTo xss n 1048576) := by
        have := HT.out
        rw [show i = n from by omega] at this
        exact ⟨this.each, Nat.le_trans this.sum ht⟩
      go_wp2
      go_ret
      exact ⟨⟨false, rfl, fun _ => ⟨h1, HE.out⟩⟩, rfl⟩

end Go.Proofs.Qxb6600448a.Tr
