/- Seat b6600448a: zzBytes. -/
import Derived.Test.Qxb6600448aSizes
namespace Go.Proofs.Qxb6600448a.Tr
open Go.RowKit
set_option linter.unusedVariables false

def BytesEnd (n : Nat) (xss : List (List ByteArray)) (s : ByteArray) (e : Ending) : Prop := ∃ b : Bool, e = .returned (.bool b) ∧ (b = true → n ≤ 1048576 ∧ Fine 1048576 xss ∧ s.size ≤ 1048576)
theorem bytes_f (n : Nat) (xss : List (List ByteArray)) (s : ByteArray) : BytesEnd n xss s (.returned (.bool false)) := ⟨false, rfl, fun h => by cases h⟩
def FineTo (xss : List (List ByteArray)) (i : Nat) : Prop := ∀ j, j < i → (xss.getD j []).length ≤ 1048576 ∧ ∀ s ∈ xss.getD j [], s.size ≤ 1048576
theorem fine_all {xss : List (List ByteArray)} (h : FineTo xss xss.length) : Fine 1048576 xss := by
  intro xs hx
  obtain ⟨k, hk, rfl⟩ := List.getElem_of_mem hx
  have := h k hk
  rwa [show xss.getD k [] = xss[k] from by simp [List.getD, List.getElem?_eq_getElem hk]] at this

set_option maxHeartbeats 2000000 in
theorem bytes_any (p : Option Addr) (n c : Nat) (s : ByteArray) (xss : List (List ByteArray)) (w : World) (hn : n ≤ maxLen) (hx : s.size ≤ maxLen) (HS : Hid (SeeSS w p n c xss)) (HF : Hid (Fine maxLen xss)) :
    Calls Try.prog 14 #[.slice p n c, .string s] w fun e w' => BytesEnd n xss s e ∧ w' = w := by
  unfold maxLen at hn hx
  have LX := Hid.mk' HS.out.len
  by_cases h1 : n ≤ 1048576
  rotate_left
  · go_enter Try.func14, Try.ntmps14
    go_wp2
    go_ret
    exact ⟨bytes_f _ _ _, rfl⟩
  go_enter Try.func14, Try.ntmps14
  go_wp2
  go_loop [5, 6] (fun u v => ∃ i t : Nat, i ≤ n ∧ t ≤ 1048576 ∧ u = .int .i64 t ∧ v = .int .i64 i ∧ Hid (FineTo xss i)) (fun u v => n - (intOf v).toNat)
  case atStart => exact ⟨0, n, by omega, h1, by go_num, rfl, fun j hj => by omega⟩
  case round =>
    obtain ⟨i, t, hin, ht, rfl, rfl, HT⟩ := hrel
    by_cases hlt : i < n
    · obtain ⟨b, o, p', n', c', rfl, hc, hs'⟩ := HS.out.cells i hlt
      obtain ⟨xs, HX⟩ : ∃ xs, Hid (xss.getD i [] = xs) := ⟨_, rfl⟩
      have HS' : Hid (SeeS w p' n' c' xs) := by rw [← HX.out]; exact hs'
      have HM : Hid (xs.length ≤ maxLen ∧ ∀ s ∈ xs, s.size ≤ maxLen) := by
        rw [← HX.out]
        have hil : i < xss.length := by rw [LX.out]; exact hlt
        have : xss.getD i [] = xss[i] := by simp [List.getD, List.getElem?_eq_getElem hil]
        rw [this]; exact HF.out _ (List.getElem_mem _)
      have LN := Hid.mk' HS'.out.len
      have hn' : n' ≤ 9223372036854775807 := by have := HM.out.1; rw [LN.out] at this; exact this
      clear hs'
      by_cases h3 : n' ≤ 1048576
      · by_cases h4 : t + n' ≤ 1048576
        · go_wp2
          go_loop [5, 7] (fun u v => ∃ j t' : Nat, j ≤ n' ∧ t' ≤ 1048576 ∧ u = .int .i64 t' ∧ v = .int .i64 j ∧ Hid (∀ l, l < j → (xs.getD l mt).size ≤ 1048576)) (fun u v => n' - (intOf v).toNat)
          case atStart => exact ⟨0, t + n', by omega, h4, by go_num, rfl, fun l hl => by omega⟩
          case round =>
            obtain ⟨j, t', hjn, ht', rfl, rfl, HJ⟩ := hrel
            by_cases hjl : j < n'
            · obtain ⟨b2, o2, rfl, hcs⟩ := HS'.out.cells (by omega)
              obtain ⟨y, HY⟩ : ∃ y, Hid (xs.getD j mt = y) := ⟨_, rfl⟩
              have hc2 : w.cell? ⟨b2, o2 + j, none⟩ = some (.string y) := by rw [← HY.out]; exact hcs j hjl
              have hy : y.size ≤ 9223372036854775807 := by
                have hjx : j < xs.length := by rw [LN.out]; exact hjl
                have e1 : xs.getD j mt = xs[j] := by simp [List.getD, List.getElem?_eq_getElem hjx]
                have := HM.out.2 _ (List.getElem_mem hjx)
                rw [← e1, HY.out] at this
                exact this
              clear hcs
              by_cases h6 : y.size ≤ 1048576
              · by_cases h5 : t' + y.size ≤ 1048576
                · have HJ' : Hid (∀ l, l < j + 1 → (xs.getD l mt).size ≤ 1048576) := by
                    intro l hl
                    by_cases hlj : l < j
                    · exact HJ.out l hlj
                    · rw [show l = j from by omega, HY.out]; omega
                  go_wp2
                  go_round
                  case rel => exact ⟨j + 1, t' + y.size, by omega, h5, by go_num, by go_num, HJ'⟩
                  case measure => simp [intOf]; omega
                · go_wp2
                  go_ret
                  exact ⟨bytes_f _ _ _, rfl⟩
              · go_wp2
                go_ret
                exact ⟨bytes_f _ _ _, rfl⟩
            · have HT' : Hid (FineTo xss (i + 1)) := by
                intro l hl
                by_cases hli : l < i
                · exact HT.out l hli
                · rw [show l = i from by omega, HX.out]
                  refine ⟨by rw [LN.out]; exact h3, fun s hs => ?_⟩
                  obtain ⟨k, hk, rfl⟩ := List.getElem_of_mem hs
                  have := HJ.out k (by rw [LN.out] at hk; omega)
                  simpa [List.getD, List.getElem?_eq_getElem hk] using this
              go_wp2
              go_round
              case rel => exact ⟨i + 1, t', by omega, ht', rfl, by go_num, HT'⟩
              case measure => simp [intOf]; omega
        · go_wp2
          go_ret
          exact ⟨bytes_f _ _ _, rfl⟩
      · go_wp2
        go_ret
        exact ⟨bytes_f _ _ _, rfl⟩
    · by_cases h7 : s.size ≤ 1048576
      · by_cases h8 : t + s.size ≤ 1048576
        · have HE : Hid (Fine 1048576 xss) := by
            have := HT.out
            rw [show i = xss.length from by rw [LX.out]; omega] at this
            exact fine_all this
          have HB : Hid (BytesEnd n xss s (.returned (.bool true))) := ⟨true, rfl, fun _ => ⟨h1, HE.out, h7⟩⟩
          go_wp2
          go_ret
          exact ⟨HB.out, rfl⟩
        · go_wp2
          go_ret
          exact ⟨bytes_f _ _ _, rfl⟩
      · go_wp2
        go_ret
        exact ⟨bytes_f _ _ _, rfl⟩

end Go.Proofs.Qxb6600448a.Tr
