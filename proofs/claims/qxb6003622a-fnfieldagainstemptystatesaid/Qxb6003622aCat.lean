/- Seat b6003622a: zzPiece, zzConcat. -/
import Derived.Test.Qxb6003622aEq
namespace Go.Proofs.Qxb6003622a.Fld
open Go.RowKit
set_option linter.unusedVariables false

theorem own_ge {w : World} {base : Nat} {e : TypeId} {size : Nat} {v : Value} {n : Nat} {xs : List Value} (h : w.ownsRow base e size v n xs) : ∀ k, v.ownBlock = some k → base ≤ k := by
  intro k hk
  rcases h.2 with ⟨rfl, _⟩ | ⟨g, cap, cur, rfl, hb, _⟩
  · simp [Value.ownBlock] at hk
  · simp [Value.ownBlock] at hk; omega

theorem one_cell (x : Int) : ∀ u ∈ [Value.int .u8 x], u.oneCell' = true := by
  intro u hu; simp at hu; subst hu; rfl

/-- what an append of one byte does. -/
theorem app_step {w wr w1 : World} {B : Nat} {v v' : Value} {n : Nat} {xs : List Int} {x : Int} {t : TypeId} (hB : B ≤ wr.heap.size) (hbel : Below B w wr) (hown : wr.ownsRow B 5 1 v n (xs.map (Value.int .u8)))
    (hown' : w1.ownsRow B 5 1 v' (n + 1) (xs.map (Value.int .u8) ++ [Value.int .u8 x])) (hg : (wr.alloc (.cells #[Value.int .u8 x] t)).grownBy w1 v.ownBlock) :
    w1.ownsRow B 5 1 v' (n + 1) ((xs ++ [x]).map (Value.int .u8)) ∧ Below B w w1 := by
  refine ⟨by simpa using hown', (hbel.alloc hB _).grown hg (by simp; omega) (own_ge hown)⟩

set_option maxHeartbeats 1000000 in
theorem piece_yes (p : Option Addr) (n c : Nat) (xs : List Int) (w : World) (hn : n ≤ 1048576) (hs : See w p n c xs) :
    Calls Try.prog 10 #[.int .i64 1, .slice p n c] w fun e w' => (∃ v, e = .returned v ∧ w'.ownsRow w.heap.size 5 1 v (n + 1) ((xs ++ [10]).map (Value.int .u8))) ∧ Below w.heap.size w w' := by
  obtain ⟨i0, hi, hz0, hz1, hz2⟩ := info_parts info5
  have HS : Hid (See w p n c xs) := hs
  clear hs
  go_enter Try.func10, Try.ntmps10
  go_wp2_with (first | (go_at_call 6; refine (clone_any p n c xs _ hn HS.out).mono ?_; rintro e w1 ⟨⟨v, rfl, hown⟩, hbel⟩; have hsz := hbel.size) | (at_builtin; refine wpList_append_own _ rfl _ _ 22 rfl w.heap.size 5 i0 (.int .u8 0) 1 1 Try.underlying22 hi hz0 hz1 hz2 rfl (by decide) _ _ _ rfl (hown.alloc _) ⟨w1.heap.size, 0, none⟩ 1 1 [.int .u8 10] rfl rfl (cell_one_new _ _ _) (one_cell 10) (by unfold maxLen; omega) (by omega) (by simp; omega) ?_; intro v' w2 hown' hgrow _))
  have R := app_step hsz hbel hown hown' hgrow
  clear hown hown' hgrow hbel
  go_wp2
  go_ret
  exact ⟨⟨_, rfl, R.1⟩, R.2⟩

set_option maxHeartbeats 400000 in
theorem piece_no (kd : Int) (v : Value) (w : World) (hk : (kd != 1) = true) :
    Calls Try.prog 10 #[.int .i64 kd, v] w fun e w' => e = .returned (.slice none 0 0) ∧ w' = w := by
  go_enter Try.func10, Try.ntmps10
  go_wp2
  go_ret
  exact ⟨rfl, rfl⟩

theorem take_snoc (xs : List Int) (k : Nat) (h : k < xs.length) : xs.take (k + 1) = xs.take k ++ [xs.getD k 0] := by
  rw [List.take_succ_eq_append_getElem h]
  simp [List.getD, List.getElem?_eq_getElem h]

theorem own_full {wr : World} {B : Nat} {u : Value} {k : Nat} {xs : List Int} (ys : List Int) (h : wr.ownsRow B 5 1 u k ((xs.take k).map (Value.int .u8))) (hk : xs.length = k) :
    Hid (wr.ownsRow B 5 1 u (k + 0) ((xs ++ ys.take 0).map (Value.int .u8))) := by
  unfold Hid
  rw [List.take_of_length_le (by rw [hk]; exact Nat.le_refl _)] at h
  simpa using h
theorem own_end {wr : World} {B : Nat} {u : Value} {n k : Nat} {xs ys : List Int} (h : wr.ownsRow B 5 1 u (n + k) ((xs ++ ys.take k).map (Value.int .u8))) (hk : ys.length = k) :
    Hid (wr.ownsRow B 5 1 u (n + k) ((xs ++ ys).map (Value.int .u8))) := by
  unfold Hid
  rw [List.take_of_length_le (by rw [hk]; exact Nat.le_refl _)] at h
  exact h

set_option maxHeartbeats 2000000 in
theorem concat_any (p q : Option Addr) (n c m d : Nat) (xs ys : List Int) (w : World) (hn : n ≤ 1048576) (hm : m ≤ 1048576) (h1 : See w p n c xs) (h2 : See w q m d ys) :
    Calls Try.prog 11 #[.slice p n c, .slice q m d] w fun e w' => (∃ v, e = .returned v ∧ w'.ownsRow w.heap.size 5 1 v (n + m) ((xs ++ ys).map (Value.int .u8))) ∧ Below w.heap.size w w' := by
  obtain ⟨i0, hi, hz0, hz1, hz2⟩ := info_parts info5
  have L1 : Hid (xs.length = n) := h1.len
  have L2 : Hid (ys.length = m) := h2.len
  have r1 := h1.room
  have r2 := h2.room
  have K1 : n ≤ 0 ∨ ∃ b o, p = some ⟨b, o, none⟩ ∧ b < w.heap.size ∧ Hid (∀ i, i < n → w.cell? ⟨b, o + i, none⟩ = some (.int .u8 (xs.getD i 0))) := by
    rcases Nat.eq_zero_or_pos n with h | h
    · exact .inl (by omega)
    · obtain ⟨b, o, hp, hc⟩ := h1.cells h
      exact .inr ⟨b, o, hp, h1.lt b o hp h, hc⟩
  have K2 : m ≤ 0 ∨ ∃ b o, q = some ⟨b, o, none⟩ ∧ b < w.heap.size ∧ Hid (∀ i, i < m → w.cell? ⟨b, o + i, none⟩ = some (.int .u8 (ys.getD i 0))) := by
    rcases Nat.eq_zero_or_pos m with h | h
    · exact .inl (by omega)
    · obtain ⟨b, o, hp, hc⟩ := h2.cells h
      exact .inr ⟨b, o, hp, h2.lt b o hp h, hc⟩
  clear h1 h2
  rcases K1 with hn0 | ⟨b1, o1, rfl, hb1, C1⟩ <;> rcases K2 with hm0 | ⟨b2, o2, rfl, hb2, C2⟩
  all_goals
    go_enter Try.func11, Try.ntmps11
    go_wp2_with (at_make; refine wpList_make_own _ rfl _ _ 22 rfl w.heap.size 5 i0 (.int .u8 0) 1 Try.underlying22 hi hz0 hz1 .i64 .i64 _ (n + m) rfl rfl (by omega) (by rw [hz2]; omega) (by unfold maxLen; omega) (Nat.le_refl _) ?_; intro w1 hown1 hgrow1)
    have HB1 : Hid (Below w.heap.size w w1) := (Below.refl _ _).grown hgrow1 (Nat.le_refl _) (fun k hk => by simp at hk)
    have HO1 : Hid (w1.ownsRow w.heap.size 5 1 (.slice (some ⟨w.heap.size, 0, none⟩) 0 (n + m)) 0 ((xs.take 0).map (Value.int .u8))) := by unfold Hid; simpa using hown1
    clear hown1 hgrow1
    go_loopw [5, 6] (fun u v wr => ∃ k : Nat, k ≤ n ∧ v = .int .i64 k ∧ wr.ownsRow w.heap.size 5 1 u k ((xs.take k).map (Value.int .u8)) ∧ Below w.heap.size w wr) (fun _ v _ => n - (intOf v).toNat)
    case atStart => exact ⟨0, by omega, rfl, HO1.out, HB1.out⟩
    case round =>
      obtain ⟨k, hk, rfl, hown, hbel⟩ := hrel
      clear HO1 HB1
      have hsz := hbel.size
      by_cases hlt : k < n
      · first
          | (exfalso; omega)
          | (obtain ⟨x, HX⟩ : ∃ x, Hid (xs.getD k 0 = x) := ⟨_, rfl⟩
             have hc1 : wr.cell? ⟨b1, o1 + k, none⟩ = some (.int .u8 x) := by rw [hbel.cell (p := ⟨b1, o1 + k, none⟩) hb1, ← HX.out]; exact C1.out k hlt
             have HT : Hid (xs.take (k + 1) = xs.take k ++ [x]) := by unfold Hid; rw [take_snoc xs k (by rw [L1.out]; exact hlt), HX.out]
             go_wp2_with (at_builtin; refine wpList_append_own _ rfl _ _ 22 rfl w.heap.size 5 i0 (.int .u8 0) 1 1 Try.underlying22 hi hz0 hz1 hz2 rfl (by decide) _ _ _ rfl (hown.alloc _) ⟨wr.heap.size, 0, none⟩ 1 1 [.int .u8 x] rfl rfl (cell_one_new _ _ _) (one_cell x) (by unfold maxLen; omega) (by omega) (by simp; omega) ?_; intro v' w2 hown' hgrow _)
             have R := app_step hsz hbel hown hown' hgrow
             rw [← HT.out] at R
             clear hown hown' hgrow hbel hc1
             go_wp2
             go_roundw
             case rel => exact ⟨k + 1, by omega, by go_num, R.1, R.2⟩
             case measure => simp [intOf]; omega)
      · have hkn : k = n := by omega
        subst hkn
        have HO2 := own_full ys hown L1.out
        have HB2 : Hid (Below w.heap.size w wr) := hbel
        clear hown hbel
        go_wp2_with fail
        go_loopw [5, 7] (fun u v wr => ∃ j : Nat, j ≤ m ∧ v = .int .i64 j ∧ wr.ownsRow w.heap.size 5 1 u (k + j) ((xs ++ ys.take j).map (Value.int .u8)) ∧ Below w.heap.size w wr) (fun _ v _ => m - (intOf v).toNat)
        case atStart => exact ⟨0, by omega, rfl, HO2.out, HB2.out⟩
        case round =>
          obtain ⟨j, hj, rfl, hown, hbel⟩ := hrel
          clear HO2 HB2
          have hsz := hbel.size
          by_cases hjl : j < m
          · first
              | (exfalso; omega)
              | (obtain ⟨x, HX⟩ : ∃ x, Hid (ys.getD j 0 = x) := ⟨_, rfl⟩
                 have hc1 : wr.cell? ⟨b2, o2 + j, none⟩ = some (.int .u8 x) := by rw [hbel.cell (p := ⟨b2, o2 + j, none⟩) hb2, ← HX.out]; exact C2.out j hjl
                 have HT : Hid (xs ++ ys.take (j + 1) = xs ++ ys.take j ++ [x]) := by unfold Hid; rw [take_snoc ys j (by rw [L2.out]; exact hjl), HX.out, List.append_assoc]
                 go_wp2_with (at_builtin; refine wpList_append_own _ rfl _ _ 22 rfl w.heap.size 5 i0 (.int .u8 0) 1 1 Try.underlying22 hi hz0 hz1 hz2 rfl (by decide) _ _ _ rfl (hown.alloc _) ⟨wr.heap.size, 0, none⟩ 1 1 [.int .u8 x] rfl rfl (cell_one_new _ _ _) (one_cell x) (by unfold maxLen; omega) (by omega) (by simp; omega) ?_; intro v' w2 hown' hgrow _)
                 have R := app_step hsz hbel hown hown' hgrow
                 rw [← HT.out] at R
                 clear hown hown' hgrow hbel hc1
                 go_wp2
                 go_roundw
                 case rel => exact ⟨j + 1, by omega, by go_num, R.1, R.2⟩
                 case measure => simp [intOf]; omega)
          · have hjm : j = m := by omega
            subst hjm
            have HO3 := own_end hown L2.out
            have HB3 : Hid (Below w.heap.size w wr) := hbel
            clear hown hbel
            go_wp2
            go_ret
            exact ⟨⟨_, rfl, HO3.out⟩, HB3.out⟩

end Go.Proofs.Qxb6003622a.Fld
