/- Seat b6003622a: the walk of zzParseField. -/
import Derived.Test.Qxb6003622aParse
namespace Go.Proofs.Qxb6003622a.Fld
open Go.RowKit
set_option linter.unusedVariables false

set_option maxHeartbeats 2000000 in
theorem parse_pos (b o n c : Nat) (xs : List Int) (w : World) (hn : n ≤ 1048576) (h0 : 0 < n) (HS : Hid (See w (some ⟨b, o, none⟩) n c xs)) :
    Calls Try.prog 8 #[.slice (some ⟨b, o, none⟩) n c] w fun e w' => ParseEnd w' xs e ∧ Below w.heap.size w w' := by
  have L1 : Hid (xs.length = n) := HS.out.len
  have hr := HS.out.room
  have C1 : Hid (∀ i, i < n → w.cell? ⟨b, o + i, none⟩ = some (.int .u8 (xs.getD i 0))) := by
    obtain ⟨b', o', hp, hc⟩ := HS.out.cells h0
    simp only [Option.some.injEq, Addr.mk.injEq, and_true] at hp
    obtain ⟨rfl, rfl⟩ := hp
    exact hc
  go_enter Try.func8, Try.ntmps8
  go_wp2
  go_loop [4, 5] (fun u v => u = .int .i64 (-1) ∧ ∃ k : Nat, k ≤ n ∧ v = .int .i64 k ∧ Hid (∀ i, i < k → xs.getD i 0 ≠ 58)) (fun u v => n - (intOf v).toNat)
  case atStart => exact ⟨rfl, 0, by omega, rfl, fun i hi => by omega⟩
  case round =>
    obtain ⟨rfl, k, hk, rfl, HNO⟩ := hrel
    by_cases hlt : k < n
    · obtain ⟨x, HX⟩ : ∃ x, Hid (xs.getD k 0 = x) := ⟨_, rfl⟩
      have hc1 : w.cell? ⟨b, o + k, none⟩ = some (.int .u8 x) := by rw [← HX.out]; exact C1.out k hlt
      rcases hx : (x == 58) with _ | _
      · have HNX : Hid (∀ i, i < k + 1 → xs.getD i 0 ≠ 58) := by
          intro i hi
          by_cases hik : i < k
          · exact HNO.out i hik
          · have : i = k := by omega
            rw [this, HX.out]; simpa using hx
        go_wp2
        go_round
        case rel => exact ⟨rfl, k + 1, by omega, by go_num, HNX⟩
        case measure => simp [intOf]; omega
      · have HA : Hid (nameOf xs = xs.take k ∧ rawOf xs = xs.drop (k + 1)) := name_at (by rw [L1.out]; exact hlt) HNO.out (by rw [HX.out]; simpa using hx)
        have HQ : Hid (nameOf xs = xs.take k) := HA.out.1
        have HN : Hid (See w (some ⟨b, o, none⟩) k c (xs.take k)) := by
          have := HS.out.piece 0 k (by omega) c (by omega)
          simpa [Hid] using this
        by_cases h1 : k + 1 < n
        · obtain ⟨y, HY⟩ : ∃ y, Hid (xs.getD (k + 1) 0 = y) := ⟨_, rfl⟩
          have hc2 : w.cell? ⟨b, o + (k + 1), none⟩ = some (.int .u8 y) := by rw [← HY.out]; exact C1.out (k + 1) h1
          have HH : Hid ((rawOf xs).head? = some y) := by
            unfold Hid; rw [HA.out.2, List.head?_drop, ← HY.out]
            have : k + 1 < xs.length := by rw [L1.out]; exact h1
            simp [List.getD, List.getElem?_eq_getElem this]
          rcases hy : (y == 32) with _ | _
          · have HV : Hid (See w (some ⟨b, o + (k + 1), none⟩) (n - (k + 1)) (c - (k + 1)) (valOf xs)) := by
              have := HS.out.piece (k + 1) (n - (k + 1)) (by omega) (c - (k + 1)) (by omega)
              have e : valOf xs = (xs.drop (k + 1)).take (n - (k + 1)) := by
                unfold valOf; rw [HH.out, if_neg (by simpa using hy), HA.out.2, List.take_of_length_le (by rw [List.length_drop, L1.out]; exact Nat.le_refl _)]
              unfold Hid; rw [e]; exact this
            rcases hD : (nameOf xs == nums dataS) with _ | _
            · have HD : Hid ((nameOf xs == nums dataS) = false) := hD
              clear hD
              rcases hE : (nameOf xs == nums eventS) with _ | _
              · have HE : Hid ((nameOf xs == nums eventS) = false) := hE
                clear hE
                go_wp2_with fail
                refine (equalS_is (some ⟨b, o, none⟩) k c (xs.take k) ⟨#[100, 97, 116, 97]⟩ _ false (by omega) (by decide) HN.out (by unfold Hid; rw [← HQ.out]; exact HD.out)).mono ?_
                rintro e w1 ⟨rfl, hb1⟩
                have HB1 : Hid (Below w.heap.size w w1) := hb1
                clear hb1
                go_wp2_with fail
                refine (equalS_is (some ⟨b, o, none⟩) k c (xs.take k) ⟨#[101, 118, 101, 110, 116]⟩ _ false (by omega) (by decide) (HN.out.later HB1.out) (by unfold Hid; rw [← HQ.out]; exact HE.out)).mono ?_
                rintro e w2 ⟨rfl, hb2⟩
                have HB2 : Hid (Below w.heap.size w w2) := HB1.out.trans (hb2.mono HB1.out.size)
                clear hb2
                go_wp2_with fail
                go_ret2
                refine ⟨parse_end (kind_o HD.out HE.out) (by have := L1.out; omega) (HV.out.later HB2.out), HB2.out⟩
              · have HE : Hid ((nameOf xs == nums eventS) = true) := hE
                clear hE
                go_wp2_with fail
                refine (equalS_is (some ⟨b, o, none⟩) k c (xs.take k) ⟨#[100, 97, 116, 97]⟩ _ false (by omega) (by decide) HN.out (by unfold Hid; rw [← HQ.out]; exact HD.out)).mono ?_
                rintro e w1 ⟨rfl, hb1⟩
                have HB1 : Hid (Below w.heap.size w w1) := hb1
                clear hb1
                go_wp2_with fail
                refine (equalS_is (some ⟨b, o, none⟩) k c (xs.take k) ⟨#[101, 118, 101, 110, 116]⟩ _ true (by omega) (by decide) (HN.out.later HB1.out) (by unfold Hid; rw [← HQ.out]; exact HE.out)).mono ?_
                rintro e w2 ⟨rfl, hb2⟩
                have HB2 : Hid (Below w.heap.size w w2) := HB1.out.trans (hb2.mono HB1.out.size)
                clear hb2
                go_wp2_with fail
                go_ret2
                refine ⟨parse_end (kind_e HD.out HE.out) (by have := L1.out; omega) (HV.out.later HB2.out), HB2.out⟩
            · have HD : Hid ((nameOf xs == nums dataS) = true) := hD
              clear hD
              go_wp2_with fail
              refine (equalS_is (some ⟨b, o, none⟩) k c (xs.take k) ⟨#[100, 97, 116, 97]⟩ _ true (by omega) (by decide) HN.out (by unfold Hid; rw [← HQ.out]; exact HD.out)).mono ?_
              rintro e w1 ⟨rfl, hb1⟩
              have HB1 : Hid (Below w.heap.size w w1) := hb1
              clear hb1
              go_wp2_with fail
              go_ret2
              refine ⟨parse_end (kind_d HD.out) (by have := L1.out; omega) (HV.out.later HB1.out), HB1.out⟩
          · by_cases hc2e : c ≤ k + 2
            · have HV : Hid (∀ p c', p ≠ none → See w p (n - (k + 1) - 1) c' (valOf xs)) := by
                intro p c' hp
                have e : valOf xs = [] := by
                  unfold valOf; rw [HH.out, if_pos (by simpa using hy), HA.out.2, List.drop_drop]
                  exact List.drop_of_length_le (by rw [L1.out]; omega)
                rw [e, show n - (k + 1) - 1 = 0 from by omega]
                exact See.none_of hp
              rcases hD : (nameOf xs == nums dataS) with _ | _
              · have HD : Hid ((nameOf xs == nums dataS) = false) := hD
                clear hD
                rcases hE : (nameOf xs == nums eventS) with _ | _
                · have HE : Hid ((nameOf xs == nums eventS) = false) := hE
                  clear hE
                  go_wp2_with fail
                  refine (equalS_is (some ⟨b, o, none⟩) k c (xs.take k) ⟨#[100, 97, 116, 97]⟩ _ false (by omega) (by decide) HN.out (by unfold Hid; rw [← HQ.out]; exact HD.out)).mono ?_
                  rintro e w1 ⟨rfl, hb1⟩
                  have HB1 : Hid (Below w.heap.size w w1) := hb1
                  clear hb1
                  go_wp2_with fail
                  refine (equalS_is (some ⟨b, o, none⟩) k c (xs.take k) ⟨#[101, 118, 101, 110, 116]⟩ _ false (by omega) (by decide) (HN.out.later HB1.out) (by unfold Hid; rw [← HQ.out]; exact HE.out)).mono ?_
                  rintro e w2 ⟨rfl, hb2⟩
                  have HB2 : Hid (Below w.heap.size w w2) := HB1.out.trans (hb2.mono HB1.out.size)
                  clear hb2
                  go_wp2_with fail
                  go_ret2
                  refine ⟨parse_end (kind_o HD.out HE.out) (by have := L1.out; omega) ((HV.out _ _ ?_).later HB2.out), HB2.out⟩
                  first | (simp; done) | (split <;> simp)
                · have HE : Hid ((nameOf xs == nums eventS) = true) := hE
                  clear hE
                  go_wp2_with fail
                  refine (equalS_is (some ⟨b, o, none⟩) k c (xs.take k) ⟨#[100, 97, 116, 97]⟩ _ false (by omega) (by decide) HN.out (by unfold Hid; rw [← HQ.out]; exact HD.out)).mono ?_
                  rintro e w1 ⟨rfl, hb1⟩
                  have HB1 : Hid (Below w.heap.size w w1) := hb1
                  clear hb1
                  go_wp2_with fail
                  refine (equalS_is (some ⟨b, o, none⟩) k c (xs.take k) ⟨#[101, 118, 101, 110, 116]⟩ _ true (by omega) (by decide) (HN.out.later HB1.out) (by unfold Hid; rw [← HQ.out]; exact HE.out)).mono ?_
                  rintro e w2 ⟨rfl, hb2⟩
                  have HB2 : Hid (Below w.heap.size w w2) := HB1.out.trans (hb2.mono HB1.out.size)
                  clear hb2
                  go_wp2_with fail
                  go_ret2
                  refine ⟨parse_end (kind_e HD.out HE.out) (by have := L1.out; omega) ((HV.out _ _ ?_).later HB2.out), HB2.out⟩
                  first | (simp; done) | (split <;> simp)
              · have HD : Hid ((nameOf xs == nums dataS) = true) := hD
                clear hD
                go_wp2_with fail
                refine (equalS_is (some ⟨b, o, none⟩) k c (xs.take k) ⟨#[100, 97, 116, 97]⟩ _ true (by omega) (by decide) HN.out (by unfold Hid; rw [← HQ.out]; exact HD.out)).mono ?_
                rintro e w1 ⟨rfl, hb1⟩
                have HB1 : Hid (Below w.heap.size w w1) := hb1
                clear hb1
                go_wp2_with fail
                go_ret2
                refine ⟨parse_end (kind_d HD.out) (by have := L1.out; omega) ((HV.out _ _ ?_).later HB1.out), HB1.out⟩
                first | (simp; done) | (split <;> simp)
            · have HV : Hid (See w (some ⟨b, o + (k + 1) + 1, none⟩) (n - (k + 1) - 1) (c - (k + 1) - 1) (valOf xs)) := by
                have := HS.out.piece (k + 1 + 1) (n - (k + 1) - 1) (by omega) (c - (k + 1) - 1) (by omega)
                have e : valOf xs = (xs.drop (k + 1 + 1)).take (n - (k + 1) - 1) := by
                  unfold valOf; rw [HH.out, if_pos (by simpa using hy), HA.out.2, List.drop_drop, List.take_of_length_le (by rw [List.length_drop, L1.out]; omega)]
                unfold Hid; rw [e]; exact this
              rcases hD : (nameOf xs == nums dataS) with _ | _
              · have HD : Hid ((nameOf xs == nums dataS) = false) := hD
                clear hD
                rcases hE : (nameOf xs == nums eventS) with _ | _
                · have HE : Hid ((nameOf xs == nums eventS) = false) := hE
                  clear hE
                  go_wp2_with fail
                  refine (equalS_is (some ⟨b, o, none⟩) k c (xs.take k) ⟨#[100, 97, 116, 97]⟩ _ false (by omega) (by decide) HN.out (by unfold Hid; rw [← HQ.out]; exact HD.out)).mono ?_
                  rintro e w1 ⟨rfl, hb1⟩
                  have HB1 : Hid (Below w.heap.size w w1) := hb1
                  clear hb1
                  go_wp2_with fail
                  refine (equalS_is (some ⟨b, o, none⟩) k c (xs.take k) ⟨#[101, 118, 101, 110, 116]⟩ _ false (by omega) (by decide) (HN.out.later HB1.out) (by unfold Hid; rw [← HQ.out]; exact HE.out)).mono ?_
                  rintro e w2 ⟨rfl, hb2⟩
                  have HB2 : Hid (Below w.heap.size w w2) := HB1.out.trans (hb2.mono HB1.out.size)
                  clear hb2
                  go_wp2_with fail
                  go_ret2
                  refine ⟨parse_end (kind_o HD.out HE.out) (by have := L1.out; omega) (HV.out.later HB2.out), HB2.out⟩
                · have HE : Hid ((nameOf xs == nums eventS) = true) := hE
                  clear hE
                  go_wp2_with fail
                  refine (equalS_is (some ⟨b, o, none⟩) k c (xs.take k) ⟨#[100, 97, 116, 97]⟩ _ false (by omega) (by decide) HN.out (by unfold Hid; rw [← HQ.out]; exact HD.out)).mono ?_
                  rintro e w1 ⟨rfl, hb1⟩
                  have HB1 : Hid (Below w.heap.size w w1) := hb1
                  clear hb1
                  go_wp2_with fail
                  refine (equalS_is (some ⟨b, o, none⟩) k c (xs.take k) ⟨#[101, 118, 101, 110, 116]⟩ _ true (by omega) (by decide) (HN.out.later HB1.out) (by unfold Hid; rw [← HQ.out]; exact HE.out)).mono ?_
                  rintro e w2 ⟨rfl, hb2⟩
                  have HB2 : Hid (Below w.heap.size w w2) := HB1.out.trans (hb2.mono HB1.out.size)
                  clear hb2
                  go_wp2_with fail
                  go_ret2
                  refine ⟨parse_end (kind_e HD.out HE.out) (by have := L1.out; omega) (HV.out.later HB2.out), HB2.out⟩
              · have HD : Hid ((nameOf xs == nums dataS) = true) := hD
                clear hD
                go_wp2_with fail
                refine (equalS_is (some ⟨b, o, none⟩) k c (xs.take k) ⟨#[100, 97, 116, 97]⟩ _ true (by omega) (by decide) HN.out (by unfold Hid; rw [← HQ.out]; exact HD.out)).mono ?_
                rintro e w1 ⟨rfl, hb1⟩
                have HB1 : Hid (Below w.heap.size w w1) := hb1
                clear hb1
                go_wp2_with fail
                go_ret2
                refine ⟨parse_end (kind_d HD.out) (by have := L1.out; omega) (HV.out.later HB1.out), HB1.out⟩
        · have HV : Hid (∀ p c', p ≠ none → See w p (n - (k + 1)) c' (valOf xs)) := by
            intro p c' hp
            have r : rawOf xs = [] := by rw [HA.out.2]; exact List.drop_of_length_le (by rw [L1.out]; omega)
            have e : valOf xs = [] := by unfold valOf; rw [r]; rfl
            rw [e, show n - (k + 1) = 0 from by omega]
            exact See.none_of hp
          by_cases hck : c ≤ k + 1
          · skip
            rcases hD : (nameOf xs == nums dataS) with _ | _
            · have HD : Hid ((nameOf xs == nums dataS) = false) := hD
              clear hD
              rcases hE : (nameOf xs == nums eventS) with _ | _
              · have HE : Hid ((nameOf xs == nums eventS) = false) := hE
                clear hE
                go_wp2_with fail
                refine (equalS_is (some ⟨b, o, none⟩) k c (xs.take k) ⟨#[100, 97, 116, 97]⟩ _ false (by omega) (by decide) HN.out (by unfold Hid; rw [← HQ.out]; exact HD.out)).mono ?_
                rintro e w1 ⟨rfl, hb1⟩
                have HB1 : Hid (Below w.heap.size w w1) := hb1
                clear hb1
                go_wp2_with fail
                refine (equalS_is (some ⟨b, o, none⟩) k c (xs.take k) ⟨#[101, 118, 101, 110, 116]⟩ _ false (by omega) (by decide) (HN.out.later HB1.out) (by unfold Hid; rw [← HQ.out]; exact HE.out)).mono ?_
                rintro e w2 ⟨rfl, hb2⟩
                have HB2 : Hid (Below w.heap.size w w2) := HB1.out.trans (hb2.mono HB1.out.size)
                clear hb2
                go_wp2_with fail
                go_ret2
                refine ⟨parse_end (kind_o HD.out HE.out) (by have := L1.out; omega) ((HV.out _ _ ?_).later HB2.out), HB2.out⟩
                first | (simp; done) | (split <;> simp)
              · have HE : Hid ((nameOf xs == nums eventS) = true) := hE
                clear hE
                go_wp2_with fail
                refine (equalS_is (some ⟨b, o, none⟩) k c (xs.take k) ⟨#[100, 97, 116, 97]⟩ _ false (by omega) (by decide) HN.out (by unfold Hid; rw [← HQ.out]; exact HD.out)).mono ?_
                rintro e w1 ⟨rfl, hb1⟩
                have HB1 : Hid (Below w.heap.size w w1) := hb1
                clear hb1
                go_wp2_with fail
                refine (equalS_is (some ⟨b, o, none⟩) k c (xs.take k) ⟨#[101, 118, 101, 110, 116]⟩ _ true (by omega) (by decide) (HN.out.later HB1.out) (by unfold Hid; rw [← HQ.out]; exact HE.out)).mono ?_
                rintro e w2 ⟨rfl, hb2⟩
                have HB2 : Hid (Below w.heap.size w w2) := HB1.out.trans (hb2.mono HB1.out.size)
                clear hb2
                go_wp2_with fail
                go_ret2
                refine ⟨parse_end (kind_e HD.out HE.out) (by have := L1.out; omega) ((HV.out _ _ ?_).later HB2.out), HB2.out⟩
                first | (simp; done) | (split <;> simp)
            · have HD : Hid ((nameOf xs == nums dataS) = true) := hD
              clear hD
              go_wp2_with fail
              refine (equalS_is (some ⟨b, o, none⟩) k c (xs.take k) ⟨#[100, 97, 116, 97]⟩ _ true (by omega) (by decide) HN.out (by unfold Hid; rw [← HQ.out]; exact HD.out)).mono ?_
              rintro e w1 ⟨rfl, hb1⟩
              have HB1 : Hid (Below w.heap.size w w1) := hb1
              clear hb1
              go_wp2_with fail
              go_ret2
              refine ⟨parse_end (kind_d HD.out) (by have := L1.out; omega) ((HV.out _ _ ?_).later HB1.out), HB1.out⟩
              first | (simp; done) | (split <;> simp)
          · skip
            rcases hD : (nameOf xs == nums dataS) with _ | _
            · have HD : Hid ((nameOf xs == nums dataS) = false) := hD
              clear hD
              rcases hE : (nameOf xs == nums eventS) with _ | _
              · have HE : Hid ((nameOf xs == nums eventS) = false) := hE
                clear hE
                go_wp2_with fail
                refine (equalS_is (some ⟨b, o, none⟩) k c (xs.take k) ⟨#[100, 97, 116, 97]⟩ _ false (by omega) (by decide) HN.out (by unfold Hid; rw [← HQ.out]; exact HD.out)).mono ?_
                rintro e w1 ⟨rfl, hb1⟩
                have HB1 : Hid (Below w.heap.size w w1) := hb1
                clear hb1
                go_wp2_with fail
                refine (equalS_is (some ⟨b, o, none⟩) k c (xs.take k) ⟨#[101, 118, 101, 110, 116]⟩ _ false (by omega) (by decide) (HN.out.later HB1.out) (by unfold Hid; rw [← HQ.out]; exact HE.out)).mono ?_
                rintro e w2 ⟨rfl, hb2⟩
                have HB2 : Hid (Below w.heap.size w w2) := HB1.out.trans (hb2.mono HB1.out.size)
                clear hb2
                go_wp2_with fail
                go_ret2
                refine ⟨parse_end (kind_o HD.out HE.out) (by have := L1.out; omega) ((HV.out _ _ ?_).later HB2.out), HB2.out⟩
                first | (simp; done) | (split <;> simp)
              · have HE : Hid ((nameOf xs == nums eventS) = true) := hE
                clear hE
                go_wp2_with fail
                refine (equalS_is (some ⟨b, o, none⟩) k c (xs.take k) ⟨#[100, 97, 116, 97]⟩ _ false (by omega) (by decide) HN.out (by unfold Hid; rw [← HQ.out]; exact HD.out)).mono ?_
                rintro e w1 ⟨rfl, hb1⟩
                have HB1 : Hid (Below w.heap.size w w1) := hb1
                clear hb1
                go_wp2_with fail
                refine (equalS_is (some ⟨b, o, none⟩) k c (xs.take k) ⟨#[101, 118, 101, 110, 116]⟩ _ true (by omega) (by decide) (HN.out.later HB1.out) (by unfold Hid; rw [← HQ.out]; exact HE.out)).mono ?_
                rintro e w2 ⟨rfl, hb2⟩
                have HB2 : Hid (Below w.heap.size w w2) := HB1.out.trans (hb2.mono HB1.out.size)
                clear hb2
                go_wp2_with fail
                go_ret2
                refine ⟨parse_end (kind_e HD.out HE.out) (by have := L1.out; omega) ((HV.out _ _ ?_).later HB2.out), HB2.out⟩
                first | (simp; done) | (split <;> simp)
            · have HD : Hid ((nameOf xs == nums dataS) = true) := hD
              clear hD
              go_wp2_with fail
              refine (equalS_is (some ⟨b, o, none⟩) k c (xs.take k) ⟨#[100, 97, 116, 97]⟩ _ true (by omega) (by decide) HN.out (by unfold Hid; rw [← HQ.out]; exact HD.out)).mono ?_
              rintro e w1 ⟨rfl, hb1⟩
              have HB1 : Hid (Below w.heap.size w w1) := hb1
              clear hb1
              go_wp2_with fail
              go_ret2
              refine ⟨parse_end (kind_d HD.out) (by have := L1.out; omega) ((HV.out _ _ ?_).later HB1.out), HB1.out⟩
              first | (simp; done) | (split <;> simp)
    · have HA : Hid (nameOf xs = xs ∧ valOf xs = []) := name_no (fun i hi => HNO.out i (by rw [L1.out] at hi; omega))
      have HQ : Hid (nameOf xs = xs) := HA.out.1
      have HN : Hid (See w (some ⟨b, o, none⟩) n c xs) := HS.out
      have HV : Hid (See w none 0 0 (valOf xs)) := by unfold Hid; rw [HA.out.2]; exact See.nil w
      rcases hD : (nameOf xs == nums dataS) with _ | _
      · have HD : Hid ((nameOf xs == nums dataS) = false) := hD
        clear hD
        rcases hE : (nameOf xs == nums eventS) with _ | _
        · have HE : Hid ((nameOf xs == nums eventS) = false) := hE
          clear hE
          go_wp2_with fail
          refine (equalS_is (some ⟨b, o, none⟩) n c xs ⟨#[100, 97, 116, 97]⟩ _ false (by omega) (by decide) HN.out (by unfold Hid; rw [← HQ.out]; exact HD.out)).mono ?_
          rintro e w1 ⟨rfl, hb1⟩
          have HB1 : Hid (Below w.heap.size w w1) := hb1
          clear hb1
          go_wp2_with fail
          refine (equalS_is (some ⟨b, o, none⟩) n c xs ⟨#[101, 118, 101, 110, 116]⟩ _ false (by omega) (by decide) (HN.out.later HB1.out) (by unfold Hid; rw [← HQ.out]; exact HE.out)).mono ?_
          rintro e w2 ⟨rfl, hb2⟩
          have HB2 : Hid (Below w.heap.size w w2) := HB1.out.trans (hb2.mono HB1.out.size)
          clear hb2
          go_wp2_with fail
          go_ret2
          refine ⟨parse_end (kind_o HD.out HE.out) (Nat.zero_le _) (HV.out.later HB2.out), HB2.out⟩
        · have HE : Hid ((nameOf xs == nums eventS) = true) := hE
          clear hE
          go_wp2_with fail
          refine (equalS_is (some ⟨b, o, none⟩) n c xs ⟨#[100, 97, 116, 97]⟩ _ false (by omega) (by decide) HN.out (by unfold Hid; rw [← HQ.out]; exact HD.out)).mono ?_
          rintro e w1 ⟨rfl, hb1⟩
          have HB1 : Hid (Below w.heap.size w w1) := hb1
          clear hb1
          go_wp2_with fail
          refine (equalS_is (some ⟨b, o, none⟩) n c xs ⟨#[101, 118, 101, 110, 116]⟩ _ true (by omega) (by decide) (HN.out.later HB1.out) (by unfold Hid; rw [← HQ.out]; exact HE.out)).mono ?_
          rintro e w2 ⟨rfl, hb2⟩
          have HB2 : Hid (Below w.heap.size w w2) := HB1.out.trans (hb2.mono HB1.out.size)
          clear hb2
          go_wp2_with fail
          go_ret2
          refine ⟨parse_end (kind_e HD.out HE.out) (Nat.zero_le _) (HV.out.later HB2.out), HB2.out⟩
      · have HD : Hid ((nameOf xs == nums dataS) = true) := hD
        clear hD
        go_wp2_with fail
        refine (equalS_is (some ⟨b, o, none⟩) n c xs ⟨#[100, 97, 116, 97]⟩ _ true (by omega) (by decide) HN.out (by unfold Hid; rw [← HQ.out]; exact HD.out)).mono ?_
        rintro e w1 ⟨rfl, hb1⟩
        have HB1 : Hid (Below w.heap.size w w1) := hb1
        clear hb1
        go_wp2_with fail
        go_ret2
        refine ⟨parse_end (kind_d HD.out) (Nat.zero_le _) (HV.out.later HB1.out), HB1.out⟩

end Go.Proofs.Qxb6003622a.Fld
