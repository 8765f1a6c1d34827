/- Seat b6600448a: the law's own function. -/
import Derived.Test.Qxb6600448aZz
import Derived.Test.Qxb6600448aFits
namespace Go.Proofs.Qxb6600448a.Tr
open Go.RowKit
set_option linter.unusedVariables false

theorem split_le : ∀ s : Txt, (Tr.split s).length ≤ s.length + 1
  | [] => by simp [Tr.split]
  | c :: r => by
    have ih := split_le r
    rw [Tr.split]
    split
    · simp; omega
    · split
      · rename_i h t e; rw [e] at ih; simp at ih ⊢; omega
      · simp
theorem fine_len {xss : List (List ByteArray)} (h : Fine 1048576 xss) : ∀ xs ∈ xss, xs.length ≤ 1048576 := fun xs hx => (h xs hx).1
def cnt (xss : List (List ByteArray)) (s : ByteArray) (i : Nat) : Nat := (fitting xss i s).length
theorem cnt_step (xss : List (List ByteArray)) (s : ByteArray) (i : Nat) {b : Bool} (h : fitsB (txts (xss.getD i [])) (Tr.split (txt s)) = b) : cnt xss s (i + 1) = cnt xss s i + (if b then 1 else 0) := by
  subst h
  exact filter_len i _ i
theorem cnt_at (xss : List (List ByteArray)) (s : ByteArray) {i n : Nat} (hi : i < n) (h : fitsB (txts (xss.getD i [])) (Tr.split (txt s)) = true) : (fitting xss n s)[cnt xss s i]? = some i := filter_at n i _ hi h
theorem cnt_le (xss : List (List ByteArray)) (s : ByteArray) (i : Nat) : cnt xss s i ≤ i := by
  have := List.length_filter_le (fun x => fitsB (txts (xss.getD x [])) (Tr.split (txt s))) (List.range i)
  simpa [cnt, fitting] using this

def FnEnd (w w' : World) (e : Ending) : Prop := e = .returned (.bool true) ∧ Below w.heap.size w w'

set_option maxHeartbeats 2000000 in
theorem fn_any (p : Option Addr) (n c : Nat) (s : ByteArray) (xss : List (List ByteArray)) (m : Int) (w : World) (hn : n ≤ maxLen) (hx : s.size ≤ maxLen) (HS : Hid (SeeSS w p n c xss)) (HF : Hid (Fine maxLen xss)) (HMX : Hid (w.cell? ⟨0, 0, none⟩ = some (.int .i64 m))) :
    Calls Try.prog 5 #[.slice p n c, .string s] w fun e w' => FnEnd w w' e := by
  go_enter Try.func5, Try.ntmps5
  go_wp2_with fail
  refine (bytes_any p n c s xss w hn hx HS HF).mono ?_
  rintro e w1 ⟨⟨b, rfl, hb⟩, rfl⟩
  cases b with
  | false =>
    clear hb
    go_wp2_with fail
    go_ret
    exact ⟨rfl, Below.refl _ _⟩
  | true =>
    obtain ⟨hn1, hf1, hs1⟩ := hb rfl
    have HF1 := Hid.mk' hf1
    clear hb hf1
    go_wp2_with fail
    refine (tooBig_any p n c s.size xss w1 hn1 hs1 HS HF1).mono ?_
    rintro e w2 ⟨⟨b, rfl, hb⟩, rfl⟩
    cases b with
    | true =>
      clear hb
      go_wp2_with fail
      go_ret
      exact ⟨rfl, Below.refl _ _⟩
    | false =>
      obtain ⟨hn2, hsm⟩ := hb rfl
      have HSM := Hid.mk' hsm
      clear hb hsm
      go_wp2_with fail
      refine (cloneSS_any p n c xss w2 hn1 HS.out (fine_len HF1.out)).mono ?_
      rintro e w3 ⟨⟨p3, c3, rfl, hs3⟩, hb3⟩
      have HS3 := Hid.mk' hs3
      have HB3 := Hid.mk' hb3
      clear hs3 hb3
      go_wp2_with fail
      refine (wtree_any p3 n c3 xss w3 hn2 HS3 HSM).mono ?_
      rintro e w4 ⟨t, K, rfl, hK, hmid⟩
      have HB4 := Hid.mk' (HB3.out.trans (hmid.bel.mono HB3.out.size))
      have HS4 := Hid.mk' (HS3.out.later hmid.bel)
      have HR4 : Hid (∃ B K, Rep w4 B K t) := ⟨_, _, hmid.rep⟩
      have HG4 := Hid.mk' hmid.gr
      have HT4 := Hid.mk' hmid.rt
      have HM4 : Hid (w4.cell? ⟨0, 0, none⟩ = some (.int .i64 m)) := by
        unfold Hid
        rw [HB4.out.cell (p := ⟨0, 0, none⟩) (World.block_lt_of_cell? _ _ HMX.out)]; exact HMX.out
      clear hmid HS3 HB3
      go_wp2_with fail
      refine (zzwalk_any w4 xss n t s m w3.heap.size HR4 HG4 HT4 HM4 hs1 hn2).mono ?_
      rintro e w5 ⟨g, k5, rfl, hk5, ho5, hb5⟩
      have HB5 := Hid.mk' (HB4.out.trans (hb5.mono HB4.out.size))
      have HS5 := Hid.mk' (HS4.out.later hb5)
      have HO5 := Hid.mk' ho5
      have HK5 := Hid.mk' hk5
      have hk5n : k5 ≤ 65536 := by rw [← hk5]; exact Nat.le_trans (cnt_le xss s n) hn2
      clear ho5 hb5 hk5 HS4 HB4 HR4 HG4 HT4 HM4
      go_wp2_with fail
      refine (split_any s w5 hs1).mono ?_
      rintro e w6 ⟨⟨q, m6, d6, ys, rfl, hs6, hy⟩, hb6⟩
      have HB6 := Hid.mk' (HB5.out.trans (hb6.mono HB5.out.size))
      have HS6 := Hid.mk' (HS5.out.later hb6)
      have HO6 := Hid.mk' (own_later HO5.out hb6)
      have HY6 := Hid.mk' hs6
      have HYS := Hid.mk' hy
      have hm6 : m6 ≤ 2097152 := by
        have h1 := split_le (txt s)
        rw [← hy, txts_length, hs6.len, ← size_txt] at h1
        omega
      clear hb6 hs6 hy HS5 HO5 HB5 HS
      go_wp2_with fail
      go_loopw [8, 9] (fun u z wr => ∃ (i k : Nat), i ≤ n ∧ k ≤ i ∧ z = .int .i64 i ∧ u = .int .i64 k ∧ Hid (Below w6.heap.size w6 wr) ∧ Hid (k = cnt xss s i)) (fun u z _ => n - (intOf z).toNat)
      case atStart => exact ⟨0, 0, by omega, by omega, rfl, rfl, Below.refl _ _, rfl⟩
      case round =>
        obtain ⟨i, k, hin, hki, rfl, rfl, HBR, HK⟩ := hrel
        by_cases hlt : i < n
        · have HSR := Hid.mk' (HS6.out.later HBR.out)
          have HYR := Hid.mk' (HY6.out.later HBR.out)
          have HOR := Hid.mk' (own_later HO6.out HBR.out)
          obtain ⟨b, o, p', n', c', rfl, hc, hs'⟩ := HSR.out.cells i hlt
          obtain ⟨xs, HX⟩ : ∃ xs, Hid (xss.getD i [] = xs) := ⟨_, rfl⟩
          have HS' : Hid (SeeS wr p' n' c' xs) := by rw [← HX.out]; exact hs'
          have hn' : n' ≤ 1048576 := by
            have := (HSM.out.each i hlt).1
            rw [HX.out, HS'.out.len] at this
            omega
          clear hs'
          go_wp2_with fail
          refine (fits_any p' q n' c' m6 d6 xs ys _ hn' hm6 HS'.out HYR.out).mono ?_
          rintro e w7 ⟨rfl, hb7⟩
          obtain ⟨bb, hbb⟩ : ∃ bb, fitsB (txts xs) (txts ys) = bb := ⟨_, rfl⟩
          have HBB : Hid (fitsB (txts (xss.getD i [])) (Tr.split (txt s)) = bb) := by unfold Hid; rw [HX.out, ← HYS.out]; exact hbb
          rw [hbb]
          have HB7 : Hid (Below w6.heap.size w6 w7) := HBR.out.trans (hb7.mono HBR.out.size)
          have HO7 := Hid.mk' (own_later HOR.out hb7)
          clear hb7 hbb
          cases bb with
          | false =>
            have HKN : Hid (k = cnt xss s (i + 1)) := by unfold Hid; rw [cnt_step xss s i HBB.out, ← HK.out]; rfl
            go_wp2_with fail
            go_roundw
            case rel => exact ⟨i + 1, k, by omega, by omega, by go_num, rfl, HB7, HKN⟩
            case measure => simp [intOf]; omega
          | true =>
            have HKN : Hid (k + 1 = cnt xss s (i + 1)) := by unfold Hid; rw [cnt_step xss s i HBB.out, ← HK.out]; rfl
            have hat := cnt_at xss s hlt HBB.out
            rw [← HK.out] at hat
            have hk5' : k < k5 := by
              have := (List.getElem?_eq_some_iff.1 hat).1
              rw [HK5.out] at this; exact this
            have hc7 : w7.cell? ⟨g, k, none⟩ = some (.int .i64 (i : Nat)) := by
              rw [HO7.out.cellAt k (by omega), ints, List.getElem?_map, hat]; rfl
            clear hat
            go_wp2_with fail
            go_roundw
            case rel => exact ⟨i + 1, k + 1, by omega, by omega, by go_num, by go_num, HB7, HKN⟩
            case measure => simp [intOf]; omega
        · have hkk : k = k5 := by rw [HK.out, show i = n from by omega, ← HK5.out]; rfl
          subst hkk
          go_wp2_with fail
          go_ret
          refine ⟨?_, HB6.out.trans (HBR.out.mono HB6.out.size)⟩
          simp

end Go.Proofs.Qxb6600448a.Tr
