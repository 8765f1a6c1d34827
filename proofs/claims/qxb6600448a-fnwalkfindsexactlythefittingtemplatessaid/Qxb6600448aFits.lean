/- Seat b6600448a: zzFitsTemplate. -/
import Derived.Test.Qxb6600448aSee
namespace Go.Proofs.Qxb6600448a.Tr
open Go.RowKit
set_option linter.unusedVariables false

theorem fits_false {t ps : List Txt} {k F : Nat} (hF : (lastDeep t = true ∧ F = t.length - 1) ∨ (lastDeep t = false ∧ F = t.length)) (hk : k < F) (h : segOk (t.getD k []) (ps.getD k []) = false) : fitsB t ps = false := by
  unfold fitsB
  rcases hF with ⟨h1, rfl⟩ | ⟨h1, rfl⟩
  · rw [if_pos h1, allOk_false hk h]; simp
  · rw [if_neg (by rw [h1]; decide), allOk_false hk h]; simp
theorem fits_true {t ps : List Txt} {F : Nat} (hF : (lastDeep t = true ∧ F = t.length - 1 ∧ F ≤ ps.length) ∨ (lastDeep t = false ∧ F = t.length ∧ F = ps.length)) (h : allOk t ps F = true) : fitsB t ps = true := by
  unfold fitsB
  rcases hF with ⟨h1, rfl, h2⟩ | ⟨h1, rfl, h2⟩
  · rw [if_pos h1, h]; simpa using h2
  · rw [if_neg (by rw [h1]; decide), h]; simpa using h2

set_option maxHeartbeats 2000000 in
theorem fits_flat (p q : Option Addr) (n c m d : Nat) (xs ys : List ByteArray) (w : World) (hn : n ≤ 1048576) (hm : m ≤ 2097152) (HS1 : Hid (SeeS w p n c xs)) (HS2 : Hid (SeeS w q m d ys)) (HL : Hid (lastDeep (txts xs) = false)) :
    Calls Try.prog 20 #[.slice p n c, .slice q m d] w (FitsPost w (fitsB (txts xs) (txts ys))) := by
  have L1 : Hid ((txts xs).length = n) := by unfold Hid; rw [txts_length]; exact HS1.out.len
  have L2 : Hid ((txts ys).length = m) := by unfold Hid; rw [txts_length]; exact HS2.out.len
  have HFX : Hid ((lastDeep (txts xs) = true ∧ n = (txts xs).length - 1) ∨ (lastDeep (txts xs) = false ∧ n = (txts xs).length)) := .inr ⟨HL.out, L1.out.symm⟩
  by_cases hnm : n = m
  · have HFT : Hid ((lastDeep (txts xs) = true ∧ n = (txts xs).length - 1 ∧ n ≤ (txts ys).length) ∨ (lastDeep (txts xs) = false ∧ n = (txts xs).length ∧ n = (txts ys).length)) := .inr ⟨HL.out, L1.out.symm, by rw [L2.out]; exact hnm⟩
    subst hnm
    by_cases h0 : 0 < n
    · obtain ⟨b1, o1, rfl, hcs0⟩ := HS1.out.cells h0
      have hb1 := HS1.out.lt b1 o1 rfl h0
      have C1 := Hid.mk' hcs0
      obtain ⟨F, rfl⟩ : ∃ F, n = F + 1 := ⟨n - 1, by omega⟩
      obtain ⟨z, HZ⟩ : ∃ z, Hid (xs.getD F mt = z) := ⟨_, rfl⟩
      have hz : (z.toList == [42, 42]) = false := by
        have := HL.out; unfold lastDeep at this; rw [L1.out, show F + 1 - 1 = F from rfl, txts_getD, HZ.out] at this
        rw [Lib.toList_data]
        simpa [txt] using this
      have hc0 : w.cell? ⟨b1, o1 + F, none⟩ = some (.string z) := by rw [← HZ.out]; exact hcs0 F (by omega)
      clear hcs0
      go_enter Try.func20, Try.ntmps20
      go_wp2
      go_loopw [7] (fun v wr => ∃ k : Nat, k ≤ (F + 1) ∧ v = .int .i64 k ∧ Hid (allOk (txts xs) (txts ys) k = true) ∧ Below w.heap.size w wr) (fun v _ => (F + 1) - (intOf v).toNat)
      case atStart => exact ⟨0, by omega, rfl, rfl, Below.refl _ _⟩
      case round =>
        obtain ⟨k, hk, rfl, HA, hbel⟩ := hrel
        by_cases hlt : k < (F + 1)
        · obtain ⟨b2, o2, hp2, hcs2⟩ := HS2.out.cells (by omega)
          have hb2 := HS2.out.lt b2 o2 hp2 (by omega)
          obtain ⟨x, HX⟩ : ∃ x, Hid (xs.getD k mt = x) := ⟨_, rfl⟩
          obtain ⟨y, HY⟩ : ∃ y, Hid (ys.getD k mt = y) := ⟨_, rfl⟩
          have hc1 : wr.cell? ⟨b1, o1 + k, none⟩ = some (.string x) := by rw [hbel.cell (p := ⟨b1, o1 + k, none⟩) hb1, ← HX.out]; exact C1.out k (by omega)
          have hc2 : wr.cell? ⟨b2, o2 + k, none⟩ = some (.string y) := by rw [hbel.cell (p := ⟨b2, o2 + k, none⟩) hb2, ← HY.out]; exact hcs2 k (by omega)
          have HB : Hid (Below w.heap.size w wr) := hbel
          have HSEG : Hid (segOk ((txts xs).getD k []) ((txts ys).getD k []) = segOk (txt x) (txt y)) := by unfold Hid; rw [txts_getD, txts_getD, HX.out, HY.out]
          clear hbel hcs2
          subst hp2
          rcases hx : (x.toList == [42]) with _ | _
          · rcases hxy : (x.toList == y.toList) with _ | _
            · have HF : Hid (fitsB (txts xs) (txts ys) = false) := fits_false HFX.out hlt (by rw [HSEG.out, seg_same hx]; exact hxy)
              have hxy' : (!x.toList == y.toList) = true := by rw [hxy]; rfl
              clear hxy
              go_wp2
              go_quiet (fail)
              go_wp2
              go_ret
              exact ⟨by rw [HF.out]; rfl, below_dr HB.out _⟩
            · have HN : Hid (allOk (txts xs) (txts ys) (k + 1) = true) := by unfold Hid; rw [allOk_succ, HA.out, HSEG.out, seg_same hx, hxy]; rfl
              have hxy' : (!x.toList == y.toList) = false := by rw [hxy]; rfl
              clear hxy
              go_wp2
              go_quiet (fail)
              go_wp2
              go_roundw
              case rel => exact ⟨k + 1, by omega, by go_num, HN, below_dr HB.out _⟩
              case measure => simp [intOf]; omega
          · rcases hy : y.toList.isEmpty with _ | _
            · have HN : Hid (allOk (txts xs) (txts ys) (k + 1) = true) := by unfold Hid; rw [allOk_succ, HA.out, HSEG.out, seg_star hx, hy]; rfl
              go_wp2
              go_roundw
              case rel => exact ⟨k + 1, by omega, by go_num, HN, HB.out⟩
              case measure => simp [intOf]; omega
            · have HF : Hid (fitsB (txts xs) (txts ys) = false) := fits_false HFX.out hlt (by rw [HSEG.out, seg_star hx, hy]; rfl)
              go_wp2
              go_ret
              exact ⟨by rw [HF.out]; rfl, HB.out⟩
        · have HB : Hid (Below w.heap.size w wr) := hbel
          have HT : Hid (fitsB (txts xs) (txts ys) = true) := fits_true HFT.out (by have := HA.out; rw [show k = (F + 1) from by omega] at this; exact this)
          clear hbel
          go_wp2
          go_ret
          exact ⟨by rw [HT.out]; rfl, HB.out⟩
    · go_enter Try.func20, Try.ntmps20
      go_wp2
      go_loopw [7] (fun v wr => ∃ k : Nat, k ≤ n ∧ v = .int .i64 k ∧ Hid (allOk (txts xs) (txts ys) k = true) ∧ Below w.heap.size w wr) (fun v _ => n - (intOf v).toNat)
      case atStart => exact ⟨0, by omega, rfl, rfl, Below.refl _ _⟩
      case round =>
        obtain ⟨k, hk, rfl, HA, hbel⟩ := hrel
        by_cases hlt : k < n
        · exfalso; omega
        · have HB : Hid (Below w.heap.size w wr) := hbel
          have HT : Hid (fitsB (txts xs) (txts ys) = true) := fits_true HFT.out (by have := HA.out; rw [show k = n from by omega] at this; exact this)
          clear hbel
          go_wp2
          go_ret
          exact ⟨by rw [HT.out]; rfl, HB.out⟩
  · have HF : Hid (fitsB (txts xs) (txts ys) = false) := by
      unfold Hid fitsB; rw [if_neg (by rw [HL.out]; decide), L1.out, L2.out]; simp [hnm]
    by_cases h0 : 0 < n
    · obtain ⟨b1, o1, rfl, hcs0⟩ := HS1.out.cells h0
      have hb1 := HS1.out.lt b1 o1 rfl h0
      have C1 := Hid.mk' hcs0
      obtain ⟨F, rfl⟩ : ∃ F, n = F + 1 := ⟨n - 1, by omega⟩
      obtain ⟨z, HZ⟩ : ∃ z, Hid (xs.getD F mt = z) := ⟨_, rfl⟩
      have hz : (z.toList == [42, 42]) = false := by
        have := HL.out; unfold lastDeep at this; rw [L1.out, show F + 1 - 1 = F from rfl, txts_getD, HZ.out] at this
        rw [Lib.toList_data]
        simpa [txt] using this
      have hc0 : w.cell? ⟨b1, o1 + F, none⟩ = some (.string z) := by rw [← HZ.out]; exact hcs0 F (by omega)
      clear hcs0
      go_enter Try.func20, Try.ntmps20
      go_wp2
      go_ret
      exact ⟨by rw [HF.out]; rfl, Below.refl _ _⟩
    · go_enter Try.func20, Try.ntmps20
      go_wp2
      go_ret
      exact ⟨by rw [HF.out]; rfl, Below.refl _ _⟩

set_option maxHeartbeats 2000000 in
theorem fits_deep (p q : Option Addr) (n c m d : Nat) (xs ys : List ByteArray) (w : World) (hn : n ≤ 1048576) (hm : m ≤ 2097152) (HS1 : Hid (SeeS w p n c xs)) (HS2 : Hid (SeeS w q m d ys)) (HL : Hid (lastDeep (txts xs) = true)) :
    Calls Try.prog 20 #[.slice p n c, .slice q m d] w (FitsPost w (fitsB (txts xs) (txts ys))) := by
  have L1 : Hid ((txts xs).length = n) := by unfold Hid; rw [txts_length]; exact HS1.out.len
  have L2 : Hid ((txts ys).length = m) := by unfold Hid; rw [txts_length]; exact HS2.out.len
  have h0 : 0 < n := by have := HL.out; unfold lastDeep at this; rw [L1.out] at this; simp at this; exact this.1
  obtain ⟨b1, o1, rfl, hcs0⟩ := HS1.out.cells h0
  have hb1 := HS1.out.lt b1 o1 rfl h0
  have C1 := Hid.mk' hcs0
  obtain ⟨F, rfl⟩ : ∃ F, n = F + 1 := ⟨n - 1, by omega⟩
  have HFX : Hid ((lastDeep (txts xs) = true ∧ F = (txts xs).length - 1) ∨ (lastDeep (txts xs) = false ∧ F = (txts xs).length)) := .inl ⟨HL.out, by rw [L1.out]; rfl⟩
  obtain ⟨z, HZ⟩ : ∃ z, Hid (xs.getD F mt = z) := ⟨_, rfl⟩
  have hz : (z.toList == [42, 42]) = true := by
    have := HL.out; unfold lastDeep at this; rw [L1.out, show F + 1 - 1 = F from rfl, txts_getD, HZ.out] at this
    rw [Lib.toList_data]
    simpa [txt] using this
  have hc0 : w.cell? ⟨b1, o1 + F, none⟩ = some (.string z) := by rw [← HZ.out]; exact hcs0 F (by omega)
  clear hcs0
  by_cases hnm : F ≤ m
  · have HFT : Hid ((lastDeep (txts xs) = true ∧ F = (txts xs).length - 1 ∧ F ≤ (txts ys).length) ∨ (lastDeep (txts xs) = false ∧ F = (txts xs).length ∧ F = (txts ys).length)) := .inl ⟨HL.out, by rw [L1.out]; rfl, by rw [L2.out]; exact hnm⟩
    go_enter Try.func20, Try.ntmps20
    go_wp2
    go_loopw [7] (fun v wr => ∃ k : Nat, k ≤ F ∧ v = .int .i64 k ∧ Hid (allOk (txts xs) (txts ys) k = true) ∧ Below w.heap.size w wr) (fun v _ => F - (intOf v).toNat)
    case atStart => exact ⟨0, by omega, rfl, rfl, Below.refl _ _⟩
    case round =>
      obtain ⟨k, hk, rfl, HA, hbel⟩ := hrel
      by_cases hlt : k < F
      · obtain ⟨b2, o2, hp2, hcs2⟩ := HS2.out.cells (by omega)
        have hb2 := HS2.out.lt b2 o2 hp2 (by omega)
        obtain ⟨x, HX⟩ : ∃ x, Hid (xs.getD k mt = x) := ⟨_, rfl⟩
        obtain ⟨y, HY⟩ : ∃ y, Hid (ys.getD k mt = y) := ⟨_, rfl⟩
        have hc1 : wr.cell? ⟨b1, o1 + k, none⟩ = some (.string x) := by rw [hbel.cell (p := ⟨b1, o1 + k, none⟩) hb1, ← HX.out]; exact C1.out k (by omega)
        have hc2 : wr.cell? ⟨b2, o2 + k, none⟩ = some (.string y) := by rw [hbel.cell (p := ⟨b2, o2 + k, none⟩) hb2, ← HY.out]; exact hcs2 k (by omega)
        have HB : Hid (Below w.heap.size w wr) := hbel
        have HSEG : Hid (segOk ((txts xs).getD k []) ((txts ys).getD k []) = segOk (txt x) (txt y)) := by unfold Hid; rw [txts_getD, txts_getD, HX.out, HY.out]
        clear hbel hcs2
        subst hp2
        rcases hx : (x.toList == [42]) with _ | _
        · rcases hxy : (x.toList == y.toList) with _ | _
          · have HF : Hid (fitsB (txts xs) (txts ys) = false) := fits_false HFX.out hlt (by rw [HSEG.out, seg_same hx]; exact hxy)
            have hxy' : (!x.toList == y.toList) = true := by rw [hxy]; rfl
            clear hxy
            go_wp2
            go_quiet (fail)
            go_wp2
            go_ret
            exact ⟨by rw [HF.out]; rfl, below_dr HB.out _⟩
          · have HN : Hid (allOk (txts xs) (txts ys) (k + 1) = true) := by unfold Hid; rw [allOk_succ, HA.out, HSEG.out, seg_same hx, hxy]; rfl
            have hxy' : (!x.toList == y.toList) = false := by rw [hxy]; rfl
            clear hxy
            go_wp2
            go_quiet (fail)
            go_wp2
            go_roundw
            case rel => exact ⟨k + 1, by omega, by go_num, HN, below_dr HB.out _⟩
            case measure => simp [intOf]; omega
        · rcases hy : y.toList.isEmpty with _ | _
          · have HN : Hid (allOk (txts xs) (txts ys) (k + 1) = true) := by unfold Hid; rw [allOk_succ, HA.out, HSEG.out, seg_star hx, hy]; rfl
            go_wp2
            go_roundw
            case rel => exact ⟨k + 1, by omega, by go_num, HN, HB.out⟩
            case measure => simp [intOf]; omega
          · have HF : Hid (fitsB (txts xs) (txts ys) = false) := fits_false HFX.out hlt (by rw [HSEG.out, seg_star hx, hy]; rfl)
            go_wp2
            go_ret
            exact ⟨by rw [HF.out]; rfl, HB.out⟩
      · have HB : Hid (Below w.heap.size w wr) := hbel
        have HT : Hid (fitsB (txts xs) (txts ys) = true) := fits_true HFT.out (by have := HA.out; rw [show k = F from by omega] at this; exact this)
        clear hbel
        go_wp2
        go_ret
        exact ⟨by rw [HT.out]; rfl, HB.out⟩
  · have HF : Hid (fitsB (txts xs) (txts ys) = false) := by
      unfold Hid fitsB; rw [if_pos HL.out, L1.out, L2.out]; simp [hnm]
    go_enter Try.func20, Try.ntmps20
    go_wp2
    go_ret
    exact ⟨by rw [HF.out]; rfl, Below.refl _ _⟩

theorem fits_any (p q : Option Addr) (n c m d : Nat) (xs ys : List ByteArray) (w : World) (hn : n ≤ 1048576) (hm : m ≤ 2097152) (HS1 : SeeS w p n c xs) (HS2 : SeeS w q m d ys) :
    Calls Try.prog 20 #[.slice p n c, .slice q m d] w (FitsPost w (fitsB (txts xs) (txts ys))) := by
  cases h : lastDeep (txts xs) with
  | false => exact fits_flat p q n c m d xs ys w hn hm HS1 HS2 h
  | true => exact fits_deep p q n c m d xs ys w hn hm HS1 HS2 h

end Go.Proofs.Qxb6600448a.Tr
