/- Seat b6600448a: zzWalkTree. -/
import Derived.Test.Qxb6600448aGrown
import Derived.Deep.RegionWith
namespace Go.Proofs.Qxb6600448a.Tr
open Go.RowKit
set_option linter.unusedVariables false

/-- the world in the midst: the tree, its root at B. -/
structure Mid (w0 wr : World) (xss : List (List ByteArray)) (i K : Nat) (t : Tre) : Prop where
  rep : Rep wr w0.heap.size K t
  rt : t.at' [] = some w0.heap.size
  gr : Grown xss i t
  bel : Below w0.heap.size w0 wr

def TreeEnd (w0 wr : World) (xss : List (List ByteArray)) (n : Nat) (e : Ending) : Prop := ∃ t K, e = .returned (ptr (some w0.heap.size)) ∧ K ≤ 65536 ∧ Mid w0 wr xss n K t

theorem Mid.child {w0 wr w2 : World} {xss : List (List ByteArray)} {i j K : Nat} {t t' : Tre} {xs : List ByteArray} (h : Mid w0 wr xss i K t) (hj : j < xs.length)
    (hx : Ext t t' ((pathOf (txts xs)).take j ++ [segAt (txts xs) j])) (hr : Rep w2 w0.heap.size (K + 1) t') (hb : Below w0.heap.size wr.drew w2) : Mid w0 w2 xss i (K + 1) t' :=
  ⟨hr, (hx.kept _ _ h.rt).1, h.gr.child (w := wr) (B := 0) (K := 0) (txts xs) (by rw [txts_length]; exact hj) hx, h.bel.drew.trans hb⟩

theorem lens_mono (xss : List (List ByteArray)) (i k : Nat) : lens (xss.take i) ≤ lens (xss.take (i + k)) := by
  unfold lens
  rw [List.take_add, List.map_append, List.sum_append]
  omega
theorem Mid.ended {w0 wr w2 : World} {xss : List (List ByteArray)} {i K d : Nat} {t : Tre} {v : Value} (h : Mid w0 wr xss i K t) (hd : t.at' (path xss i) = some d) (hr : Rep w2 w0.heap.size K (t.setEv (path xss i) v i)) (hb : Below w0.heap.size wr w2) : Mid w0 w2 xss (i + 1) K (t.setEv (path xss i) v i) :=
  ⟨hr, h.rt, h.gr.ended hd v, h.bel.trans hb⟩

set_option maxHeartbeats 2000000 in
theorem wtree_any (p : Option Addr) (n c : Nat) (xss : List (List ByteArray)) (w : World) (hn : n ≤ 65536) (HS : Hid (SeeSS w p n c xss)) (HM : Hid (SmallTo xss n 1048576)) :
    Calls Try.prog 17 #[.slice p n c] w fun e w' => TreeEnd w w' xss n e := by
  have LX := Hid.mk' HS.out.len
  go_enter Try.func17, Try.ntmps17
  go_wp2_with fail
  refine (new_any w).mono ?_
  rintro e w1 ⟨rfl, rfl⟩
  have HI : Hid (Mid w (w.alloc zeroNode) xss 0 0 (root w.heap.size)) := ⟨Rep.root w 0, rfl, Grown.start _ _, (Below.refl _ w).alloc (Nat.le_refl _) _⟩
  go_wp2_with fail
  go_loopw [4] (fun v wr => ∃ (i K : Nat) (t : Tre), i ≤ n ∧ v = .int .i64 i ∧ Hid (Mid w wr xss i K t) ∧ Hid (K = lens (xss.take i))) (fun v _ => n - (intOf v).toNat)
  case atStart => exact ⟨0, 0, _, by omega, rfl, HI, rfl⟩
  case round =>
    obtain ⟨i, K, t, hin, rfl, HMI, HK⟩ := hrel
    clear HI
    by_cases hlt : i < n
    · obtain ⟨b, o, p', n', c', rfl, hc, hs'⟩ := HS.out.cells i hlt
      have hbl := HS.out.lt b o rfl (by omega)
      obtain ⟨xs, HX⟩ : ∃ xs, Hid (xss.getD i [] = xs) := ⟨_, rfl⟩
      have HS' : Hid (SeeS w p' n' c' xs) := by rw [← HX.out]; exact hs'
      have hc1 : wr.cell? ⟨b, o + i, none⟩ = some (.slice p' n' c') := by rw [HMI.out.bel.cell (p := ⟨b, o + i, none⟩) hbl]; exact hc
      have LN := Hid.mk' HS'.out.len
      have hn' : n' ≤ 65536 := by have := (HM.out.each i hlt).1; rw [HX.out, LN.out] at this; exact this
      have HZ : Hid (∀ s ∈ xs, s.size ≤ 1048576) := by have := (HM.out.each i hlt).2; rw [HX.out] at this; exact this
      clear hs'
      go_wp2_with fail
      go_loopw [5, 6] (fun u v wr => ∃ (j K' d : Nat) (t : Tre), j ≤ n' ∧ v = .int .i64 j ∧ u = .pointer (some ⟨d, 0, none⟩) ∧ Hid (Mid w wr xss i K' t) ∧ Hid (K' = K + j) ∧ Hid (t.at' ((pathOf (txts xs)).take j) = some d)) (fun u v _ => n' - (intOf v).toNat)
      case atStart => exact ⟨0, K, w.heap.size, t, by omega, rfl, rfl, HMI, rfl, HMI.out.rt⟩
      case round =>
        clear hc1 HMI
        obtain ⟨j, K', d, t, hjn, rfl, rfl, HMI, HK', HAT⟩ := hrel
        have hc1 : wr.cell? ⟨b, o + i, none⟩ = some (.slice p' n' c') := by rw [HMI.out.bel.cell (p := ⟨b, o + i, none⟩) hbl]; exact hc
        by_cases hjl : j < n'
        · obtain ⟨b2, o2, rfl, hcs⟩ := HS'.out.cells (by omega)
          have hb2 := HS'.out.lt b2 o2 rfl (by omega)
          obtain ⟨y, HY⟩ : ∃ y, Hid (xs.getD j mt = y) := ⟨_, rfl⟩
          have hc2 : wr.cell? ⟨b2, o2 + j, none⟩ = some (.string y) := by rw [HMI.out.bel.cell (p := ⟨b2, o2 + j, none⟩) hb2, ← HY.out]; exact hcs j hjl
          have hy : y.size ≤ maxLen := by
            have hjx : j < xs.length := by rw [LN.out]; exact hjl
            have e1 : xs.getD j mt = xs[j] := by simp [List.getD, List.getElem?_eq_getElem hjx]
            have := HZ.out _ (List.getElem_mem hjx)
            rw [← e1, HY.out] at this
            unfold maxLen; omega
          have hKm : K' < maxLen := by
            have h1 := HM.out.sum
            have h2 := lens_mono xss (i + 1) (n - (i + 1))
            rw [show (i + 1) + (n - (i + 1)) = n from by omega] at h2
            rw [lens_take xss i (by rw [LX.out]; exact hlt), HX.out, LN.out] at h2
            have := HK.out; have := HK'.out
            unfold maxLen; omega
          have HSD : Hid (SeeS wr.drew (some ⟨b2, o2, none⟩) n' c' xs) := HS'.out.later HMI.out.bel.drew
          have HRD : Hid (Rep wr.drew w.heap.size K' t) := HMI.out.rep.drew
          have hsl : ∀ z, segAt (txts xs) j = .lit z → z = txt y := by
            intro z hz
            unfold segAt at hz
            rw [txts_getD, HY.out] at hz
            split at hz
            · cases hz
            · split at hz
              · cases hz
              · simpa using hz.symm
          clear hcs hc
          go_wp2_with fail
          go_region_with (first | (go_at_call 27; refine (kind_any _ n' c' j xs _ (by omega) hjl HSD).mono ?_; rintro e w2 ⟨rfl, rfl⟩) | (go_at_call 24; refine (zzchild_any _ (segAt (txts xs) j) d w.heap.size K' t y _ HRD HAT hy hKm hsl).mono ?_; rintro e w2 ⟨⟨c2, t2, rfl, h2, h3, h4⟩, hb5⟩))
          all_goals
            have HM2 : Hid (Mid w w2 xss i (K' + 1) t2) := HMI.out.child (by rw [LN.out]; exact hjl) h4 h2 hb5
            have HA2 : Hid (t2.at' ((pathOf (txts xs)).take (j + 1)) = some c2) := by rw [pathOf_take _ j (by rw [txts_length, LN.out]; exact hjl)]; exact h3
            have HK2 : Hid (K' + 1 = K + (j + 1)) := by unfold Hid; rw [HK'.out]; omega
            clear h2 h3 h4 hb5 HSD HRD hsl HMI HAT
            go_wp2_with fail
            go_roundw
            case rel => exact ⟨j + 1, K' + 1, c2, t2, by omega, by go_num, rfl, HM2, HK2, HA2⟩
            case measure => simp [intOf]; omega
        · have HAT2 : Hid (t.at' (path xss i) = some d) := by
            have := HAT.out
            rw [List.take_of_length_le (by rw [pathOf_length, txts_length, LN.out]; omega)] at this
            show t.at' (pathOf (txts (xss.getD i []))) = some d
            rw [HX.out]; exact this
          have hle : (t.en (path xss i)).length ≤ 1048576 := by
            rw [HMI.out.gr.en _ _ HAT2.out]
            have := at_len xss i (path xss i)
            omega
          have HKK : Hid (K' = lens (xss.take (i + 1))) := by
            unfold Hid
            rw [lens_take xss i (by rw [LX.out]; exact hlt), HX.out, LN.out, HK'.out, HK.out]
            omega
          go_wp2_with fail
          refine (append_any (path xss i) d w.heap.size K' i t _ HMI.out.rep HAT2 (by omega) hle HMI.out.bel.size).mono ?_
          rintro e w2 ⟨⟨v2, rfl, h2⟩, hb5⟩
          have HM2 : Hid (Mid w w2 xss (i + 1) K' (t.setEv (path xss i) v2 i)) := HMI.out.ended HAT2.out h2 hb5
          clear h2 hb5 HMI HAT
          go_wp2_with fail
          go_roundw
          case rel => exact ⟨i + 1, K', _, by omega, by go_num, HM2, HKK⟩
          case measure => simp [intOf]; omega
    · have HE : Hid (Mid w wr xss n K t) := by have := HMI.out; rw [show i = n from by omega] at this; exact this
      have HKK : Hid (K ≤ 65536) := by
        have h1 := HM.out.sum
        have := HK.out
        rw [show i = n from by omega] at this
        unfold Hid
        omega
      clear HMI HK
      go_wp2_with fail
      go_ret
      exact ⟨t, K, rfl, HKK.out, HE.out⟩

end Go.Proofs.Qxb6600448a.Tr
