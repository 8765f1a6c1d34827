/- Seat b6600448a: zzSplit. -/
import Derived.Test.Qxb6600448aSee
namespace Go.Proofs.Qxb6600448a.Tr
open Go.RowKit
set_option linter.unusedVariables false

theorem info9 : (Try.prog.info? 9).map (fun i => (i.zero, i.size, i.bytes)) = some (some (.string ⟨#[]⟩), 1, 16) := by kernel_rfl

theorem split_len : ∀ l : Txt, (split l).length = l.count 47 + 1
  | [] => rfl
  | c :: r => by
    have ih := split_len r
    unfold split
    by_cases hc : c = 47
    · rw [if_pos hc]; simp [hc, ih]
    · rw [if_neg hc]
      have : (c :: r).count 47 = r.count 47 := by rw [List.count_cons]; simp [hc]
      rw [this]
      cases hs : split r with
      | nil => exact absurd hs (split_ne r)
      | cons h t => rw [hs] at ih; simpa using ih

theorem count_take_succ (l : Txt) (i : Nat) (h : i < l.length) : (l.take (i + 1)).count 47 = (l.take i).count 47 + (if l[i] = 47 then 1 else 0) := by
  rw [List.take_succ_eq_append_getElem h, List.count_append]
  congr 1
  rw [List.count_singleton]
  by_cases hc : l[i] = 47 <;> simp [hc]

/-- where the next slash stands. -/
theorem split_slash (l : Txt) (f i : Nat) (hf : f ≤ i) (hi : i < l.length) (hno : ∀ j (h : j < l.length), f ≤ j → j < i → l[j] ≠ 47) (hc : l[i] = 47) : split (l.drop f) = (l.drop f).take (i - f) :: split (l.drop (i + 1)) := by
  have e : l.drop f = (l.drop f).take (i - f) ++ 47 :: l.drop (i + 1) := by
    conv => lhs; rw [← List.take_append_drop (i - f) (l.drop f)]
    congr 1
    rw [List.drop_drop, show f + (i - f) = i from by omega, List.drop_eq_getElem_cons hi, hc]
  conv => lhs; rw [e]
  apply split_at
  intro hm
  obtain ⟨k, hk, he⟩ := List.getElem_of_mem hm
  rw [List.length_take, List.length_drop] at hk
  rw [List.getElem_take, List.getElem_drop] at he
  exact hno (f + k) (by omega) (by omega) (by omega) he
theorem split_end (l : Txt) (f : Nat) (hno : ∀ j (h : j < l.length), f ≤ j → l[j] ≠ 47) : split (l.drop f) = [l.drop f] := by
  apply split_none
  intro hm
  obtain ⟨k, hk, he⟩ := List.getElem_of_mem hm
  rw [List.length_drop] at hk
  rw [List.getElem_drop] at he
  exact hno (f + k) (by omega) (by omega) he

def SplitEnd (w' : World) (s : ByteArray) (e : Ending) : Prop := ∃ p n c ys, e = .returned (.slice p n c) ∧ SeeS w' p n c ys ∧ txts ys = split (txt s)

theorem own_seeS {w' : World} {B n g c : Nat} {L : List Value} {ys : List ByteArray} (h : w'.ownsRow B 9 1 (.slice (some ⟨g, 0, none⟩) n c) n L) (hL : L = ys.map Value.string) : SeeS w' (some ⟨g, 0, none⟩) n c ys := by
  subst hL
  have hl : ys.length = n := by simpa using h.1
  have hr : n ≤ c := by
    rcases h.2 with ⟨h1, _⟩ | ⟨g', cap, cur, h1, _, _, h2, _⟩
    · cases h1
    · simp only [Value.slice.injEq, Option.some.injEq, Addr.mk.injEq, and_true, true_and] at h1
      omega
  refine ⟨hl, hr, (fun h => by cases h), fun hn => ⟨g, 0, rfl, fun i hi => ?_⟩⟩
  rw [Nat.zero_add, h.cellAt i (by omega)]
  have hi' : i < ys.length := by omega
  simp [List.getElem?_eq_getElem hi', List.getD]

theorem take_set {L : List Value} {k : Nat} (hk : k < L.length) (u : Value) : (L.set k u).take (k + 1) = L.take k ++ [u] := by
  rw [List.take_succ_eq_append_getElem (by simpa using hk), List.take_set_of_le (Nat.le_refl k)]
  simp
theorem txt_extract (s : ByteArray) (f i : Nat) : txt (s.extract f i) = ((txt s).drop f).take (i - f) := by
  unfold txt
  rw [ByteArray.data_extract, Array.toList_extract, List.extract_eq_take_drop]
theorem txt_get {s : ByteArray} {i : Nat} (h : i < s.size) : (txt s)[i]'(by exact h) = s[i] := rfl

set_option maxHeartbeats 2000000 in
theorem split_any (s : ByteArray) (w : World) (hs : s.size ≤ 1048576) :
    Calls Try.prog 19 #[.string s] w fun e w' => SplitEnd w' s e ∧ Below w.heap.size w w' := by
  obtain ⟨i0, hi, hz0, hz1, hz2⟩ := info_parts info9
  have LT : Hid ((txt s).length = s.size) := rfl
  go_enter Try.func19, Try.ntmps19
  go_wp2
  go_loop [3, 4] (fun u v => ∃ i : Nat, i ≤ s.size ∧ v = .int .i64 i ∧ ∃ c : Nat, c ≤ i ∧ u = .int .i64 ((c + 1 : Nat) : Int) ∧ Hid (((txt s).take i).count 47 = c)) (fun u v => s.size - (intOf v).toNat)
  case atStart => exact ⟨0, by omega, rfl, 0, by omega, rfl, rfl⟩
  case round =>
    obtain ⟨i, hi1, rfl, c, hc, rfl, HC⟩ := hrel
    by_cases hlt : i < s.size
    · rcases hb : ((s[i].toNat : Int) == 47) with _ | _
      · have HC' : Hid (((txt s).take (i + 1)).count 47 = c) := by
          unfold Hid; rw [count_take_succ (txt s) i hlt, HC.out, if_neg]; · rfl
          intro e; rw [txt_get hlt] at e; rw [e] at hb; simp at hb
        go_wp2
        go_round
        case rel => exact ⟨i + 1, by omega, by go_num, c, by omega, rfl, HC'⟩
        case measure => simp [intOf]; omega
      · have HC' : Hid (((txt s).take (i + 1)).count 47 = c + 1) := by
          unfold Hid; rw [count_take_succ (txt s) i hlt, HC.out, if_pos]
          rw [txt_get hlt]; apply UInt8.toNat_inj.1; simp at hb; show s[i].toNat = 47; omega
        go_wp2
        go_round
        case rel => exact ⟨i + 1, by omega, by go_num, c + 1, by omega, by go_num, HC'⟩
        case measure => simp [intOf]; omega
    · have HN : Hid ((split (txt s)).length = c + 1) := by
        unfold Hid; rw [split_len]
        have := HC.out
        rw [List.take_of_length_le (by rw [LT.out]; omega)] at this
        rw [this]
      clear HC
      go_wp2_with (at_make; refine wpList_make_full _ rfl _ _ 41 rfl w.heap.size 9 i0 (.string ⟨#[]⟩) 1 Try.underlying41 hi hz0 hz1 .i64 .i64 _ _ (c + 1) rfl rfl rfl rfl (by rw [hz2]; omega) (by unfold maxLen; omega) (Nat.le_refl _) ?_; intro w1 hown1 hgrow1)
      have HO : Hid (∃ L, w1.ownsRow w.heap.size 9 1 (.slice (some ⟨w.heap.size, 0, none⟩) (c + 1) (c + 1)) (c + 1) L) := ⟨_, hown1⟩
      have HB : Hid (Below w.heap.size w w1) := (Below.refl _ _).grown hgrow1 (Nat.le_refl _) (fun k hk => by simp at hk)
      clear hown1 hgrow1
      go_loopw [6, 7, 8] (fun u6 u7 u8 wr => ∃ (i k f : Nat) (ys : List ByteArray) (L : List Value), i ≤ s.size ∧ f ≤ i ∧ u6 = .int .i64 k ∧ u7 = .int .i64 f ∧ u8 = .int .i64 i ∧ wr.ownsRow w.heap.size 9 1 (.slice (some ⟨w.heap.size, 0, none⟩) (c + 1) (c + 1)) (c + 1) L ∧ Below w.heap.size w wr ∧ Hid (L.take k = ys.map Value.string ∧ ys.length = k ∧ txts ys ++ split ((txt s).drop f) = split (txt s) ∧ ∀ j (h : j < (txt s).length), f ≤ j → j < i → (txt s)[j] ≠ 47)) (fun _ _ v _ => s.size - (intOf v).toNat)
      case atStart =>
        obtain ⟨L, hL⟩ := HO.out
        exact ⟨0, 0, 0, [], L, by omega, by omega, rfl, rfl, rfl, hL, HB.out, rfl, rfl, rfl, fun j h h1 h2 => by omega⟩
      case round =>
        obtain ⟨i, k, f, ys, L, hi2, hfi, rfl, rfl, rfl, hown, hbel, HI⟩ := hrel
        clear HO HB
        have hkc : k ≤ c := by
          have h1 := HI.out.2.2.1
          have h2 := congrArg List.length h1
          rw [List.length_append, HN.out, split_len, txts_length, HI.out.2.1] at h2
          omega
        have hLn : L.length = c + 1 := by have := hown.1; omega
        have hf1 := hown.frozenAt k
        have hc2 := hown.cellAt k (by omega)
        have hcx : ∃ v, wr.cell? ⟨w.heap.size, k, none⟩ = some v := by
          rw [hc2]; exact ⟨_, List.getElem?_eq_getElem (by omega)⟩
        obtain ⟨v0, hv0⟩ := hcx
        have HS1 : Hid (∀ u, (wr.setCell ⟨w.heap.size, k, none⟩ u).ownsRow w.heap.size 9 1 (.slice (some ⟨w.heap.size, 0, none⟩) (c + 1) (c + 1)) (c + 1) (L.set k u)) := fun u => (hown.stored k u).1
        have HS2 : Hid (∀ u, Below w.heap.size w (wr.setCell ⟨w.heap.size, k, none⟩ u)) := fun u => hbel.setCell (Nat.le_refl _) _
        have HTK : Hid (∀ u, (L.set k u).take (k + 1) = L.take k ++ [u]) := fun u => take_set (by omega) u
        by_cases hlt : i < s.size
        · rcases hb : ((s[i].toNat : Int) == 47) with _ | _
          · have HJ : Hid (∀ j (h : j < (txt s).length), f ≤ j → j < i + 1 → (txt s)[j] ≠ 47) := by
              intro j h h1 h2 e
              by_cases hji : j < i
              · exact HI.out.2.2.2 j h h1 hji e
              · have hji2 : j = i := by omega
                subst hji2
                have e2 : s[j].toNat = 47 := congrArg UInt8.toNat e
                have e3 : ((s[j].toNat : Int) == 47) = true := by rw [beq_iff_eq]; omega
                exact absurd (hb.symm.trans e3) (by decide)
            have HO := Hid.mk' hown
            have HB := Hid.mk' hbel
            clear hown hbel hc2 hf1 hv0 HS1 HS2
            go_wp2
            go_roundw
            case rel => exact ⟨i + 1, k, f, ys, L, by omega, by omega, rfl, rfl, by go_num, HO.out, HB.out, HI.out.1, HI.out.2.1, HI.out.2.2.1, HJ.out⟩
            case measure => simp [intOf]; omega
          · have HSP : Hid (split ((txt s).drop f) = ((txt s).drop f).take (i - f) :: split ((txt s).drop (i + 1))) := by
              refine split_slash (txt s) f i hfi hlt HI.out.2.2.2 ?_
              rw [txt_get hlt]; apply UInt8.toNat_inj.1; simp at hb; show s[i].toNat = 47; omega
            clear hown hbel hc2
            have HZ : Hid (txts (ys ++ [s.extract f i]) ++ split ((txt s).drop (i + 1)) = split (txt s)) := by
              unfold Hid
              rw [← HI.out.2.2.1, HSP.out]
              simp [txts, txt_extract]
            go_wp2
            go_roundw
            case rel => exact ⟨i + 1, k + 1, i + 1, ys ++ [s.extract f i], _, by omega, by omega, by go_num, by go_num, by go_num, HS1.out _, HS2.out _, by rw [HTK.out, HI.out.1]; simp, by simp [HI.out.2.1], HZ.out, fun j h h1 h2 => by omega⟩
            case measure => simp [intOf]; omega
        · have hfs : f ≤ s.size := by omega
          have HSP : Hid (split ((txt s).drop f) = [(txt s).drop f]) := split_end (txt s) f (fun j h h1 => HI.out.2.2.2 j h h1 (by have := LT.out; omega))
          have HKC : Hid (k = c) := by
            have h2 := congrArg List.length HI.out.2.2.1
            rw [HSP.out, List.length_append, HN.out, txts_length, HI.out.2.1] at h2
            simp at h2; exact h2
          have HZ : Hid (txts (ys ++ [s.extract f s.size]) = split (txt s)) := by
            unfold Hid
            rw [← HI.out.2.2.1, HSP.out]
            have : ((txt s).drop f).take (s.size - f) = (txt s).drop f := List.take_of_length_le (by rw [List.length_drop, LT.out]; exact Nat.le_refl _)
            simp [txts, txt_extract, this]
          have HL2 : Hid (∀ u, L.set k u = L.take k ++ [u]) := by
            intro u
            rw [← HTK.out u, List.take_of_length_le (by rw [List.length_set, hLn, HKC.out]; exact Nat.le_refl _)]
          clear hown hbel hc2
          go_wp2
          go_ret
          exact ⟨⟨_, _, _, ys ++ [s.extract f s.size], rfl, own_seeS (HS1.out _) (by rw [HL2.out, HI.out.1]; simp), HZ.out⟩, HS2.out _⟩

end Go.Proofs.Qxb6600448a.Tr
