/- Seat b6600448a: zzCloneStrs, zzCloneSegs. -/
import Derived.Test.Qxb6600448aSplit
namespace Go.Proofs.Qxb6600448a.Tr
open Go.RowKit
set_option linter.unusedVariables false

theorem SeeS.nil (w : World) : SeeS w none 0 0 [] := ⟨rfl, Nat.le_refl _, fun _ => rfl, fun h => absurd h (Nat.lt_irrefl _)⟩
theorem SeeS.set {w : World} {p : Option Addr} {n c : Nat} {xs : List ByteArray} (h : SeeS w p n c xs) (a : Addr) (u : Value) (hne : ∀ b o, p = some ⟨b, o, none⟩ → 0 < n → b ≠ a.block) : SeeS (w.setCell a u) p n c xs := by
  refine ⟨h.len, h.room, h.bare, fun hn => ?_⟩
  obtain ⟨b, o, hp, hc⟩ := h.cells hn
  refine ⟨b, o, hp, fun i hi => ?_⟩
  rw [World.cell?_of_block (w := w) (Below.heap_setCell w a u b (hne b o hp hn))]
  exact hc i hi

def CloneEnd (B : Nat) (w' : World) (n : Nat) (xs : List ByteArray) (e : Ending) : Prop := ∃ p c, e = .returned (.slice p n c) ∧ SeeS w' p n c xs ∧ ∀ b o, p = some ⟨b, o, none⟩ → B ≤ b

theorem take_step {L : List Value} {xs : List ByteArray} {k : Nat} (hL : L.take k = (xs.take k).map Value.string) (hk : k < xs.length) (hkL : k < L.length) : (L.set k (.string (xs.getD k mt))).take (k + 1) = (xs.take (k + 1)).map Value.string := by
  have e : xs.getD k mt = xs[k] := by simp [List.getD, List.getElem?_eq_getElem hk]
  rw [take_set hkL, hL, List.take_succ_eq_append_getElem hk, List.map_append, e]
  rfl

set_option maxHeartbeats 1000000 in
theorem cloneS_any (p : Option Addr) (n c : Nat) (xs : List ByteArray) (w : World) (hn : n ≤ 1048576) (hs : SeeS w p n c xs) :
    Calls Try.prog 26 #[.slice p n c] w fun e w' => CloneEnd w.heap.size w' n xs e ∧ Below w.heap.size w w' := by
  obtain ⟨i0, hi, hz0, hz1, hz2⟩ := info_parts info9
  have q41 : ∀ (w : World) (a : Option Addr) (n c n' c' : Nat), (binOp .eql 41 (.slice a n c) (.slice none n' c')).run Try.prog w = .ok (.bool a.isNone) w := fun w a n c n' c' => Lib.run_eql_slice_nil w _ _ a n c n' c' Try.underlying41
  cases p with
  | none =>
    have hc := hs.bare rfl
    have hn0 : n = 0 := by have := hs.room; omega
    have hx : xs = [] := List.eq_nil_of_length_eq_zero (by rw [hs.len, hn0])
    subst hc hn0 hx
    go_enter Try.func26, Try.ntmps26
    go_wp2
    go_ret
    exact ⟨⟨_, _, rfl, SeeS.nil _, fun b o h => by cases h⟩, Below.refl _ _⟩
  | some x =>
    have LX := Hid.mk' hs.len
    have HC : Hid (∀ k, k < n → ∃ b o, x = ⟨b, o, none⟩ ∧ b < w.heap.size ∧ w.cell? ⟨b, o + k, none⟩ = some (.string (xs.getD k mt))) := by
      intro k hk
      obtain ⟨b, o, hp, hc⟩ := hs.cells (by omega)
      simp only [Option.some.injEq] at hp
      exact ⟨b, o, hp, hs.lt b o (by rw [hp]) (by omega), hc k hk⟩
    have hroom := hs.room
    clear hs
    go_enter Try.func26, Try.ntmps26
    go_wp2_with (at_make; refine wpList_make_full _ rfl _ _ 41 rfl w.heap.size 9 i0 (.string ⟨#[]⟩) 1 Try.underlying41 hi hz0 hz1 .i64 .i64 _ _ n rfl rfl rfl rfl (by rw [hz2]; omega) (by unfold maxLen; omega) (Nat.le_refl _) ?_; intro w1 hown1 hgrow1)
    have HO : Hid (∃ L, w1.ownsRow w.heap.size 9 1 (.slice (some ⟨w.heap.size, 0, none⟩) n n) n L) := ⟨_, hown1⟩
    have HB : Hid (Below w.heap.size w w1) := (Below.refl _ _).grown hgrow1 (Nat.le_refl _) (fun k hk => by simp at hk)
    clear hown1 hgrow1
    go_loopw [4] (fun v wr => ∃ (k : Nat) (L : List Value), k ≤ n ∧ v = .int .i64 k ∧ wr.ownsRow w.heap.size 9 1 (.slice (some ⟨w.heap.size, 0, none⟩) n n) n L ∧ Below w.heap.size w wr ∧ Hid (L.take k = (xs.take k).map Value.string)) (fun v _ => n - (intOf v).toNat)
    case atStart =>
      obtain ⟨L, hL⟩ := HO.out
      exact ⟨0, L, by omega, rfl, hL, HB.out, rfl⟩
    case round =>
      obtain ⟨k, L, hk, rfl, hown, hbel, HT⟩ := hrel
      clear HO HB
      have hLn : L.length = n := by have := hown.1; omega
      by_cases hlt : k < n
      · obtain ⟨b, o, hx, hbl, hc0⟩ := HC.out k hlt
        obtain ⟨y, HY⟩ : ∃ y, Hid (xs.getD k mt = y) := ⟨_, rfl⟩
        have hc1 : wr.cell? ⟨b, o + k, none⟩ = some (.string y) := by rw [hbel.cell (p := ⟨b, o + k, none⟩) hbl, ← HY.out]; exact hc0
        have hf1 := hown.frozenAt k
        have hcx : ∃ v, wr.cell? ⟨w.heap.size, k, none⟩ = some v := by
          rw [hown.cellAt k (by omega)]; exact ⟨_, List.getElem?_eq_getElem (by omega)⟩
        obtain ⟨v0, hv0⟩ := hcx
        have HS1 : Hid (∀ u, (wr.setCell ⟨w.heap.size, k, none⟩ u).ownsRow w.heap.size 9 1 (.slice (some ⟨w.heap.size, 0, none⟩) n n) n (L.set k u)) := fun u => (hown.stored k u).1
        have HS2 : Hid (∀ u, Below w.heap.size w (wr.setCell ⟨w.heap.size, k, none⟩ u)) := fun u => hbel.setCell (Nat.le_refl _) _
        have HTK : Hid ((L.set k (.string y)).take (k + 1) = (xs.take (k + 1)).map Value.string) := by
          rw [← HY.out]; exact take_step HT.out (by rw [LX.out]; exact hlt) (by omega)
        clear hown hbel hc0
        subst hx
        go_wp2
        go_roundw
        case rel => exact ⟨k + 1, _, by omega, by go_num, HS1.out _, HS2.out _, HTK.out⟩
        case measure => simp [intOf]; omega
      · have HE : Hid (L = xs.map Value.string) := by
          unfold Hid
          have := HT.out
          rwa [List.take_of_length_le (by omega), List.take_of_length_le (by rw [LX.out]; omega)] at this
        have HO2 := Hid.mk' hown
        have HB2 := Hid.mk' hbel
        clear hown hbel
        go_wp2
        go_ret
        exact ⟨⟨_, _, rfl, own_seeS HO2.out HE.out, fun b o h => by simp at h; omega⟩, HB2.out⟩

/-- a slice of slices of strings. -/
structure SeeSS (w : World) (p : Option Addr) (n c : Nat) (xss : List (List ByteArray)) : Prop where
  len : xss.length = n
  room : n ≤ c
  bare : p = none → c = 0
  cells : ∀ i, i < n → ∃ b o p' n' c', p = some ⟨b, o, none⟩ ∧ w.cell? ⟨b, o + i, none⟩ = some (.slice p' n' c') ∧ SeeS w p' n' c' (xss.getD i [])

theorem SeeSS.lt {w : World} {p : Option Addr} {n c : Nat} {xss : List (List ByteArray)} (h : SeeSS w p n c xss) : ∀ b o, p = some ⟨b, o, none⟩ → 0 < n → b < w.heap.size := by
  intro b o hp hn
  obtain ⟨b', o', p', n', c', hp', hc, _⟩ := h.cells 0 hn
  rw [hp] at hp'
  simp only [Option.some.injEq, Addr.mk.injEq, and_true] at hp'
  obtain ⟨rfl, rfl⟩ := hp'
  exact World.block_lt_of_cell? w ⟨b, o + 0, none⟩ hc
theorem SeeSS.later {w w' : World} {p : Option Addr} {n c : Nat} {xss : List (List ByteArray)} (h : SeeSS w p n c xss) (hb : Below w.heap.size w w') : SeeSS w' p n c xss := by
  refine ⟨h.len, h.room, h.bare, fun i hi => ?_⟩
  obtain ⟨b, o, p', n', c', hp, hc, hs⟩ := h.cells i hi
  refine ⟨b, o, p', n', c', hp, ?_, hs.later hb⟩
  rw [hb.cell (p := ⟨b, o + i, none⟩) (h.lt b o hp (by omega))]
  exact hc
theorem SeeSS.nil (w : World) : SeeSS w none 0 0 [] := ⟨rfl, Nat.le_refl _, fun _ => rfl, fun i h => absurd h (Nat.not_lt_zero _)⟩

theorem info41 : (Try.prog.info? 41).map (fun i => (i.zero, i.size, i.bytes)) = some (some (.slice none 0 0), 1, 24) := by kernel_rfl

/-- the inner slices that are copied already. -/
def Done (wr : World) (g : Nat) (L : List Value) (xss : List (List ByteArray)) (k : Nat) : Prop :=
  ∀ i, i < k → ∃ p' n' c', L[i]? = some (.slice p' n' c') ∧ SeeS wr p' n' c' (xss.getD i []) ∧ ∀ b o, p' = some ⟨b, o, none⟩ → g < b

theorem Done.later {w w' : World} {g : Nat} {L : List Value} {xss : List (List ByteArray)} {k : Nat} (h : Done w g L xss k) (hb : Below w.heap.size w w') : Done w' g L xss k := by
  intro i hi
  obtain ⟨p', n', c', h1, h2, h3⟩ := h i hi
  exact ⟨p', n', c', h1, h2.later hb, h3⟩
theorem Done.step {w : World} {g : Nat} {L : List Value} {xss : List (List ByteArray)} {k : Nat} (h : Done w g L xss k) (hk : k < L.length) {p' : Option Addr} {n' c' : Nat} (hs : SeeS w p' n' c' (xss.getD k [])) (hg : ∀ b o, p' = some ⟨b, o, none⟩ → g < b) :
    Done (w.setCell ⟨g, k, none⟩ (.slice p' n' c')) g (L.set k (.slice p' n' c')) xss (k + 1) := by
  intro i hi
  by_cases hik : i < k
  · obtain ⟨p2, n2, c2, h1, h2, h3⟩ := h i hik
    refine ⟨p2, n2, c2, by rw [List.getElem?_set_ne (by omega)]; exact h1, h2.set _ _ (fun b o hp _ => ?_), h3⟩
    have := h3 b o hp
    show b ≠ g
    omega
  · have : i = k := by omega
    subst this
    refine ⟨p', n', c', by rw [List.getElem?_set_self hk], hs.set _ _ (fun b o hp _ => ?_), hg⟩
    have := hg b o hp
    show b ≠ g
    omega
theorem Done.all {w : World} {B n g c : Nat} {L : List Value} {xss : List (List ByteArray)} (h : w.ownsRow B 41 1 (.slice (some ⟨g, 0, none⟩) n c) n L) (hd : Done w g L xss n) (hl : xss.length = n) : SeeSS w (some ⟨g, 0, none⟩) n c xss := by
  have hr : n ≤ c := by
    rcases h.2 with ⟨h1, _⟩ | ⟨g', cap, cur, h1, _, _, h2, _⟩
    · cases h1
    · simp only [Value.slice.injEq, Option.some.injEq, Addr.mk.injEq, and_true, true_and] at h1
      omega
  refine ⟨hl, hr, (fun h => by cases h), fun i hi => ?_⟩
  obtain ⟨p', n', c', h1, h2, h3⟩ := hd i hi
  exact ⟨g, 0, p', n', c', rfl, by rw [Nat.zero_add, h.cellAt i (by omega)]; exact h1, h2⟩

def CloneSSEnd (w' : World) (n : Nat) (xss : List (List ByteArray)) (e : Ending) : Prop := ∃ p c, e = .returned (.slice p n c) ∧ SeeSS w' p n c xss

theorem own_later {w w' : World} {B n : Nat} {e : TypeId} {sz : Nat} {v : Value} {xs : List Value} (h : w.ownsRow B e sz v n xs) (hb : Below w.heap.size w w') : w'.ownsRow B e sz v n xs := by
  have hg : w.grownBy w' none := ⟨hb.os, hb.tape, hb.output, hb.size, fun k hk _ => hb.block k hk⟩
  refine h.kept hg ?_
  by_cases e : v.ownBlock = none
  · exact .inl e
  · exact .inr e

set_option maxHeartbeats 1000000 in
theorem cloneSS_any (p : Option Addr) (n c : Nat) (xss : List (List ByteArray)) (w : World) (hn : n ≤ 1048576) (hs : SeeSS w p n c xss) (HL : Hid (∀ xs ∈ xss, xs.length ≤ 1048576)) :
    Calls Try.prog 16 #[.slice p n c] w fun e w' => CloneSSEnd w' n xss e ∧ Below w.heap.size w w' := by
  obtain ⟨i0, hi, hz0, hz1, hz2⟩ := info_parts info41
  have q35 : ∀ (w : World) (a : Option Addr) (n c n' c' : Nat), (binOp .eql 35 (.slice a n c) (.slice none n' c')).run Try.prog w = .ok (.bool a.isNone) w := fun w a n c n' c' => Lib.run_eql_slice_nil w _ _ a n c n' c' Try.underlying35
  cases p with
  | none =>
    have hc := hs.bare rfl
    have hn0 : n = 0 := by have := hs.room; omega
    have hx : xss = [] := List.eq_nil_of_length_eq_zero (by rw [hs.len, hn0])
    subst hc hn0 hx
    go_enter Try.func16, Try.ntmps16
    go_wp2
    go_ret
    exact ⟨⟨_, _, rfl, SeeSS.nil _⟩, Below.refl _ _⟩
  | some x =>
    have LX := Hid.mk' hs.len
    have HC := Hid.mk' hs
    have hroom := hs.room
    clear hs
    go_enter Try.func16, Try.ntmps16
    go_wp2_with (at_make; refine wpList_make_full _ rfl _ _ 35 rfl w.heap.size 41 i0 (.slice none 0 0) 1 Try.underlying35 hi hz0 hz1 .i64 .i64 _ _ n rfl rfl rfl rfl (by rw [hz2]; omega) (by unfold maxLen; omega) (Nat.le_refl _) ?_; intro w1 hown1 hgrow1)
    have HO : Hid (∃ L, w1.ownsRow w.heap.size 41 1 (.slice (some ⟨w.heap.size, 0, none⟩) n n) n L) := ⟨_, hown1⟩
    have HB : Hid (Below w.heap.size w w1) := (Below.refl _ _).grown hgrow1 (Nat.le_refl _) (fun k hk => by simp at hk)
    clear hown1 hgrow1
    go_loopw [4] (fun v wr => ∃ (k : Nat) (L : List Value), k ≤ n ∧ v = .int .i64 k ∧ wr.ownsRow w.heap.size 41 1 (.slice (some ⟨w.heap.size, 0, none⟩) n n) n L ∧ Below w.heap.size w wr ∧ Hid (Done wr w.heap.size L xss k)) (fun v _ => n - (intOf v).toNat)
    case atStart =>
      obtain ⟨L, hL⟩ := HO.out
      exact ⟨0, L, by omega, rfl, hL, HB.out, fun i hi => by omega⟩
    case round =>
      obtain ⟨k, L, hk, rfl, hown, hbel, HT⟩ := hrel
      clear HO HB
      have hLn : L.length = n := by have := hown.1; omega
      by_cases hlt : k < n
      · obtain ⟨b, o, p', n', c', hx, hc0, hs0⟩ := HC.out.cells k hlt
        have hbl := HC.out.lt b o hx (by omega)
        simp only [Option.some.injEq] at hx
        have hc1 : wr.cell? ⟨b, o + k, none⟩ = some (.slice p' n' c') := by rw [hbel.cell (p := ⟨b, o + k, none⟩) hbl]; exact hc0
        have hn' : n' ≤ 1048576 := by
          rw [← hs0.len]
          by_cases hkx : k < xss.length
          · have : xss.getD k [] = xss[k] := by simp [List.getD, List.getElem?_eq_getElem hkx]
            rw [this]; exact HL.out _ (List.getElem_mem _)
          · rw [LX.out] at hkx; omega
        have HS0 := Hid.mk' (hs0.later hbel)
        have HO := Hid.mk' hown
        have HB := Hid.mk' hbel
        clear hown hbel hc0 hs0
        have hg : w.heap.size < wr.heap.size := by
          have := (HO.out.lt w.heap.size rfl).2
          exact this
        subst hx
        go_wp2_with fail
        refine (cloneS_any p' n' c' (xss.getD k []) _ hn' HS0.out).mono ?_
        rintro e w2 ⟨⟨p2, c2, rfl, hs2, hg2⟩, hb2⟩
        have HO2 := own_later HO.out hb2
        have hf1 := HO2.frozenAt k
        have hcx : ∃ v, w2.cell? ⟨w.heap.size, k, none⟩ = some v := by
          rw [HO2.cellAt k (by omega)]; exact ⟨_, List.getElem?_eq_getElem (by omega)⟩
        obtain ⟨v0, hv0⟩ := hcx
        have HS1 := Hid.mk' (HO2.stored k (.slice p2 n' c2)).1
        have HB2 : Hid (Below w.heap.size w w2) := HB.out.trans (hb2.mono HB.out.size)
        have HD : Hid (Done (w2.setCell ⟨w.heap.size, k, none⟩ (.slice p2 n' c2)) w.heap.size (L.set k (.slice p2 n' c2)) xss (k + 1)) :=
          (HT.out.later hb2).step (by omega) hs2 (fun b o h => Nat.lt_of_lt_of_le hg (hg2 b o h))
        clear HO2 hs2 hg2 hb2
        go_wp2
        go_roundw
        case rel => exact ⟨k + 1, _, by omega, by go_num, HS1.out, HB2.out.setCell (Nat.le_refl _) _, HD.out⟩
        case measure => simp [intOf]; omega
      · have HE : Hid (Done wr w.heap.size L xss n) := by
          have := HT.out
          rw [show k = n from by omega] at this
          exact this
        have HO2 := Hid.mk' hown
        have HB2 := Hid.mk' hbel
        clear hown hbel
        go_wp2
        go_ret
        exact ⟨⟨_, _, rfl, Done.all HO2.out HE.out LX.out⟩, HB2.out⟩

end Go.Proofs.Qxb6600448a.Tr
