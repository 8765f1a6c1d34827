/- Seat b6003622a: how a slice of bytes is seen; zzBytes, zzClone. -/
import Derived.Test.Qxb6003622aRows
import Derived.WalkKit
import Derived.WalkSpells
import Derived.OpenShut
namespace Go.Proofs.Qxb6003622a.Fld
open Go.RowKit
set_option linter.unusedVariables false

/-- the slice (p, n, c) holds the bytes xs in w. -/
structure See (w : World) (p : Option Addr) (n c : Nat) (xs : List Int) : Prop where
  len : xs.length = n
  room : n ≤ c
  bare : p = none → c = 0
  cells : 0 < n → ∃ b o, p = some ⟨b, o, none⟩ ∧ ∀ i, i < n → w.cell? ⟨b, o + i, none⟩ = some (.int .u8 (xs.getD i 0))
  range : ∀ x ∈ xs, 0 ≤ x ∧ x < 256

theorem See.below {w w' : World} {B : Nat} {p : Option Addr} {n c : Nat} {xs : List Int} (h : See w p n c xs) (hb : Below B w w') (hB : ∀ b o, p = some ⟨b, o, none⟩ → 0 < n → b < B) : See w' p n c xs := by
  refine ⟨h.len, h.room, h.bare, fun hn => ?_, h.range⟩
  obtain ⟨b, o, hp, hc⟩ := h.cells hn
  refine ⟨b, o, hp, fun i hi => ?_⟩
  rw [hb.cell (p := ⟨b, o + i, none⟩) (hB b o hp hn)]
  exact hc i hi

theorem See.lt {w : World} {p : Option Addr} {n c : Nat} {xs : List Int} (h : See w p n c xs) : ∀ b o, p = some ⟨b, o, none⟩ → 0 < n → b < w.heap.size := by
  intro b o hp hn
  obtain ⟨b', o', hp', hc⟩ := h.cells hn
  rw [hp] at hp'
  simp only [Option.some.injEq, Addr.mk.injEq, and_true] at hp'
  obtain ⟨rfl, rfl⟩ := hp'
  exact World.block_lt_of_cell? w ⟨b, o + 0, none⟩ (hc 0 hn)

theorem See.later {w w' : World} {p : Option Addr} {n c : Nat} {xs : List Int} (h : See w p n c xs) (hb : Below w.heap.size w w') : See w' p n c xs := h.below hb h.lt

theorem See.nil (w : World) : See w none 0 0 [] := ⟨rfl, Nat.le_refl _, fun _ => rfl, fun h => absurd h (Nat.lt_irrefl _), fun x hx => by cases hx⟩

/-- what is owned is seen. -/
theorem See.ofOwn {w : World} {base : Nat} {v : Value} {n : Nat} {xs : List Int} (h : w.ownsRow base 5 1 v n (xs.map (Value.int .u8))) (hr : ∀ x ∈ xs, 0 ≤ x ∧ x < 256) :
    ∃ p c, v = .slice p n c ∧ See w p n c xs ∧ (∀ b o, p = some ⟨b, o, none⟩ → base ≤ b) := by
  have hl : xs.length = n := by simpa using h.1
  rcases h.2 with ⟨rfl, rfl⟩ | ⟨g, cap, cur, rfl, hb, hg, hnc, hcm, hcs, htake⟩
  · have : xs = [] := List.eq_nil_of_length_eq_zero hl
    subst this
    exact ⟨none, 0, rfl, See.nil w, fun b o h => by cases h⟩
  · refine ⟨_, _, rfl, ⟨hl, hnc, (fun h => by cases h), fun hn => ⟨g, 0, rfl, fun i hi => ?_⟩, hr⟩, fun b o h => by simp at h; omega⟩
    have hi' : i < xs.length := by omega
    have hc := h.cellAt i (by omega)
    rw [Nat.zero_add, hc]
    simp [List.getElem?_eq_getElem hi', List.getD]

set_option maxHeartbeats 400000 in
theorem bytes_yes (e : ByteArray) (p q : Option Addr) (n c m d : Nat) (w : World) (h : e.size + n + m ≤ 1048576) :
    Calls Try.prog 5 #[.string e, .slice p n c, .slice q m d] w fun e w' => e = .returned (.bool true) ∧ w' = w := by
  go_enter Try.func5, Try.ntmps5
  go_wp2
  go_ret
  exact ⟨rfl, rfl⟩

set_option maxHeartbeats 400000 in
theorem bytes_no (e : ByteArray) (p q : Option Addr) (n c m d : Nat) (w : World) (he : e.size ≤ maxLen) (hn : n ≤ maxLen) (hm : m ≤ maxLen) (h : ¬ e.size + n + m ≤ 1048576) :
    Calls Try.prog 5 #[.string e, .slice p n c, .slice q m d] w fun e w' => e = .returned (.bool false) ∧ w' = w := by
  unfold maxLen at he hn hm
  by_cases h1 : e.size ≤ 1048576
  · by_cases h2 : n ≤ 1048576
    · by_cases h3 : e.size + n ≤ 1048576
      · by_cases h4 : m ≤ 1048576
        all_goals
          go_enter Try.func5, Try.ntmps5
          go_wp2
          go_ret
          exact ⟨rfl, rfl⟩
      · go_enter Try.func5, Try.ntmps5
        go_wp2
        go_ret
        exact ⟨rfl, rfl⟩
    · go_enter Try.func5, Try.ntmps5
      go_wp2
      go_ret
      exact ⟨rfl, rfl⟩
  · go_enter Try.func5, Try.ntmps5
    go_wp2
    go_ret
    exact ⟨rfl, rfl⟩

theorem info5 : (Try.prog.info? 5).map (fun i => (i.zero, i.size, i.bytes)) = some (some (.int .u8 0), 1, 1) := by kernel_rfl

theorem setCells_step (xs : List Int) (k : Nat) (hk : k < xs.length) :
    ((xs.take k ++ List.replicate (xs.length - k) 0).map (Value.int .u8)).set k (Value.int .u8 (xs.getD k 0)) = (xs.take (k + 1) ++ List.replicate (xs.length - (k + 1)) 0).map (Value.int .u8) := by
  rw [← List.map_set]
  congr 1
  apply List.ext_getElem?
  intro i
  rcases Nat.lt_trichotomy i k with h | h | h
  · rw [List.getElem?_set_ne (by omega)]
    rw [List.getElem?_append_left (by simp; omega), List.getElem?_append_left (by simp; omega), List.getElem?_take, List.getElem?_take, if_pos h, if_pos (by omega)]
  · subst h
    rw [List.getElem?_set_self (by simp; omega), List.getElem?_append_left (by simp; omega), List.getElem?_take, if_pos (by omega)]
    simp [List.getElem?_eq_getElem hk]
  · rw [List.getElem?_set_ne (by omega), List.getElem?_append_right (by simp; omega), List.getElem?_append_right (by simp; omega)]
    simp only [List.length_take, List.getElem?_replicate]
    rw [Nat.min_eq_left (by omega), Nat.min_eq_left (by omega)]
    by_cases hi : i < xs.length
    · rw [if_pos (by omega), if_pos (by omega)]
    · rw [if_neg (by omega), if_neg (by omega)]

set_option maxHeartbeats 1000000 in
theorem clone_any (p : Option Addr) (n c : Nat) (xs : List Int) (w : World) (hn : n ≤ 1048576) (hs : See w p n c xs) :
    Calls Try.prog 6 #[.slice p n c] w fun e w' => (∃ v, e = .returned v ∧ w'.ownsRow w.heap.size 5 1 v n (xs.map (Value.int .u8))) ∧ Below w.heap.size w w' := by
  obtain ⟨i0, hi, hz0, hz1, hz2⟩ := info_parts info5
  have q22 : ∀ (w : World) (a : Option Addr) (n c n' c' : Nat), (binOp .eql 22 (.slice a n c) (.slice none n' c')).run Try.prog w = .ok (.bool a.isNone) w := fun w a n c n' c' => Lib.run_eql_slice_nil w _ _ a n c n' c' Try.underlying22
  cases p with
  | none =>
    have hc := hs.bare rfl
    have hn0 : n = 0 := by have := hs.room; omega
    have hx : xs = [] := List.eq_nil_of_length_eq_zero (by rw [hs.len, hn0])
    subst hc hn0 hx
    go_enter Try.func6, Try.ntmps6
    go_wp2
    go_ret
    exact ⟨⟨_, rfl, World.ownsRow_nil _ _ _ _⟩, Below.refl _ _⟩
  | some x =>
    have hl := hs.len
    have hroom := hs.room
    have M : ∀ k, (madeCells (Value.int .u8 0).cells (k * 1)).toList = (xs.take 0 ++ List.replicate k 0).map (Value.int .u8) := by
      intro k
      rw [Nat.mul_one, show (Value.int .u8 0).cells = #[Value.int .u8 0] from rfl, toList_madeCells_one]
      simp
    have HM : Hid (∀ k, (madeCells (Value.int .u8 0).cells (k * 1)).toList = (xs.take 0 ++ List.replicate k 0).map (Value.int .u8)) := M
    clear M
    rcases Nat.eq_zero_or_pos n with h0 | h0
    · subst h0
      have hx : xs = [] := List.eq_nil_of_length_eq_zero hl
      subst hx
      clear hs hl
      go_enter Try.func6, Try.ntmps6
      go_wp2_with (at_make; refine wpList_make_full _ rfl _ _ 22 rfl w.heap.size 5 i0 (.int .u8 0) 1 Try.underlying22 hi hz0 hz1 .i64 .i64 _ _ 0 rfl rfl rfl rfl (by rw [hz2]; omega) (by unfold maxLen; omega) (Nat.le_refl _) ?_; intro w1 hown1 hgrow1)
      have HO : Hid (w1.ownsRow w.heap.size 5 1 (.slice (some ⟨w.heap.size, 0, none⟩) 0 0) 0 (([] : List Int).map (Value.int .u8))) := by
        unfold Hid; rw [HM.out] at hown1; simpa using hown1
      have HB : Hid (Below w.heap.size w w1) := (Below.refl _ _).grown hgrow1 (Nat.le_refl _) (fun k hk => by simp at hk)
      clear hown1 hgrow1
      refine wp_loop_rounds 1 ?_
      rw [rounds_succ]
      go_wp2
      go_ret
      exact ⟨⟨_, rfl, HO.out⟩, HB.out⟩
    · obtain ⟨b, o, hx, hcell⟩ := hs.cells h0
      simp only [Option.some.injEq] at hx
      subst hx
      have HC : Hid (∀ i, i < n → w.cell? ⟨b, o + i, none⟩ = some (.int .u8 (xs.getD i 0))) := hcell
      have hbl : b < w.heap.size := hs.lt b o rfl h0
      clear hs hcell
      go_enter Try.func6, Try.ntmps6
      go_wp2_with (at_make; refine wpList_make_full _ rfl _ _ 22 rfl w.heap.size 5 i0 (.int .u8 0) 1 Try.underlying22 hi hz0 hz1 .i64 .i64 _ _ n rfl rfl rfl rfl (by rw [hz2]; omega) (by unfold maxLen; omega) (Nat.le_refl _) ?_; intro w1 hown1 hgrow1)
      have HO : Hid (w1.ownsRow w.heap.size 5 1 (.slice (some ⟨w.heap.size, 0, none⟩) n n) n ((xs.take 0 ++ List.replicate (xs.length - 0) 0).map (Value.int .u8))) := by
        unfold Hid; rw [HM.out] at hown1; rw [hl]; exact hown1
      have HB : Hid (Below w.heap.size w w1) := (Below.refl _ _).grown hgrow1 (Nat.le_refl _) (fun k hk => by simp at hk)
      clear hown1 hgrow1
      go_loopw [4] (fun v wr => ∃ k : Nat, k ≤ n ∧ v = .int .i64 k ∧ wr.ownsRow w.heap.size 5 1 (.slice (some ⟨w.heap.size, 0, none⟩) n n) n ((xs.take k ++ List.replicate (xs.length - k) 0).map (Value.int .u8)) ∧ Below w.heap.size w wr) (fun v _ => n - (intOf v).toNat)
      case atStart => exact ⟨0, by omega, rfl, HO.out, HB.out⟩
      case round =>
        obtain ⟨k, hk, rfl, hown, hbel⟩ := hrel
        clear HO HB
        by_cases hlt : k < n
        · obtain ⟨y, HY⟩ : ∃ y, Hid (xs.getD k 0 = y) := ⟨_, rfl⟩
          have hc1 : wr.cell? ⟨b, o + k, none⟩ = some (.int .u8 y) := by rw [hbel.cell (p := ⟨b, o + k, none⟩) hbl, ← HY.out]; exact HC.out k hlt
          have hf := hown.frozenAt k
          have hc2 := hown.cellAt k (by omega)
          have S := hown.stored k (.int .u8 (xs.getD k 0))
          rw [setCells_step xs k (by omega), HY.out] at S
          have HS1 : Hid ((wr.setCell ⟨w.heap.size, k, none⟩ (.int .u8 y)).ownsRow w.heap.size 5 1 (.slice (some ⟨w.heap.size, 0, none⟩) n n) n ((xs.take (k + 1) ++ List.replicate (xs.length - (k + 1)) 0).map (Value.int .u8))) := S.1
          have HS2 : Hid (Below w.heap.size w (wr.setCell ⟨w.heap.size, k, none⟩ (.int .u8 y))) := hbel.setCell (Nat.le_refl _) _
          have hcx : ∃ v, wr.cell? ⟨w.heap.size, k, none⟩ = some v := by
            rw [hc2]; exact ⟨_, List.getElem?_eq_getElem (by simp; omega)⟩
          obtain ⟨v0, hv0⟩ := hcx
          clear S hown hbel hc2
          go_wp2
          go_roundw
          case rel => exact ⟨k + 1, by omega, by go_num, HS1.out, HS2.out⟩
          case measure => simp [intOf]; omega
        · have hkn : k = n := by omega
          have HO2 : Hid (wr.ownsRow w.heap.size 5 1 (.slice (some ⟨w.heap.size, 0, none⟩) n n) n (xs.map (Value.int .u8))) := by
            unfold Hid
            have e : xs.take k ++ List.replicate (xs.length - k) 0 = xs := by rw [List.take_of_length_le (by omega), hl, hkn, Nat.sub_self]; simp
            rw [e] at hown
            exact hown
          have HB2 : Hid (Below w.heap.size w wr) := hbel
          clear hown hbel
          go_wp2
          go_ret
          exact ⟨⟨_, rfl, HO2.out⟩, HB2.out⟩

end Go.Proofs.Qxb6003622a.Fld
