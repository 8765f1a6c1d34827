/- Seat b6600448a: ZZWalk. -/
import Derived.Test.Qxb6600448aWalk
namespace Go.Proofs.Qxb6600448a.Tr
open Go.RowKit
set_option linter.unusedVariables false

theorem info63 : (Try.prog.info? 63).map (fun i => (i.zero, i.size, i.bytes)) = some (some (.pointer none), 1, 8) := by kernel_rfl

def fitting (xss : List (List ByteArray)) (N : Nat) (s : ByteArray) : List Nat := (List.range N).filter fun x => fitsB (txts (xss.getD x [])) (Tr.split (txt s))
theorem hit_root (xss : List (List ByteArray)) (N : Nat) (s : ByteArray) (x : Nat) : Hit xss N [] (Tr.split (txt s)) x ↔ x ∈ fitting xss N s := by
  unfold Hit fitting
  rw [List.mem_filter, List.mem_range]
  constructor
  · rintro ⟨h, q, h1, h2⟩
    refine ⟨h, ?_⟩
    rw [fits_eq]
    have : pathOf (txts (xss.getD x [])) = q := by simpa [path] using h1
    rw [this]; exact h2
  · rintro ⟨h, h1⟩
    rw [fits_eq] at h1
    exact ⟨h, _, rfl, h1⟩
theorem fitting_is {xss : List (List ByteArray)} {N : Nat} {s : ByteArray} {l : List Nat} (hu : Up l) (h : ∀ x, x ∈ l ↔ x ∈ [] ∨ Hit xss N [] (Tr.split (txt s)) x) : l = fitting xss N s :=
  up_ext _ _ hu (up_range _ _) fun x => by rw [h, hit_root]; simp [fitting]

theorem look_made {w w1 : World} {N : Nat} {s : ByteArray} (ho : w1.ownsRow w.heap.size 63 1 (.slice (some ⟨w.heap.size, 0, none⟩) N N) N (madeCells (Value.pointer none).cells (N * 1)).toList) :
    Look ((w1.alloc (.cells #[.slice (some ⟨w.heap.size, 0, none⟩) N N, .pointer none, .map none] 59)).alloc (.cells #[.pointer (some ⟨w1.heap.size, 0, none⟩), .string s, .int .i64 0] 61)) (w1.heap.size + 1) w1.heap.size w.heap.size s N := by
  have hz : (w1.alloc (.cells #[.slice (some ⟨w.heap.size, 0, none⟩) N N, .pointer none, .map none] 59)).heap.size = w1.heap.size + 1 := by simp
  have hn := heap_new (w1.alloc (.cells #[.slice (some ⟨w.heap.size, 0, none⟩) N N, .pointer none, .map none] 59)) (.cells #[.pointer (some ⟨w1.heap.size, 0, none⟩), .string s, .int .i64 0] 61)
  rw [hz] at hn
  have hw : w.heap.size < w1.heap.size := (ho.lt w.heap.size rfl).2
  refine ⟨?_, ?_, ?_, ?_, ?_⟩
  · unfold World.cell?; rw [hn]; rfl
  · unfold World.cell?; rw [hn]; rfl
  · unfold World.cell?; rw [hn]; rfl
  · unfold World.cell?; rw [heap_old _ _ (by rw [hz]; show w1.heap.size < _; omega), heap_new]; rfl
  · intro k hk
    have hb : Below w1.heap.size w1 ((w1.alloc (.cells #[.slice (some ⟨w.heap.size, 0, none⟩) N N, .pointer none, .map none] 59)).alloc (.cells #[.pointer (some ⟨w1.heap.size, 0, none⟩), .string s, .int .i64 0] 61)) := ((Below.refl _ w1).alloc (Nat.le_refl _) _).alloc (by rw [hz]; omega) _
    rw [hb.cell (p := ⟨w.heap.size, k, none⟩) hw, ho.cellAt k (by omega)]
    rw [show (Value.pointer none).cells = #[.pointer none] from rfl, toList_madeCells_one, List.getElem?_replicate, if_pos (by omega)]

theorem Found.cell {w0 w : World} {s : ByteArray} {N n c : Nat} {p : Option Addr} {l : List Nat} (h : Found w0 w s N (.slice p n c) l) (hl : l.length = n) {k x : Nat} (hk : l[k]? = some x) : ∃ g, p = some ⟨g, 0, none⟩ ∧ g < w.heap.size ∧ n ≤ c ∧ w.cell? ⟨g, k * 3, none⟩ = some (.int .i64 (x : Nat)) := by
  have hkl := (List.getElem?_eq_some_iff.1 hk).1
  have ho := h.own
  rw [hl] at ho
  rcases ho.2 with ⟨h1, h2⟩ | ⟨g, cap, cur, h1, h2, h3, h4, _⟩
  · omega
  · simp only [Value.slice.injEq, true_and] at h1
    obtain ⟨rfl, rfl⟩ := h1
    refine ⟨g, rfl, (Array.getElem?_eq_some_iff.1 h3).1, h4, ?_⟩
    rw [ho.cellAt (k * 3) (by omega)]
    exact (mflat_at s hk).1

def ints (l : List Nat) : List Value := l.map fun i => Value.int .i64 (i : Nat)
theorem ints_step {L : List Value} {l : List Nat} {k x : Nat} (hL : L.take k = ints (l.take k)) (hk : l[k]? = some x) (hkL : k < L.length) : (L.set k (.int .i64 (x : Nat))).take (k + 1) = ints (l.take (k + 1)) := by
  obtain ⟨hl, rfl⟩ := List.getElem?_eq_some_iff.1 hk
  unfold ints at hL ⊢
  rw [take_set hkL, hL, List.take_succ_eq_append_getElem hl, List.map_append]
  rfl

def ZzEnd (w w' : World) (xss : List (List ByteArray)) (N : Nat) (s : ByteArray) (e : Ending) : Prop := ∃ (g n : Nat), e = .returned (.slice (some ⟨g, 0, none⟩) n n) ∧ (fitting xss N s).length = n ∧ w'.ownsRow w.heap.size 3 1 (.slice (some ⟨g, 0, none⟩) n n) n (ints (fitting xss N s)) ∧ Below w.heap.size w w'

set_option maxHeartbeats 2000000 in
theorem zzwalk_any (w : World) (xss : List (List ByteArray)) (N : Nat) (t : Tre) (s : ByteArray) (m : Int) (rt : Nat) (HR : Hid (∃ B K, Rep w B K t)) (HG : Hid (Grown xss N t)) (HRT : Hid (t.at' [] = some rt)) (HMX : Hid (w.cell? ⟨0, 0, none⟩ = some (.int .i64 m))) (hs : s.size ≤ 1048576) (hN : N ≤ 65536) :
    Calls Try.prog 18 #[.pointer (some ⟨rt, 0, none⟩), .int .i64 (N : Nat), .string s, .slice none 0 0] w fun e w' => ZzEnd w w' xss N s e := by
  obtain ⟨i0, hi, hz0, hz1, hz2⟩ := info_parts info63
  obtain ⟨i1, hi1, hy0, hy1, hy2⟩ := info_parts info65
  obtain ⟨i2, hi2, hx0, hx1, hx2⟩ := info_parts info3
  go_enter Try.func18, Try.ntmps18
  go_wp2_with (at_make; first
    | (refine wpList_make_full _ rfl _ _ 57 rfl w.heap.size 63 i0 (.pointer none) 1 Try.underlying57 hi hz0 hz1 .i64 .i64 _ _ N rfl rfl rfl rfl (by rw [hz2]; omega) (by unfold maxLen; omega) (Nat.le_refl _) ?_; intro w1 hown1 hgrow1)
    | (refine wpList_make_full _ rfl _ _ 62 rfl _ 65 i1 (.agg #[.int .i64 0, .pointer none, .string ⟨#[]⟩]) 3 Try.underlying62 hi1 hy0 hy1 .i64 .i64 _ _ 0 rfl rfl rfl rfl (by rw [hy2]; omega) (by unfold maxLen; omega) (Nat.le_refl _) ?_; intro w2 hown2 hgrow2))
  obtain ⟨W0, hW0⟩ : ∃ W0, W0 = (w1.alloc (.cells #[.slice (some ⟨w.heap.size, 0, none⟩) N N, .pointer none, .map none] 59)).alloc (.cells #[.pointer (some ⟨w1.heap.size, 0, none⟩), .string s, .int .i64 0] 61) := ⟨_, rfl⟩
  have HLK : Hid (Look W0 (w1.heap.size + 1) w1.heap.size w.heap.size s N) := by rw [hW0]; exact look_made hown1
  rw [← hW0] at hown2 hgrow2
  have hsz : W0.heap.size = w1.heap.size + 2 := by rw [hW0]; simp
  have HBW : Hid (Below w.heap.size w W0) := by
    have h1 : Below w.heap.size w w1 := (Below.refl _ w).grown hgrow1 (Nat.le_refl _) (fun k hk => by cases hk)
    have h2 := h1.alloc h1.size (.cells #[.slice (some ⟨w.heap.size, 0, none⟩) N N, .pointer none, .map none] 59)
    rw [hW0]; exact h2.alloc h2.size _
  have HBS : Hid (Base W0 xss N t (w1.heap.size + 1) w1.heap.size w.heap.size s m) := by
    obtain ⟨B, K, hr⟩ := HR.out
    refine ⟨⟨B, K, hr.later HBW.out⟩, HLK.out, ?_, HG.out, hN⟩
    rw [HBW.out.cell (p := ⟨0, 0, none⟩) (World.block_lt_of_cell? w _ HMX.out)]; exact HMX.out
  have HF : Hid (Found W0 w2 s N (.slice (some ⟨w1.heap.size + 1 + 1, 0, none⟩) 0 0) []) := by
    have e : Value.slice (some ⟨w1.heap.size + 1 + 1, 0, none⟩) 0 0 = .slice (some ⟨W0.heap.size, 0, none⟩) 0 0 := by rw [hsz]
    rw [e]
    refine ⟨?_, List.Pairwise.nil, (fun x hx => by cases hx), (Below.refl _ W0).grown hgrow2 (Nat.le_refl _) (fun k hk => by cases hk)⟩
    have h0 := List.eq_nil_of_length_eq_zero (hown2.1.trans (by omega))
    rw [h0] at hown2
    exact hown2
  clear hown1 hgrow1 hown2 hgrow2 hW0 HLK hsz
  go_loop [28] (fun z => z = .int .i64 0) (fun _ => 0)
  case atStart => rfl
  case round =>
    obtain rfl := hrel
    go_wp2_with fail
    refine (walk_any W0 xss N t _ _ _ s m HBS.out s.size w2 s [] rt _ [] (Nat.le_refl _) hs HRT.out HF.out (fun x _ h => by cases h)).mono ?_
    rintro e w3 ⟨v3, l3, rfl, hf3, hm3⟩
    obtain rfl := fitting_is hf3.up hm3
    obtain ⟨l3, HL3⟩ : ∃ l3, Hid (fitting xss N s = l3) := ⟨_, rfl⟩
    rw [HL3.out] at hf3
    obtain ⟨p3, c3, rfl⟩ := own_form hf3.own
    have hn3 : l3.length ≤ 65536 := Nat.le_trans (up_len hf3.up hf3.lt) hN
    obtain ⟨n3, HN3⟩ : ∃ n3, Hid (l3.length = n3) := ⟨_, rfl⟩
    rw [HN3.out] at hf3 hn3 ⊢
    have HF3 := Hid.mk' hf3
    have HB3 : Hid (Below w.heap.size w w3) := HBW.out.trans (hf3.bel.mono HBW.out.size)
    clear hf3 hm3 HF HBS HBW
    go_wp2_with (at_make; refine wpList_make_full _ rfl _ _ 27 rfl w.heap.size 3 i2 (.int .i64 0) 1 Try.underlying27 hi2 hx0 hx1 .i64 .i64 _ _ n3 rfl rfl rfl rfl (by rw [hx2]; omega) (by unfold maxLen; omega) HB3.out.size ?_; intro w4 hown4 hgrow4)
    have HO4 : Hid (∃ L, w4.ownsRow w.heap.size 3 1 (.slice (some ⟨w3.heap.size, 0, none⟩) n3 n3) n3 L) := ⟨_, hown4⟩
    have HB4 : Hid (Below w3.heap.size w3 w4) := (Below.refl _ w3).grown hgrow4 (Nat.le_refl _) (fun k hk => by cases hk)
    clear hown4 hgrow4
    go_loopw [50] (fun z wr => ∃ (k : Nat) (L : List Value), k ≤ n3 ∧ z = .int .i64 k ∧ wr.ownsRow w.heap.size 3 1 (.slice (some ⟨w3.heap.size, 0, none⟩) n3 n3) n3 L ∧ Below w3.heap.size w3 wr ∧ Hid (L.take k = ints (l3.take k))) (fun z _ => n3 - (intOf z).toNat)
    case atStart =>
      obtain ⟨L, hL⟩ := HO4.out
      exact ⟨0, L, by omega, rfl, hL, HB4.out, rfl⟩
    case round =>
      obtain ⟨k, L, hk, rfl, hown, hbel, HT⟩ := hrel
      clear HO4 HB4
      have hLn : L.length = n3 := by have := hown.1; omega
      by_cases hlt : k < n3
      · obtain ⟨x, hx⟩ : ∃ x, l3[k]? = some x := ⟨_, List.getElem?_eq_getElem (by rw [HN3.out]; exact hlt)⟩
        obtain ⟨g, rfl, hgl, hnc, hc0⟩ := HF3.out.cell HN3.out hx
        have hc1 : wr.cell? ⟨g, k * 3, none⟩ = some (.int .i64 (x : Nat)) := by rw [hbel.cell (p := ⟨g, k * 3, none⟩) hgl]; exact hc0
        have hf1 := hown.frozenAt k
        have hcx : ∃ v, wr.cell? ⟨w3.heap.size, k, none⟩ = some v := by
          rw [hown.cellAt k (by omega)]; exact ⟨_, List.getElem?_eq_getElem (by omega)⟩
        obtain ⟨v0, hv0⟩ := hcx
        have HS1 : Hid (∀ u, (wr.setCell ⟨w3.heap.size, k, none⟩ u).ownsRow w.heap.size 3 1 (.slice (some ⟨w3.heap.size, 0, none⟩) n3 n3) n3 (L.set k u)) := fun u => (hown.stored k u).1
        have HS2 : Hid (∀ u, Below w3.heap.size w3 (wr.setCell ⟨w3.heap.size, k, none⟩ u)) := fun u => hbel.setCell (Nat.le_refl _) _
        have HTK : Hid ((L.set k (.int .i64 (x : Nat))).take (k + 1) = ints (l3.take (k + 1))) := ints_step HT.out hx (by omega)
        clear hown hbel hc0 hx
        go_wp2_with fail
        go_roundw
        case rel => exact ⟨k + 1, _, by omega, by go_num, HS1.out _, HS2.out _, HTK.out⟩
        case measure => simp [intOf]; omega
      · have HE : Hid (L = ints l3) := by
          unfold Hid
          have := HT.out
          rwa [List.take_of_length_le (by omega), List.take_of_length_le (by rw [HN3.out]; omega)] at this
        have HO2 := Hid.mk' hown
        have HB2 := Hid.mk' hbel
        clear hown hbel
        go_wp2_with fail
        go_ret
        refine ⟨w3.heap.size, n3, rfl, by rw [HL3.out]; exact HN3.out, ?_, HB3.out.trans (HB2.out.mono HB3.out.size)⟩
        rw [HL3.out, ← HE.out]; exact HO2.out

end Go.Proofs.Qxb6600448a.Tr
