/- Seat b6003622a: the walk of FnFieldAgainstEmptyState. -/
import Derived.Test.Qxb6003622aZz
import Derived.Test.Qxb6003622aParse3
namespace Go.Proofs.Qxb6003622a.Fld
open Go.RowKit
set_option linter.unusedVariables false

def CloneEnd (B : Nat) (w' : World) (n : Nat) (xs : List Int) (e : Ending) : Prop := ∃ p c, e = .returned (.slice p n c) ∧ w'.ownsRow B 5 1 (.slice p n c) n (xs.map (Value.int .u8)) ∧ See w' p n c xs

theorem own_see {w' : World} {B n : Nat} {v : Value} {xs : List Int} (h : w'.ownsRow B 5 1 v n (xs.map (Value.int .u8))) (hr : ∀ x ∈ xs, 0 ≤ x ∧ x < 256) : CloneEnd B w' n xs (.returned v) := by
  obtain ⟨p, c, rfl, hs, _⟩ := See.ofOwn h hr
  exact ⟨p, c, rfl, h, hs⟩

theorem clone_see (p : Option Addr) (n c : Nat) (xs : List Int) (w : World) (hn : n ≤ 1048576) (hs : See w p n c xs) :
    Calls Try.prog 6 #[.slice p n c] w fun e w' => CloneEnd w.heap.size w' n xs e ∧ Below w.heap.size w w' := by
  refine (clone_any p n c xs w hn hs).mono ?_
  rintro e w' ⟨⟨v, rfl, ho⟩, hb⟩
  exact ⟨own_see ho hs.range, hb⟩

theorem piece_see (p : Option Addr) (n c : Nat) (xs : List Int) (w : World) (hn : n ≤ 1048576) (hs : See w p n c xs) :
    Calls Try.prog 10 #[.int .i64 1, .slice p n c] w fun e w' => CloneEnd w.heap.size w' (n + 1) (xs ++ [10]) e ∧ Below w.heap.size w w' := by
  refine (piece_yes p n c xs w hn hs).mono ?_
  rintro e w' ⟨⟨v, rfl, ho⟩, hb⟩
  refine ⟨own_see ho (fun x hx => ?_), hb⟩
  simp only [List.mem_append, List.mem_singleton] at hx
  rcases hx with hx | hx
  · exact hs.range x hx
  · subst hx; omega

theorem concat_see (p q : Option Addr) (n c m d : Nat) (xs ys : List Int) (w : World) (hn : n ≤ 1048576) (hm : m ≤ 1048576) (h1 : See w p n c xs) (h2 : See w q m d ys) :
    Calls Try.prog 11 #[.slice p n c, .slice q m d] w fun e w' => CloneEnd w.heap.size w' (n + m) (xs ++ ys) e ∧ Below w.heap.size w w' := by
  refine (concat_any p q n c m d xs ys w hn hm h1 h2).mono ?_
  rintro e w' ⟨⟨v, rfl, ho⟩, hb⟩
  refine ⟨own_see ho (fun x hx => ?_), hb⟩
  simp only [List.mem_append] at hx
  rcases hx with hx | hx
  · exact h1.range x hx
  · exact h2.range x hx

theorem equal_is (p q : Option Addr) (n c m d : Nat) (xs ys : List Int) (w : World) (hn : n ≤ 2097152) (hm : m ≤ 2097152) (h1 : See w p n c xs) (h2 : See w q m d ys) (hv : xs = ys) :
    Calls Try.prog 9 #[.slice p n c, .slice q m d] w fun e w' => e = .returned (.bool true) ∧ Below w.heap.size w w' := by
  have h := equal_any p q n c m d xs ys w hn hm h1 h2
  rw [show (xs == ys) = true from by rw [hv]; simp] at h; exact h

theorem zzfield_k (B : Nat) (et et' : ByteArray) (vd : Value) (nd : Nat) (ds ds' : List Int) (p : Option Addr) (n c : Nat) (xs : List Int) (w : World) (hn : n ≤ 1048576) (hnd : nd ≤ 1048576) (hs : See w p n c xs)
    (hB : B ≤ w.heap.size) (ho : w.ownsRow B 5 1 vd nd (ds.map (Value.int .u8))) (hr : ∀ x ∈ ds, 0 ≤ x ∧ x < 256) (he : etOf xs et = et') (hd : dsOf xs ds = ds') :
    Calls Try.prog 7 #[.string et, vd, .slice p n c] w fun e w' => (∃ p n c, e = .returned (.tuple #[.string et', .slice p n c]) ∧ See w' p n c ds') ∧ Below B w w' := by
  subst he; subst hd
  exact zzfield_any B et vd nd ds p n c xs w hn hnd hs hB ho hr

theorem parse_k (p : Option Addr) (n c : Nat) (xs : List Int) (w : World) (k : Int) (hn : n ≤ 1048576) (hs : See w p n c xs) (hk : kindOf xs = k) :
    Calls Try.prog 8 #[.slice p n c] w fun e w' => (∃ p m c, e = .returned (.tuple #[.int .i64 k, .slice p m c]) ∧ m ≤ n ∧ See w' p m c (valOf xs)) ∧ Below w.heap.size w w' := by
  subst hk
  have hl := hs.len
  refine (parse_any p n c xs w hn hs).mono ?_
  rintro e w' ⟨⟨p, m, c, rfl, hm, h⟩, hb⟩
  exact ⟨⟨p, m, c, rfl, by omega, h⟩, hb⟩

theorem own_nil (w : World) (B : Nat) : w.ownsRow B 5 1 (.slice none 0 0) 0 (([] : List Int).map (Value.int .u8)) := ⟨rfl, .inl ⟨rfl, rfl⟩⟩
theorem len_of {w : World} {p : Option Addr} {n c : Nat} {xs ds ys : List Int} (h : See w p n c ys) (hd : dsOf xs ds = ys) : n ≤ ds.length + xs.length + 1 := by
  have := ds_len xs ds; rw [hd, h.len] at this; exact this

set_option maxHeartbeats 2000000 in
set_option maxRecDepth 100000 in
theorem fn_k0 (et : ByteArray) (a1 : Option Addr) (n1 c1 : Nat) (ds : List Int) (a2 : Option Addr) (n2 c2 : Nat) (xs : List Int) (w : World) (hsum : et.size + n1 + n2 ≤ 1048576) (he : et.size ≤ 262144) (h1 : n1 ≤ 262144) (h2 : n2 ≤ 262144)
    (S1 : Hid (See w a1 n1 c1 ds)) (S2 : Hid (See w a2 n2 c2 xs)) (hk : Hid (kindOf xs = 0)) :
    Calls Try.prog 3 #[.string et, .slice a1 n1 c1, .slice a2 n2 c2] w fun e w' => e = .returned (.bool true) ∧ Below w.heap.size w w' := by
  have T1 : etOf xs et = et := (by unfold etOf; rw [if_neg (by rw [hk.out]; decide)])
  have T0 : etOf xs ⟨#[]⟩ = ⟨#[]⟩ := (by unfold etOf; rw [if_neg (by rw [hk.out]; decide)])
  have U1 : dsOf xs ds = ds := (by unfold dsOf; rw [if_neg (by rw [hk.out]; decide)])
  have U0 : dsOf xs [] = [] := (by unfold dsOf; rw [if_neg (by rw [hk.out]; decide)])
  have T1 := Hid.mk' T1
  have T0 := Hid.mk' T0
  have U1 := Hid.mk' U1
  have U0 := Hid.mk' U0
  have LX : Hid (xs.length = n2) := S2.out.len
  have LD : Hid (ds.length = n1) := S1.out.len
  go_enter Try.func3, Try.ntmps3
  go_wp2_with (go_at_call 5; refine (bytes_yes _ _ _ _ _ _ _ _ (by omega)).mono ?_; rintro e w ⟨rfl, rfl⟩)
  refine (clone_see a1 n1 c1 ds _ (by omega) S1.out).mono ?_
  rintro e w1 ⟨⟨p1, k1, rfl, ho1, hs1⟩, hb1⟩
  have D1 := Hid.mk' hs1
  have HB1 := Hid.mk' hb1
  clear ho1 hs1 hb1
  go_wp2_with fail
  refine (clone_see a2 n2 c2 xs _ (by omega) (S2.out.later HB1.out)).mono ?_
  rintro e w2 ⟨⟨p2, k2, rfl, ho2, hs2⟩, hb2⟩
  have L2 := Hid.mk' hs2
  have D2 := Hid.mk' (D1.out.later hb2)
  have HB2 := Hid.mk' (HB1.out.trans (hb2.mono HB1.out.size))
  clear ho2 hs2 hb2 D1 HB1
  go_wp2_with fail
  refine (clone_see p1 n1 k1 ds _ (by omega) D2.out).mono ?_
  rintro e w3 ⟨⟨p3, k3, rfl, ho3, hs3⟩, hb3⟩
  have HO3 := Hid.mk' ho3
  have HB3 := Hid.mk' hb3
  clear ho3 hs3 hb3
  go_wp2_with fail
  refine (zzfield_k w2.heap.size et et (.slice p3 n1 k3) n1 ds ds p2 n2 k2 xs _ (by omega) (by omega) (L2.out.later HB3.out) HB3.out.size HO3.out D2.out.range T1.out U1.out).mono ?_
  rintro e w4 ⟨⟨p4, m4, k4, rfl, hs4⟩, hb4⟩
  have hm4 : m4 ≤ 1048576 := by have := len_of hs4 U1.out; have := LX.out; have := LD.out; omega
  have E4 := Hid.mk' hs4
  have HB4 := Hid.mk' (HB3.out.trans hb4)
  have L4 := Hid.mk' (L2.out.later HB4.out)
  have D4 := Hid.mk' (D2.out.later HB4.out)
  have HW4 := Hid.mk' (HB2.out.trans (HB4.out.mono HB2.out.size))
  clear hs4 hb4 HB4 HB3 HO3 L2 D2 HB2
  go_wp2_with fail
  refine (zzfield_k w4.heap.size ⟨#[]⟩ ⟨#[]⟩ (.slice none 0 0) 0 [] [] p2 n2 k2 xs _ (by omega) (by omega) L4.out (Nat.le_refl _) (own_nil _ _) (fun x hx => by cases hx) T0.out U0.out).mono ?_
  rintro e w5 ⟨⟨p5, m5, k5, rfl, hs5⟩, hb5⟩
  have hm5 : m5 ≤ 1048576 := by have q := LX.out; have := len_of hs5 U0.out; simp only [List.length_nil] at this; omega
  have Z5 := Hid.mk' hs5
  have E5 := Hid.mk' (E4.out.later hb5)
  have L5 := Hid.mk' (L4.out.later hb5)
  have D5 := Hid.mk' (D4.out.later hb5)
  have HW5 := Hid.mk' (HW4.out.trans (hb5.mono HW4.out.size))
  clear hs5 hb5 E4 L4 D4 HW4
  go_wp2_with fail
  refine (parse_k p2 n2 k2 xs _ 0 (by omega) L5.out hk.out).mono ?_
  rintro e w6 ⟨⟨p6, m6, k6, rfl, hm6, hs6⟩, hb6⟩
  have V6 := Hid.mk' hs6
  have Z6 := Hid.mk' (Z5.out.later hb6)
  have E6 := Hid.mk' (E5.out.later hb6)
  have D6 := Hid.mk' (D5.out.later hb6)
  have HW6 := Hid.mk' (HW5.out.trans (hb6.mono HW5.out.size))
  clear hs6 hb6 Z5 E5 L5 D5 HW5
  go_wp2_with fail
  refine (piece_no 0 _ _ (by decide)).mono ?_
  rintro e w7 ⟨rfl, rfl⟩
  have V7 := V6
  have Z7 := Z6
  have E7 := E6
  have D7 := D6
  have HW7 := HW6
  clear V6 Z6 E6 D6 HW6
  go_wp2_with fail
  refine (equal_is p5 none m5 k5 0 0 [] [] _ (by omega) (by omega) Z7.out (See.nil _) rfl).mono ?_
  rintro e w8 ⟨rfl, hb8⟩
  have V8 := Hid.mk' (V7.out.later hb8)
  have Z8 := Hid.mk' (Z7.out.later hb8)
  have E8 := Hid.mk' (E7.out.later hb8)
  have D8 := Hid.mk' (D7.out.later hb8)
  have HW8 := Hid.mk' (HW7.out.trans (hb8.mono HW7.out.size))
  clear hb8 V7 Z7 E7 D7 HW7
  go_wp2_with fail
  refine (concat_see p1 p5 n1 k1 m5 k5 ds [] _ (by omega) (by omega) D8.out Z8.out).mono ?_
  rintro e w9 ⟨⟨p9, k9, rfl, ho9, hs9⟩, hb9⟩
  have C9 := Hid.mk' hs9
  have V9 := Hid.mk' (V8.out.later hb9)
  have E9 := Hid.mk' (E8.out.later hb9)
  have HW9 := Hid.mk' (HW8.out.trans (hb9.mono HW8.out.size))
  clear ho9 hs9 hb9 V8 Z8 E8 D8 HW8
  go_wp2_with fail
  refine (equal_is p4 p9 m4 k4 (n1 + m5) k9 ds (ds ++ []) _ (by omega) (by omega) E9.out C9.out (show (ds : List Int) = ds ++ [] from by simp)).mono ?_
  rintro e w10 ⟨rfl, hb10⟩
  have V10 := Hid.mk' (V9.out.later hb10)
  have HW10 := Hid.mk' (HW9.out.trans (hb10.mono HW9.out.size))
  clear hb10 V9 E9 C9 HW9
  go_wp2_with fail
  go_ret
  exact ⟨by simp, HW10.out⟩

set_option maxHeartbeats 2000000 in
set_option maxRecDepth 100000 in
theorem fn_k1 (et : ByteArray) (a1 : Option Addr) (n1 c1 : Nat) (ds : List Int) (a2 : Option Addr) (n2 c2 : Nat) (xs : List Int) (w : World) (hsum : et.size + n1 + n2 ≤ 1048576) (he : et.size ≤ 262144) (h1 : n1 ≤ 262144) (h2 : n2 ≤ 262144)
    (S1 : Hid (See w a1 n1 c1 ds)) (S2 : Hid (See w a2 n2 c2 xs)) (hk : Hid (kindOf xs = 1)) :
    Calls Try.prog 3 #[.string et, .slice a1 n1 c1, .slice a2 n2 c2] w fun e w' => e = .returned (.bool true) ∧ Below w.heap.size w w' := by
  have T1 : etOf xs et = et := (by unfold etOf; rw [if_neg (by rw [hk.out]; decide)])
  have T0 : etOf xs ⟨#[]⟩ = ⟨#[]⟩ := (by unfold etOf; rw [if_neg (by rw [hk.out]; decide)])
  have U1 : dsOf xs ds = (ds ++ (valOf xs ++ [10])) := (by unfold dsOf; rw [if_pos hk.out])
  have U0 : dsOf xs [] = (valOf xs ++ [10]) := (by unfold dsOf; rw [if_pos hk.out]; rfl)
  have T1 := Hid.mk' T1
  have T0 := Hid.mk' T0
  have U1 := Hid.mk' U1
  have U0 := Hid.mk' U0
  have LX : Hid (xs.length = n2) := S2.out.len
  have LD : Hid (ds.length = n1) := S1.out.len
  go_enter Try.func3, Try.ntmps3
  go_wp2_with (go_at_call 5; refine (bytes_yes _ _ _ _ _ _ _ _ (by omega)).mono ?_; rintro e w ⟨rfl, rfl⟩)
  refine (clone_see a1 n1 c1 ds _ (by omega) S1.out).mono ?_
  rintro e w1 ⟨⟨p1, k1, rfl, ho1, hs1⟩, hb1⟩
  have D1 := Hid.mk' hs1
  have HB1 := Hid.mk' hb1
  clear ho1 hs1 hb1
  go_wp2_with fail
  refine (clone_see a2 n2 c2 xs _ (by omega) (S2.out.later HB1.out)).mono ?_
  rintro e w2 ⟨⟨p2, k2, rfl, ho2, hs2⟩, hb2⟩
  have L2 := Hid.mk' hs2
  have D2 := Hid.mk' (D1.out.later hb2)
  have HB2 := Hid.mk' (HB1.out.trans (hb2.mono HB1.out.size))
  clear ho2 hs2 hb2 D1 HB1
  go_wp2_with fail
  refine (clone_see p1 n1 k1 ds _ (by omega) D2.out).mono ?_
  rintro e w3 ⟨⟨p3, k3, rfl, ho3, hs3⟩, hb3⟩
  have HO3 := Hid.mk' ho3
  have HB3 := Hid.mk' hb3
  clear ho3 hs3 hb3
  go_wp2_with fail
  refine (zzfield_k w2.heap.size et et (.slice p3 n1 k3) n1 ds (ds ++ (valOf xs ++ [10])) p2 n2 k2 xs _ (by omega) (by omega) (L2.out.later HB3.out) HB3.out.size HO3.out D2.out.range T1.out U1.out).mono ?_
  rintro e w4 ⟨⟨p4, m4, k4, rfl, hs4⟩, hb4⟩
  have hm4 : m4 ≤ 1048576 := by have := len_of hs4 U1.out; have := LX.out; have := LD.out; omega
  have E4 := Hid.mk' hs4
  have HB4 := Hid.mk' (HB3.out.trans hb4)
  have L4 := Hid.mk' (L2.out.later HB4.out)
  have D4 := Hid.mk' (D2.out.later HB4.out)
  have HW4 := Hid.mk' (HB2.out.trans (HB4.out.mono HB2.out.size))
  clear hs4 hb4 HB4 HB3 HO3 L2 D2 HB2
  go_wp2_with fail
  refine (zzfield_k w4.heap.size ⟨#[]⟩ ⟨#[]⟩ (.slice none 0 0) 0 [] (valOf xs ++ [10]) p2 n2 k2 xs _ (by omega) (by omega) L4.out (Nat.le_refl _) (own_nil _ _) (fun x hx => by cases hx) T0.out U0.out).mono ?_
  rintro e w5 ⟨⟨p5, m5, k5, rfl, hs5⟩, hb5⟩
  have hm5 : m5 ≤ 1048576 := by have q := LX.out; have := len_of hs5 U0.out; simp only [List.length_nil] at this; omega
  have Z5 := Hid.mk' hs5
  have E5 := Hid.mk' (E4.out.later hb5)
  have L5 := Hid.mk' (L4.out.later hb5)
  have D5 := Hid.mk' (D4.out.later hb5)
  have HW5 := Hid.mk' (HW4.out.trans (hb5.mono HW4.out.size))
  clear hs5 hb5 E4 L4 D4 HW4
  go_wp2_with fail
  refine (parse_k p2 n2 k2 xs _ 1 (by omega) L5.out hk.out).mono ?_
  rintro e w6 ⟨⟨p6, m6, k6, rfl, hm6, hs6⟩, hb6⟩
  have V6 := Hid.mk' hs6
  have Z6 := Hid.mk' (Z5.out.later hb6)
  have E6 := Hid.mk' (E5.out.later hb6)
  have D6 := Hid.mk' (D5.out.later hb6)
  have HW6 := Hid.mk' (HW5.out.trans (hb6.mono HW5.out.size))
  clear hs6 hb6 Z5 E5 L5 D5 HW5
  go_wp2_with fail
  refine (piece_see p6 m6 k6 (valOf xs) _ (by omega) V6.out).mono ?_
  rintro e w7 ⟨⟨p7, k7, rfl, ho7, hs7⟩, hb7⟩
  have P7 := Hid.mk' hs7
  have V7 := Hid.mk' (V6.out.later hb7)
  have Z7 := Hid.mk' (Z6.out.later hb7)
  have E7 := Hid.mk' (E6.out.later hb7)
  have D7 := Hid.mk' (D6.out.later hb7)
  have HW7 := Hid.mk' (HW6.out.trans (hb7.mono HW6.out.size))
  clear ho7 hs7 hb7 V6 Z6 E6 D6 HW6
  go_wp2_with fail
  refine (equal_is p5 p7 m5 k5 (m6 + 1) k7 (valOf xs ++ [10]) (valOf xs ++ [10]) _ (by omega) (by omega) Z7.out P7.out rfl).mono ?_
  rintro e w8 ⟨rfl, hb8⟩
  have V8 := Hid.mk' (V7.out.later hb8)
  have Z8 := Hid.mk' (Z7.out.later hb8)
  have E8 := Hid.mk' (E7.out.later hb8)
  have D8 := Hid.mk' (D7.out.later hb8)
  have HW8 := Hid.mk' (HW7.out.trans (hb8.mono HW7.out.size))
  clear hb8 V7 Z7 E7 D7 HW7
  go_wp2_with fail
  refine (concat_see p1 p5 n1 k1 m5 k5 ds (valOf xs ++ [10]) _ (by omega) (by omega) D8.out Z8.out).mono ?_
  rintro e w9 ⟨⟨p9, k9, rfl, ho9, hs9⟩, hb9⟩
  have C9 := Hid.mk' hs9
  have V9 := Hid.mk' (V8.out.later hb9)
  have E9 := Hid.mk' (E8.out.later hb9)
  have HW9 := Hid.mk' (HW8.out.trans (hb9.mono HW8.out.size))
  clear ho9 hs9 hb9 V8 Z8 E8 D8 HW8
  go_wp2_with fail
  refine (equal_is p4 p9 m4 k4 (n1 + m5) k9 (ds ++ (valOf xs ++ [10])) (ds ++ (valOf xs ++ [10])) _ (by omega) (by omega) E9.out C9.out (show (ds ++ (valOf xs ++ [10]) : List Int) = ds ++ (valOf xs ++ [10]) from rfl)).mono ?_
  rintro e w10 ⟨rfl, hb10⟩
  have V10 := Hid.mk' (V9.out.later hb10)
  have HW10 := Hid.mk' (HW9.out.trans (hb10.mono HW9.out.size))
  clear hb10 V9 E9 C9 HW9
  go_wp2_with fail
  go_ret
  exact ⟨by simp, HW10.out⟩

set_option maxHeartbeats 2000000 in
set_option maxRecDepth 100000 in
theorem fn_k2 (et : ByteArray) (a1 : Option Addr) (n1 c1 : Nat) (ds : List Int) (a2 : Option Addr) (n2 c2 : Nat) (xs : List Int) (w : World) (hsum : et.size + n1 + n2 ≤ 1048576) (he : et.size ≤ 262144) (h1 : n1 ≤ 262144) (h2 : n2 ≤ 262144)
    (S1 : Hid (See w a1 n1 c1 ds)) (S2 : Hid (See w a2 n2 c2 xs)) (hk : Hid (kindOf xs = 2)) :
    Calls Try.prog 3 #[.string et, .slice a1 n1 c1, .slice a2 n2 c2] w fun e w' => e = .returned (.bool true) ∧ Below w.heap.size w w' := by
  have T1 : etOf xs et = (strOfNums (valOf xs)) := (by unfold etOf; rw [if_pos hk.out])
  have T0 : etOf xs ⟨#[]⟩ = (strOfNums (valOf xs)) := (by unfold etOf; rw [if_pos hk.out])
  have U1 : dsOf xs ds = ds := (by unfold dsOf; rw [if_neg (by rw [hk.out]; decide)])
  have U0 : dsOf xs [] = [] := (by unfold dsOf; rw [if_neg (by rw [hk.out]; decide)])
  have T1 := Hid.mk' T1
  have T0 := Hid.mk' T0
  have U1 := Hid.mk' U1
  have U0 := Hid.mk' U0
  have LX : Hid (xs.length = n2) := S2.out.len
  have LD : Hid (ds.length = n1) := S1.out.len
  go_enter Try.func3, Try.ntmps3
  go_wp2_with (go_at_call 5; refine (bytes_yes _ _ _ _ _ _ _ _ (by omega)).mono ?_; rintro e w ⟨rfl, rfl⟩)
  refine (clone_see a1 n1 c1 ds _ (by omega) S1.out).mono ?_
  rintro e w1 ⟨⟨p1, k1, rfl, ho1, hs1⟩, hb1⟩
  have D1 := Hid.mk' hs1
  have HB1 := Hid.mk' hb1
  clear ho1 hs1 hb1
  go_wp2_with fail
  refine (clone_see a2 n2 c2 xs _ (by omega) (S2.out.later HB1.out)).mono ?_
  rintro e w2 ⟨⟨p2, k2, rfl, ho2, hs2⟩, hb2⟩
  have L2 := Hid.mk' hs2
  have D2 := Hid.mk' (D1.out.later hb2)
  have HB2 := Hid.mk' (HB1.out.trans (hb2.mono HB1.out.size))
  clear ho2 hs2 hb2 D1 HB1
  go_wp2_with fail
  refine (clone_see p1 n1 k1 ds _ (by omega) D2.out).mono ?_
  rintro e w3 ⟨⟨p3, k3, rfl, ho3, hs3⟩, hb3⟩
  have HO3 := Hid.mk' ho3
  have HB3 := Hid.mk' hb3
  clear ho3 hs3 hb3
  go_wp2_with fail
  refine (zzfield_k w2.heap.size et (strOfNums (valOf xs)) (.slice p3 n1 k3) n1 ds ds p2 n2 k2 xs _ (by omega) (by omega) (L2.out.later HB3.out) HB3.out.size HO3.out D2.out.range T1.out U1.out).mono ?_
  rintro e w4 ⟨⟨p4, m4, k4, rfl, hs4⟩, hb4⟩
  have hm4 : m4 ≤ 1048576 := by have := len_of hs4 U1.out; have := LX.out; have := LD.out; omega
  have E4 := Hid.mk' hs4
  have HB4 := Hid.mk' (HB3.out.trans hb4)
  have L4 := Hid.mk' (L2.out.later HB4.out)
  have D4 := Hid.mk' (D2.out.later HB4.out)
  have HW4 := Hid.mk' (HB2.out.trans (HB4.out.mono HB2.out.size))
  clear hs4 hb4 HB4 HB3 HO3 L2 D2 HB2
  go_wp2_with fail
  refine (zzfield_k w4.heap.size ⟨#[]⟩ (strOfNums (valOf xs)) (.slice none 0 0) 0 [] [] p2 n2 k2 xs _ (by omega) (by omega) L4.out (Nat.le_refl _) (own_nil _ _) (fun x hx => by cases hx) T0.out U0.out).mono ?_
  rintro e w5 ⟨⟨p5, m5, k5, rfl, hs5⟩, hb5⟩
  have hm5 : m5 ≤ 1048576 := by have q := LX.out; have := len_of hs5 U0.out; simp only [List.length_nil] at this; omega
  have Z5 := Hid.mk' hs5
  have E5 := Hid.mk' (E4.out.later hb5)
  have L5 := Hid.mk' (L4.out.later hb5)
  have D5 := Hid.mk' (D4.out.later hb5)
  have HW5 := Hid.mk' (HW4.out.trans (hb5.mono HW4.out.size))
  clear hs5 hb5 E4 L4 D4 HW4
  go_wp2_with fail
  refine (parse_k p2 n2 k2 xs _ 2 (by omega) L5.out hk.out).mono ?_
  rintro e w6 ⟨⟨p6, m6, k6, rfl, hm6, hs6⟩, hb6⟩
  have V6 := Hid.mk' hs6
  have Z6 := Hid.mk' (Z5.out.later hb6)
  have E6 := Hid.mk' (E5.out.later hb6)
  have D6 := Hid.mk' (D5.out.later hb6)
  have HW6 := Hid.mk' (HW5.out.trans (hb6.mono HW5.out.size))
  clear hs6 hb6 Z5 E5 L5 D5 HW5
  go_wp2_with fail
  refine (piece_no 2 _ _ (by decide)).mono ?_
  rintro e w7 ⟨rfl, rfl⟩
  have V7 := V6
  have Z7 := Z6
  have E7 := E6
  have D7 := D6
  have HW7 := HW6
  clear V6 Z6 E6 D6 HW6
  go_wp2_with fail
  refine (equal_is p5 none m5 k5 0 0 [] [] _ (by omega) (by omega) Z7.out (See.nil _) rfl).mono ?_
  rintro e w8 ⟨rfl, hb8⟩
  have V8 := Hid.mk' (V7.out.later hb8)
  have Z8 := Hid.mk' (Z7.out.later hb8)
  have E8 := Hid.mk' (E7.out.later hb8)
  have D8 := Hid.mk' (D7.out.later hb8)
  have HW8 := Hid.mk' (HW7.out.trans (hb8.mono HW7.out.size))
  clear hb8 V7 Z7 E7 D7 HW7
  go_wp2_with fail
  refine (concat_see p1 p5 n1 k1 m5 k5 ds [] _ (by omega) (by omega) D8.out Z8.out).mono ?_
  rintro e w9 ⟨⟨p9, k9, rfl, ho9, hs9⟩, hb9⟩
  have C9 := Hid.mk' hs9
  have V9 := Hid.mk' (V8.out.later hb9)
  have E9 := Hid.mk' (E8.out.later hb9)
  have HW9 := Hid.mk' (HW8.out.trans (hb9.mono HW8.out.size))
  clear ho9 hs9 hb9 V8 Z8 E8 D8 HW8
  go_wp2_with fail
  refine (equal_is p4 p9 m4 k4 (n1 + m5) k9 ds (ds ++ []) _ (by omega) (by omega) E9.out C9.out (show (ds : List Int) = ds ++ [] from by simp)).mono ?_
  rintro e w10 ⟨rfl, hb10⟩
  have V10 := Hid.mk' (V9.out.later hb10)
  have HW10 := Hid.mk' (HW9.out.trans (hb10.mono HW9.out.size))
  clear hb10 V9 E9 C9 HW9
  have hcv : (convert 22 9 (.slice p6 m6 k6)).run Try.prog w10 = .ok (.string (strOfNums (valOf xs))) w10 := str_is V10.out
  go_wp2_with fail
  go_ret
  exact ⟨by simp, HW10.out⟩

end Go.Proofs.Qxb6003622a.Fld
