/- Seat b6003622a: (*eventParser).field. -/
import Derived.Test.Qxb6003622aLib
import Derived.Lib.SlBytesConst
import Derived.Laws.AppendOwnNone
import Derived.OneCell
namespace Go.Proofs.Qxb6003622a.Fld
open Go.RowKit
set_option linter.unusedVariables false

theorem trim_b (p : Option Addr) (n c b2 o2 d : Nat) (xs : List Int) (w : World) (hs : See w p n c xs) (hc2 : w.cell? ⟨b2, o2, none⟩ = some (.int .u8 32)) :
    Calls Try.prog 17 #[.slice p n c, .slice (some ⟨b2, o2, none⟩) 1 d] w fun e w' => TrimEnd w' xs e ∧ Below w.heap.size w w' := by
  refine (trim_is p n c b2 o2 d xs w hs hc2).mono ?_
  rintro e w' ⟨h, rfl⟩
  exact ⟨h, Below.refl _ _⟩

theorem colon_cell (w : World) (x : Int) : (w.alloc (.cells #[Value.int .u8 x] 5 (1, 2))).cell? ⟨w.heap.size, 0, none⟩ = some (.int .u8 x) := by rw [World.cell?_alloc_mark]; rfl
theorem mark_below (w : World) (x : Int) : Below w.heap.size w (w.alloc (.cells #[Value.int .u8 x] 5 (1, 2))) := (Below.refl _ w).alloc (Nat.le_refl _) _

/-- the parser's struct, as far as field needs it. -/
structure Held (w : World) (sb : Nat) (et : ByteArray) (vd : Value) : Prop where
  obj : ∃ cs fr, w.heap[sb]? = some (.cells cs 37 fr)
  c5 : w.cell? ⟨sb, 5, none⟩ = some (.string et)
  c6 : w.cell? ⟨sb, 6, none⟩ = some vd
  f5 : w.frozen? ⟨sb, 5, none⟩ = false
  f6 : w.frozen? ⟨sb, 6, none⟩ = false

theorem Held.lt {w : World} {sb : Nat} {et : ByteArray} {vd : Value} (h : Held w sb et vd) : sb < w.heap.size := World.block_lt_of_cell? w ⟨sb, 5, none⟩ h.c5
theorem Held.same {w w' : World} {sb : Nat} {et : ByteArray} {vd : Value} (h : Held w sb et vd) (hb : w'.heap[sb]? = w.heap[sb]?) : Held w' sb et vd :=
  ⟨by rw [hb]; exact h.obj, by rw [World.cell?_of_block (a := ⟨sb, 5, none⟩) hb]; exact h.c5, by rw [World.cell?_of_block (a := ⟨sb, 6, none⟩) hb]; exact h.c6, by rw [World.frozen?_of_block (a := ⟨sb, 5, none⟩) hb]; exact h.f5, by rw [World.frozen?_of_block (a := ⟨sb, 6, none⟩) hb]; exact h.f6⟩
theorem Held.later {w w' : World} {sb : Nat} {et : ByteArray} {vd : Value} (h : Held w sb et vd) (hb : Below w.heap.size w w') : Held w' sb et vd := h.same (hb.block sb h.lt)
theorem Held.grown {w w' : World} {sb : Nat} {et : ByteArray} {vd : Value} {row : Option Nat} (h : Held w sb et vd) (hg : w.grownBy w' row) (hne : row ≠ some sb) : Held w' sb et vd := h.same (hg.block sb h.lt (Ne.symm hne))
theorem Held.notRow {w : World} {sb : Nat} {et : ByteArray} {vd v : Value} {B n : Nat} {xs : List Value} (h : Held w sb et vd) (ho : w.ownsRow B 5 1 v n xs) : v.ownBlock ≠ some sb := by
  rcases ho.2 with ⟨rfl, _⟩ | ⟨g, cap, cur, rfl, hb, hg, _⟩
  · simp [Value.ownBlock]
  · intro e
    simp only [Value.ownBlock, Option.some.injEq] at e
    subst e
    obtain ⟨cs, fr, ho'⟩ := h.obj
    rw [ho'] at hg
    simp at hg

theorem own_later {w w' : World} {B n : Nat} {v : Value} {xs : List Value} (h : w.ownsRow B 5 1 v n xs) (hb : Below w.heap.size w w') : w'.ownsRow B 5 1 v n xs := by
  have hg : w.grownBy w' none := ⟨hb.os, hb.tape, hb.output, hb.size, fun k hk _ => hb.block k hk⟩
  refine h.kept hg ?_
  by_cases e : v.ownBlock = none
  · exact .inl e
  · exact .inr e

def etOf (xs : List Int) (et : ByteArray) : ByteArray := if kindOf xs = 2 then strOfNums (valOf xs) else et
def dsOf (xs ds : List Int) : List Int := if kindOf xs = 1 then ds ++ (valOf xs ++ [10]) else ds
def FieldEnd (w' : World) (sb B : Nat) (et : ByteArray) (ds xs : List Int) : Prop :=
  ∃ vd n, w'.cell? ⟨sb, 5, none⟩ = some (.string (etOf xs et)) ∧ w'.cell? ⟨sb, 6, none⟩ = some vd ∧ w'.ownsRow B 5 1 vd n ((dsOf xs ds).map (Value.int .u8))

theorem nm_is {xs : List Int} (h : ∀ x ∈ xs, 0 ≤ x ∧ x < 256) {nm : ByteArray} (hn : strOfNums xs = nm) (s : ByteArray) {b : Bool} (hb : (xs == nums s) = b) : (nm.toList == s.data.toList) = b := by
  rw [Lib.toList_data, ← hb, Bool.eq_iff_iff, ← str_eq h s, beq_iff_eq, Array.toList_inj]
  constructor
  · intro e; rw [hn]; exact ByteArray.ext e
  · intro e; rw [← hn, e]

theorem news_map {w : World} {ad : Addr} {n c : Nat} {xs : List Int} (h : See w (some ad) n c xs) : ∀ j u, (xs.map (Value.int .u8))[j]? = some u → w.cell? (ad.add j) = some u := by
  intro j u hj
  have hjl : j < xs.length := by
    rcases Nat.lt_or_ge j xs.length with h1 | h1
    · exact h1
    · rw [List.getElem?_eq_none (by simpa using h1)] at hj; cases hj
  obtain ⟨b, o, hp, hc⟩ := h.cells (by have := h.len; omega)
  simp only [Option.some.injEq] at hp
  subst hp
  rw [Go.WideShapes.add_plain, hc j (by have := h.len; omega)]
  rw [List.getElem?_map, List.getElem?_eq_getElem hjl] at hj
  simp only [Option.map_some, Option.some.injEq] at hj
  rw [← hj]
  simp [List.getD, List.getElem?_eq_getElem hjl]
theorem own_form {w : World} {B n : Nat} {v : Value} {xs : List Value} (h : w.ownsRow B 5 1 v n xs) : ∃ p c, v = .slice p n c := by
  rcases h.2 with ⟨rfl, rfl⟩ | ⟨g, cap, cur, rfl, _⟩
  · exact ⟨_, _, rfl⟩
  · exact ⟨_, _, rfl⟩
theorem one_cells (xs : List Int) : ∀ u ∈ xs.map (Value.int .u8), u.oneCell' = true := by
  intro u hu
  simp only [List.mem_map] at hu
  obtain ⟨x, _, rfl⟩ := hu
  rfl

theorem Held.ev {w2 : World} {sb : Nat} {et : ByteArray} {vd : Value} {B nd : Nat} {ds xs : List Int} (h : Held w2 sb et vd) (ho : w2.ownsRow B 5 1 vd nd (ds.map (Value.int .u8))) (hk : kindOf xs = 2) :
    FieldEnd (w2.setCell ⟨sb, 5, none⟩ (.string (strOfNums (valOf xs)))) sb B et ds xs := by
  refine ⟨vd, nd, ?_, ?_, ?_⟩
  · unfold etOf; rw [if_pos hk]; exact World.cell?_setCell_same _ _ _ h.c5
  · rw [World.cell?_setCell_other _ _ _ _ (by simp)]; exact h.c6
  · unfold dsOf; rw [if_neg (by omega)]; exact ownsRow_setCell_other ho (a := ⟨sb, 5, none⟩) (h.notRow ho) _
theorem Held.oth {w2 : World} {sb : Nat} {et : ByteArray} {vd : Value} {B nd : Nat} {ds xs : List Int} (h : Held w2 sb et vd) (ho : w2.ownsRow B 5 1 vd nd (ds.map (Value.int .u8))) (hk : kindOf xs = 0) :
    FieldEnd w2 sb B et ds xs := by
  refine ⟨vd, nd, ?_, h.c6, ?_⟩
  · unfold etOf; rw [if_neg (by omega)]; exact h.c5
  · unfold dsOf; rw [if_neg (by omega)]; exact ho
theorem Held.da {w4 : World} {sb : Nat} {et : ByteArray} {vd v2 : Value} {B nd : Nat} {ds xs : List Int} (h : Held w4 sb et vd) (ho : w4.ownsRow B 5 1 v2 nd ((ds.map (Value.int .u8) ++ (valOf xs).map (Value.int .u8)) ++ [Value.int .u8 10])) (hk : kindOf xs = 1) :
    FieldEnd (w4.setCell ⟨sb, 6, none⟩ v2) sb B et ds xs := by
  refine ⟨v2, nd, ?_, World.cell?_setCell_same _ _ _ h.c6, ?_⟩
  · unfold etOf; rw [if_neg (by omega), World.cell?_setCell_other _ _ _ _ (by simp)]; exact h.c5
  · unfold dsOf; rw [if_pos hk]
    have := ownsRow_setCell_other ho (a := ⟨sb, 6, none⟩) (h.notRow ho) v2
    simpa using this

theorem Hid.mk' {p : Prop} (h : p) : Hid p := h
theorem da_held0 {w2 w4 : World} {sb : Nat} {et : ByteArray} {vd v : Value} {B n : Nat} {xs : List Value} {o : Obj} (h : Held w2 sb et vd) (ho : w2.ownsRow B 5 1 v n xs) (hg : (w2.alloc o).grownBy w4 v.ownBlock) : Hid (Held w4 sb et vd) :=
  (h.later ((Below.refl _ w2).alloc (Nat.le_refl _) o)).grown hg (h.notRow ho)
theorem da_below0 {w w2 w4 : World} {B n : Nat} {v : Value} {xs : List Value} {o : Obj} (h : Below B w w2) (hB : B ≤ w2.heap.size) (ho : w2.ownsRow B 5 1 v n xs) (hg : (w2.alloc o).grownBy w4 v.ownBlock) : Hid (Below B w w4) :=
  (h.alloc hB o).grown hg (Nat.le_trans hB ((Below.refl B w2).alloc hB o).size) (own_ge ho)

def FieldPost (w : World) (sb B : Nat) (et : ByteArray) (ds xs : List Int) (e : Ending) (w' : World) : Prop := e = .returned (.tuple #[]) ∧ FieldEnd w' sb B et ds xs ∧ Below B w w'

set_option maxHeartbeats 2000000 in
theorem field_any (sb B : Nat) (et : ByteArray) (vd : Value) (nd : Nat) (ds : List Int) (p : Option Addr) (n c : Nat) (xs : List Int) (w : World) (hn : n ≤ 1048576) (hnd : nd ≤ 1048576) (HS : Hid (See w p n c xs))
    (hB : B ≤ sb) (HH : Hid (Held w sb et vd)) (HO : Hid (w.ownsRow B 5 1 vd nd (ds.map (Value.int .u8)))) :
    Calls Try.prog 13 #[.pointer (some ⟨sb, 0, none⟩), .slice p n c] w (FieldPost w sb B et ds xs) := by
  obtain ⟨i0, hi, hz0, hz1, hz2⟩ := info_parts info5
  have kc := fun (w : World) (C : Array Value) (n c : Nat) => Lib.run_convert_bytes_const (P := Try.prog) w 22 5 C n c Try.underlying22 Try.underlying5
  have LX : Hid (xs.length = n) := HS.out.len
  have hsl := HH.out.lt
  go_enter Try.func13, Try.ntmps13
  go_wp2_with fail
  refine (cut_is p n c w.heap.size 0 1 xs _ hn (HS.out.later (mark_below w 58)) (colon_cell w 58)).mono ?_
  rintro e w1 ⟨⟨p1, n1, c1, p2, n2, c2, f, rfl, hl1, hl2, hs1, hs2⟩, hb1⟩
  have HS1 : Hid (See w1 p1 n1 c1 (nameOf xs)) := hs1
  have HS2 : Hid (See w1 p2 n2 c2 (rawOf xs)) := hs2
  have HB1 : Hid (Below w.heap.size w w1) := (mark_below w 58).trans (hb1.mono (mark_below w 58).size)
  clear hs1 hs2 hb1
  go_wp2_with fail
  refine (trim_b p2 n2 c2 w1.heap.size 0 1 (rawOf xs) _ (HS2.out.later (mark_below w1 32)) (colon_cell w1 32)).mono ?_
  rintro e w2 ⟨⟨p3, n3, c3, rfl, hl3, hs3⟩, hb2⟩
  have HB2 : Hid (Below w1.heap.size w1 w2) := (mark_below w1 32).trans (hb2.mono (mark_below w1 32).size)
  have HS3 : Hid (See w2 p3 n3 c3 (valOf xs)) := hs3
  have hl3' : n3 ≤ 1048576 := by have := HS2.out.len; have := LX.out; omega
  clear hs3 hb2 hl3
  have HB : Hid (Below w.heap.size w w2) := HB1.out.trans (HB2.out.mono HB1.out.size)
  have HH2 : Hid (Held w2 sb et vd) := HH.out.later HB.out
  have HO2 : Hid (w2.ownsRow B 5 1 vd nd (ds.map (Value.int .u8))) := own_later HO.out HB.out
  have HBB : Hid (Below B w w2) := HB.out.mono (by omega)
  have hsz2 := HB.out.size
  have q5 := HH2.out.c5
  have q6 := HH2.out.c6
  have g5 := HH2.out.f5
  have g6 := HH2.out.f6
  obtain ⟨nm, HNM⟩ : ∃ nm, Hid (strOfNums (nameOf xs) = nm) := ⟨_, rfl⟩
  have hcn : (convert 22 9 (.slice p1 n1 c1)).run Try.prog w2 = .ok (.string nm) w2 := by rw [← HNM.out]; exact str_is (HS1.out.later HB2.out)
  rcases hD : (nameOf xs == nums dataS) with _ | _
  · have hk1 : (nm.toList == [100, 97, 116, 97]) = false := nm_is HS1.out.range HNM.out dataS hD
    rcases hE : (nameOf xs == nums eventS) with _ | _
    · have hk2 : (nm.toList == [101, 118, 101, 110, 116]) = false := nm_is HS1.out.range HNM.out eventS hE
      have hk : Hid (kindOf xs = 0) := kind_o hD hE
      clear hD hE q5 q6 g5 g6
      go_wp2_with fail
      go_end0
      exact ⟨rfl, HH2.out.oth HO2.out hk.out, HBB.out⟩
    · have hk2 : (nm.toList == [101, 118, 101, 110, 116]) = true := nm_is HS1.out.range HNM.out eventS hE
      have hk : Hid (kindOf xs = 2) := kind_e hD hE
      have hce : (convert 22 9 (.slice p3 n3 c3)).run Try.prog w2 = .ok (.string (strOfNums (valOf xs))) w2 := str_is HS3.out
      clear hD hE
      go_wp2_with fail
      go_end0
      exact ⟨rfl, HH2.out.ev HO2.out hk.out, HBB.out.setCell hB _⟩
  · have hk1 : (nm.toList == [100, 97, 116, 97]) = true := nm_is HS1.out.range HNM.out dataS hD
    have hk2 : (nm.toList == [101, 118, 101, 110, 116]) = false := by
      have : nameOf xs = nums dataS := by simpa using hD
      exact nm_is HS1.out.range HNM.out eventS (by rw [this]; decide)
    have hk : Hid (kindOf xs = 1) := kind_d hD
    obtain ⟨pv, cv, rfl⟩ := own_form HO.out
    clear hD q5 g5
    cases p3 with
    | none =>
      obtain rfl : c3 = 0 := HS3.out.bare rfl
      obtain rfl : n3 = 0 := by have := HS3.out.room; omega
      have HV : Hid (valOf xs = []) := List.eq_nil_of_length_eq_zero HS3.out.len
      have hsB : B ≤ w2.heap.size := by omega
      go_wp2_with (at_builtin; first | (refine wpList_append_own_none rfl _ _ 22 rfl B 5 i0 1 Try.underlying22 hi _ nd _ rfl HO2.out rfl ?_) | (refine wpList_append_own _ rfl _ _ 22 rfl B 5 i0 (.int .u8 0) 1 1 Try.underlying22 hi hz0 hz1 hz2 rfl (by decide) _ _ _ rfl (HO2.out.alloc _) ⟨w2.heap.size, 0, none⟩ 1 1 [.int .u8 10] rfl rfl (cell_one_new _ _ _) (one_cell 10) (by unfold maxLen; omega) (by omega) (by simp; omega) ?_; intro v2 w4 hown2 hgrow2 _; obtain ⟨pv2, cv2, rfl⟩ := own_form hown2; have HH4 : Hid (Held w4 sb et (.slice pv nd cv)) := da_held0 HH2.out HO2.out hgrow2; have q8 := HH4.out.c6; have g8 := HH4.out.f6; have HB4 : Hid (Below B w w4) := da_below0 HBB.out hsB HO2.out hgrow2; have HO4 := Hid.mk' hown2; clear hown2 hgrow2))
      go_end0
      exact ⟨rfl, HH4.out.da (by have := HO4.out; rw [HV.out]; simpa using this) hk.out, HB4.out.setCell hB _⟩
    | some ad =>
      have hsB : B ≤ w2.heap.size := by omega
      go_wp2_with (at_builtin; first | (refine wpList_append_own _ rfl _ _ 22 rfl B 5 i0 (.int .u8 0) 1 1 Try.underlying22 hi hz0 hz1 hz2 rfl (by decide) _ nd _ rfl HO2.out ad n3 c3 ((valOf xs).map (Value.int .u8)) rfl (by simp [HS3.out.len]) (news_map HS3.out) (one_cells _) (by unfold maxLen; omega) (by omega) (by omega) ?_; intro v1 w3 hown1 hgrow1 _; have HO3 := Hid.mk' hown1; have HG3 := Hid.mk' hgrow1; clear hown1 hgrow1) | (refine wpList_append_own _ rfl _ _ 22 rfl B 5 i0 (.int .u8 0) 1 1 Try.underlying22 hi hz0 hz1 hz2 rfl (by decide) _ _ _ rfl (HO3.out.alloc _) ⟨w3.heap.size, 0, none⟩ 1 1 [.int .u8 10] rfl rfl (cell_one_new _ _ _) (one_cell 10) (by unfold maxLen; omega) (by omega) (by have := HG3.out.size; simp; omega) ?_; intro v2 w4 hown2 hgrow2 _; obtain ⟨pv2, cv2, rfl⟩ := own_form hown2; have HH4 : Hid (Held w4 sb et (.slice pv nd cv)) := da_held0 (HH2.out.grown HG3.out (HH2.out.notRow HO2.out)) HO3.out hgrow2; have q8 := HH4.out.c6; have g8 := HH4.out.f6; have HB4 : Hid (Below B w w4) := da_below0 (HBB.out.grown HG3.out hsB (own_ge HO2.out)) (Nat.le_trans hsB HG3.out.size) HO3.out hgrow2; have HO4 := Hid.mk' hown2; clear hown2 hgrow2))
      go_end0
      exact ⟨rfl, HH4.out.da HO4.out hk.out, HB4.out.setCell hB _⟩

end Go.Proofs.Qxb6003622a.Fld
