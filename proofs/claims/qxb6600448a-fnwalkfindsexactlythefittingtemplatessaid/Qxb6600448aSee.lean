/- Seat b6600448a: how a slice of strings is seen; zzFitsTemplate. -/
import Derived.Test.Qxb6600448aPlain
import Derived.WalkKit
import Derived.WalkSpells
import Derived.OpenShut
import Derived.BigQuiet
import Derived.Lib.Strings
namespace Go.Proofs.Qxb6600448a.Tr
open Go.RowKit
set_option linter.unusedVariables false

theorem Hid.mk' {p : Prop} (h : p) : Hid p := h
def txt (s : ByteArray) : Txt := s.data.toList
def txts (xs : List ByteArray) : List Txt := xs.map txt
def mt : ByteArray := ⟨#[]⟩

/-- the slice (p, n, c) holds the strings xs in w. -/
structure SeeS (w : World) (p : Option Addr) (n c : Nat) (xs : List ByteArray) : Prop where
  len : xs.length = n
  room : n ≤ c
  bare : p = none → c = 0
  cells : 0 < n → ∃ b o, p = some ⟨b, o, none⟩ ∧ ∀ i, i < n → w.cell? ⟨b, o + i, none⟩ = some (.string (xs.getD i mt))

theorem SeeS.below {w w' : World} {B : Nat} {p : Option Addr} {n c : Nat} {xs : List ByteArray} (h : SeeS w p n c xs) (hb : Below B w w') (hB : ∀ b o, p = some ⟨b, o, none⟩ → 0 < n → b < B) : SeeS w' p n c xs := by
  refine ⟨h.len, h.room, h.bare, fun hn => ?_⟩
  obtain ⟨b, o, hp, hc⟩ := h.cells hn
  refine ⟨b, o, hp, fun i hi => ?_⟩
  rw [hb.cell (p := ⟨b, o + i, none⟩) (hB b o hp hn)]
  exact hc i hi
theorem SeeS.lt {w : World} {p : Option Addr} {n c : Nat} {xs : List ByteArray} (h : SeeS w p n c xs) : ∀ b o, p = some ⟨b, o, none⟩ → 0 < n → b < w.heap.size := by
  intro b o hp hn
  obtain ⟨b', o', hp', hc⟩ := h.cells hn
  rw [hp] at hp'
  simp only [Option.some.injEq, Addr.mk.injEq, and_true] at hp'
  obtain ⟨rfl, rfl⟩ := hp'
  exact World.block_lt_of_cell? w ⟨b, o + 0, none⟩ (hc 0 hn)
theorem SeeS.later {w w' : World} {p : Option Addr} {n c : Nat} {xs : List ByteArray} (h : SeeS w p n c xs) (hb : Below w.heap.size w w') : SeeS w' p n c xs := h.below hb h.lt

theorem txts_getD (xs : List ByteArray) (k : Nat) : (txts xs).getD k [] = txt (xs.getD k mt) := by
  unfold txts
  rw [List.getD_eq_getElem?_getD, List.getElem?_map, List.getD_eq_getElem?_getD]
  cases xs[k]? <;> rfl
theorem txts_length (xs : List ByteArray) : (txts xs).length = xs.length := by simp [txts]

theorem allOk_succ (t ps : List Txt) (k : Nat) : allOk t ps (k + 1) = (allOk t ps k && segOk (t.getD k []) (ps.getD k [])) := by
  unfold allOk
  rw [List.range_succ, List.all_append]
  simp
theorem allOk_false {t ps : List Txt} {k n : Nat} (hk : k < n) (h : segOk (t.getD k []) (ps.getD k []) = false) : allOk t ps n = false := by
  unfold allOk
  rw [List.all_eq_false]
  exact ⟨k, by simpa using hk, by rw [h]; decide⟩

theorem below_drewN (w : World) (q : Nat) : Below w.heap.size w (w.drewN q) := ⟨rfl, rfl, rfl, Nat.le_refl _, fun _ _ => rfl⟩
theorem below_dr {B : Nat} {a w : World} (h : Below B a w) (q : Nat) : Below B a (w.drewN q) := ⟨h.os, h.tape, h.output, h.size, h.block⟩

/-- the loop of zzFitsTemplate, from a frame in which 'fixed' is F. -/
def FitsPost (w : World) (v : Bool) (e : Ending) (w' : World) : Prop := e = .returned (.bool v) ∧ Below w.heap.size w w'

theorem seg_star {x y : ByteArray} (hx : (x.toList == [42]) = true) : segOk (txt x) (txt y) = !(y.toList.isEmpty) := by
  rw [Lib.toList_data] at hx ⊢
  have : txt x = [42] := by simpa [txt] using hx
  unfold segOk
  rw [if_pos this]
  unfold txt
  cases y.data.toList <;> rfl
theorem seg_same {x y : ByteArray} (hx : (x.toList == [42]) = false) : segOk (txt x) (txt y) = (x.toList == y.toList) := by
  rw [Lib.toList_data] at hx ⊢
  rw [Lib.toList_data]
  have : ¬ txt x = [42] := by simpa [txt] using hx
  unfold segOk
  rw [if_neg this]
  rfl

end Go.Proofs.Qxb6600448a.Tr
