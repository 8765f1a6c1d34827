/- Seat b6003622a: zzParseField. -/
import Derived.Test.Qxb6003622aCat
namespace Go.Proofs.Qxb6003622a.Fld
open Go.RowKit
set_option linter.unusedVariables false

/-- the field line, plainly. -/
def nameOf (l : List Int) : List Int := l.takeWhile (fun x => x != 58)
def rawOf (l : List Int) : List Int := l.drop ((nameOf l).length + 1)
def valOf (l : List Int) : List Int := if (rawOf l).head? = some 32 then (rawOf l).drop 1 else rawOf l
def dataS : ByteArray := ⟨#[100, 97, 116, 97]⟩
def eventS : ByteArray := ⟨#[101, 118, 101, 110, 116]⟩
def kindOf (l : List Int) : Int := if nameOf l == nums dataS then 1 else if nameOf l == nums eventS then 2 else 0

theorem tw_at : ∀ (xs : List Int) (k : Nat), k < xs.length → (∀ i, i < k → xs.getD i 0 ≠ 58) → xs.getD k 0 = 58 → xs.takeWhile (fun x => x != 58) = xs.take k
  | [], k, h, _, _ => by simp at h
  | x :: xs, 0, _, _, h => by simp [List.getD] at h; subst h; simp [List.takeWhile]
  | x :: xs, k + 1, h, hb, he => by
    have hx : x ≠ 58 := by have := hb 0 (by omega); simpa [List.getD] using this
    have ih := tw_at xs k (by simpa using h) (fun i hi => by have := hb (i + 1) (by omega); simpa [List.getD] using this) (by simpa [List.getD] using he)
    have hx' : (x != 58) = true := by simpa using hx
    rw [List.takeWhile_cons, if_pos hx', ih]; rfl
theorem tw_no : ∀ (xs : List Int), (∀ i, i < xs.length → xs.getD i 0 ≠ 58) → xs.takeWhile (fun x => x != 58) = xs
  | [], _ => rfl
  | x :: xs, hb => by
    have hx : x ≠ 58 := by have := hb 0 (by simp); simpa [List.getD] using this
    have ih := tw_no xs (fun i hi => by have := hb (i + 1) (by simp; omega); simpa [List.getD] using this)
    have hx' : (x != 58) = true := by simpa using hx
    rw [List.takeWhile_cons, if_pos hx', ih]

theorem name_at {xs : List Int} {k : Nat} (hk : k < xs.length) (hb : ∀ i, i < k → xs.getD i 0 ≠ 58) (he : xs.getD k 0 = 58) : nameOf xs = xs.take k ∧ rawOf xs = xs.drop (k + 1) := by
  have e := tw_at xs k hk hb he
  refine ⟨e, ?_⟩
  unfold rawOf nameOf
  rw [e, List.length_take, Nat.min_eq_left (by omega)]
theorem name_no {xs : List Int} (hb : ∀ i, i < xs.length → xs.getD i 0 ≠ 58) : nameOf xs = xs ∧ valOf xs = [] := by
  have e := tw_no xs hb
  refine ⟨e, ?_⟩
  have r : rawOf xs = [] := by unfold rawOf nameOf; rw [e]; simp
  unfold valOf; rw [r]; rfl

/-- a piece of what is seen. -/
theorem See.piece {w : World} {b o n c : Nat} {xs : List Int} (h : See w (some ⟨b, o, none⟩) n c xs) (a m : Nat) (ham : a + m ≤ n) (c' : Nat) (hc : m ≤ c') : See w (some ⟨b, o + a, none⟩) m c' ((xs.drop a).take m) := by
  have hl := h.len
  refine ⟨by simp; omega, hc, (fun h => by cases h), fun hm => ⟨b, o + a, rfl, fun i hi => ?_⟩, fun x hx => h.range x (List.mem_of_mem_drop (List.mem_of_mem_take hx))⟩
  obtain ⟨b', o', hp, hcell⟩ := h.cells (by omega)
  simp only [Option.some.injEq, Addr.mk.injEq, and_true] at hp
  obtain ⟨rfl, rfl⟩ := hp
  have := hcell (a + i) (by omega)
  rw [show o + a + i = o + (a + i) from by omega, this]
  congr 2
  simp only [List.getD, List.getElem?_take, List.getElem?_drop]
  rw [if_pos hi]
theorem See.none_of {w : World} {p : Option Addr} {c : Nat} (hp : p ≠ none) : See w p 0 c [] :=
  ⟨rfl, Nat.zero_le _, fun h => absurd h hp, fun h => absurd h (Nat.lt_irrefl _), fun x hx => by cases hx⟩

theorem equalS_is (p : Option Addr) (n c : Nat) (xs : List Int) (s : ByteArray) (w : World) (v : Bool) (hn : n ≤ 2097152) (hs : s.size ≤ 2097152) (h1 : See w p n c xs) (hv : Hid ((xs == nums s) = v)) :
    Calls Try.prog 14 #[.slice p n c, .string s] w fun e w' => e = .returned (.bool v) ∧ Below w.heap.size w w' := by
  have h := equalS_any p n c xs s w hn hs h1
  rw [hv.out] at h; exact h

/-- how zzParseField ends. -/
def ParseEnd (w' : World) (xs : List Int) (e : Ending) : Prop := ∃ p n c, e = .returned (.tuple #[.int .i64 (kindOf xs), .slice p n c]) ∧ n ≤ xs.length ∧ See w' p n c (valOf xs)

theorem kind_d {xs : List Int} (h : (nameOf xs == nums dataS) = true) : kindOf xs = 1 := by unfold kindOf; rw [if_pos h]
theorem kind_e {xs : List Int} (h : (nameOf xs == nums dataS) = false) (h2 : (nameOf xs == nums eventS) = true) : kindOf xs = 2 := by unfold kindOf; rw [if_neg (by rw [h]; simp), if_pos h2]
theorem kind_o {xs : List Int} (h : (nameOf xs == nums dataS) = false) (h2 : (nameOf xs == nums eventS) = false) : kindOf xs = 0 := by unfold kindOf; rw [if_neg (by rw [h]; simp), if_neg (by rw [h2]; simp)]

theorem parse_end {w' : World} {xs : List Int} {p : Option Addr} {n c : Nat} {k : Int} (hk : kindOf xs = k) (hn : n ≤ xs.length) (hs : See w' p n c (valOf xs)) : ParseEnd w' xs (.returned (.tuple #[.int .i64 k, .slice p n c])) := ⟨p, n, c, by rw [hk], hn, hs⟩

end Go.Proofs.Qxb6003622a.Fld
