/- Seat b6003622a: bytes.Cut at a colon, bytes.TrimPrefix at a blank, string(b). -/
import Derived.Test.Qxb6003622aParse2
import Derived.Test.Qxb6003622aShelf
import Derived.Lib.IndexLaws
namespace Go.Proofs.Qxb6003622a.Fld
open Go.RowKit
set_option linter.unusedVariables false

theorem u8_is {x : Int} (h : 0 ≤ x ∧ x < 256) (k : Nat) (hk : k < 256) : (UInt8.ofNat x.toNat == UInt8.ofNat k) = (x == (k : Int)) := by
  rw [Bool.eq_iff_iff, beq_iff_eq, beq_iff_eq, ← UInt8.toNat_inj, UInt8.toNat_ofNat', UInt8.toNat_ofNat']
  omega

theorem idx_of : ∀ xs : List Int, (∀ x ∈ xs, 0 ≤ x ∧ x < 256) →
    (∃ k : Nat, k < xs.length ∧ (∀ i, i < k → xs.getD i 0 ≠ 58) ∧ xs.getD k 0 = 58 ∧ Lib.indexByte (Lib.bytesOf xs) 58 = (k : Int)) ∨ ((∀ i, i < xs.length → xs.getD i 0 ≠ 58) ∧ Lib.indexByte (Lib.bytesOf xs) 58 = -1)
  | [], _ => .inr ⟨fun i hi => by simp at hi, rfl⟩
  | x :: xs, hr => by
    have hx := u8_is (hr x (by simp)) 58 (by omega)
    have eI : Lib.indexByte (Lib.bytesOf (x :: xs)) 58 = if (x == 58) = true then 0 else if (Lib.indexByte (Lib.bytesOf xs) 58 == -1) = true then -1 else Lib.indexByte (Lib.bytesOf xs) 58 + 1 := by
      show (if (UInt8.ofNat x.toNat == 58) = true then (0 : Int) else _) = _
      have : (UInt8.ofNat x.toNat == 58) = (x == 58) := hx
      rw [this]; rfl
    by_cases h : x = 58
    · left
      exact ⟨0, by simp, fun i hi => by omega, by simpa [List.getD] using h, by rw [eI, if_pos (by simpa using h)]; rfl⟩
    · have hf : ¬ (x == 58) = true := by simpa using h
      rcases idx_of xs (fun y hy => hr y (by simp [hy])) with ⟨k, hk, hb, he, hi⟩ | ⟨hb, hi⟩
      · left
        refine ⟨k + 1, by simpa using hk, fun i hi' => ?_, by simpa [List.getD] using he, ?_⟩
        · cases i with
          | zero => simpa [List.getD] using h
          | succ i => have := hb i (by omega); simpa [List.getD] using this
        · rw [eI, if_neg hf, hi, if_neg (by rw [beq_iff_eq]; omega)]; rfl
      · right
        refine ⟨fun i hi' => ?_, by rw [eI, if_neg hf, hi]; rfl⟩
        cases i with
        | zero => simpa [List.getD] using h
        | succ i => have := hb i (by simpa using hi'); simpa [List.getD] using this

def CutEnd (w' : World) (xs : List Int) (e : Ending) : Prop := ∃ p1 n1 c1 p2 n2 c2 f, e = .returned (.tuple #[.slice p1 n1 c1, .slice p2 n2 c2, .bool f]) ∧ n1 ≤ xs.length ∧ n2 ≤ xs.length ∧ See w' p1 n1 c1 (nameOf xs) ∧ See w' p2 n2 c2 (rawOf xs)

theorem below_drewN (w : World) (q : Nat) : Below w.heap.size w (w.drewN q) := ⟨rfl, rfl, rfl, Nat.le_refl _, fun _ _ => rfl⟩

theorem idx_calls (p : Option Addr) (n c b2 o2 d : Nat) (xs : List Int) (w : World) (hs : See w p n c xs) (hc2 : w.cell? ⟨b2, o2, none⟩ = some (.int .u8 58)) :
    Calls Try.prog 18 #[.slice p n c, .slice (some ⟨b2, o2, none⟩) 1 d] w fun e w' => e = .returned (.int .i64 (Lib.indexByte (Lib.bytesOf xs) 58)) ∧ ∃ q, w' = w.drewN q := by
  cases p with
  | none =>
    have hc0 := hs.bare rfl
    have hn0 : n = 0 := by have := hs.room; omega
    subst hc0; subst hn0
    have : xs = [] := List.eq_nil_of_length_eq_zero hs.len
    subst this
    refine (Try.bytes_Index_one_nil b2 o2 d 58 w hc2).mono ?_
    rintro e w' ⟨rfl, rfl⟩
    exact ⟨rfl, 0, rfl⟩
  | some a =>
    refine (Try.bytes_Index_one_at a n c b2 o2 d xs 58 w hs.len (fun i hi => ?_) hc2).mono ?_
    · obtain ⟨b, o, hp, hc⟩ := hs.cells (by omega)
      simp only [Option.some.injEq] at hp
      subst hp
      rw [Go.WideShapes.add_plain]; exact hc i hi
    · rintro e w' ⟨rfl, rfl⟩
      exact ⟨rfl, 0, rfl⟩

theorem cut_is (p : Option Addr) (n c b2 o2 d : Nat) (xs : List Int) (w : World) (hn : n ≤ 1048576) (hs : See w p n c xs) (hc2 : w.cell? ⟨b2, o2, none⟩ = some (.int .u8 58)) :
    Calls Try.prog 16 #[.slice p n c, .slice (some ⟨b2, o2, none⟩) 1 d] w fun e w' => CutEnd w' xs e ∧ Below w.heap.size w w' := by
  have hidx := idx_calls p n c b2 o2 d xs w hs hc2
  have hl := hs.len
  have hr := hs.room
  rcases idx_of xs hs.range with ⟨k, hk, hb, he, hi⟩ | ⟨hb, hi⟩
  · rw [hi] at hidx
    refine (Try.bytes_Cut_of p _ n c 1 d (k : Int) w hs.room (by omega) (by omega) (by omega) hidx).mono ?_
    rintro e w' ⟨rfl, q, rfl⟩
    have bel := below_drewN w q
    obtain ⟨b, o, rfl, hc⟩ := hs.cells (by omega)
    obtain ⟨hA, hR⟩ := name_at hk hb he
    refine ⟨?_, bel⟩
    unfold Lib.cutV Lib.fromV
    rw [if_pos (by omega)]
    refine ⟨_, _, _, _, _, _, _, rfl, by simp; omega, by omega, ?_, ?_⟩
    · rw [hA]
      have := (hs.piece 0 k (by omega) c (by omega)).later bel
      simpa using this
    · rw [hR]
      by_cases hck : c = k + 1
      · rw [List.drop_of_length_le (by omega)]
        have e0 : n - ((k : Int).toNat + 1) = 0 := by simp; omega
        rw [e0, if_pos (by simpa using hck)]
        exact See.none_of (by simp)
      · have := (hs.piece (k + 1) (n - (k + 1)) (by omega) (c - (k + 1)) (by omega)).later bel
        rw [List.take_of_length_le (by rw [List.length_drop]; omega)] at this
        rw [if_neg (by simpa using hck)]
        simpa [Addr.add] using this
  · rw [hi] at hidx
    refine (Try.bytes_Cut_of p _ n c 1 d (-1) w hs.room (by omega) (by omega) (by omega) hidx).mono ?_
    rintro e w' ⟨rfl, q, rfl⟩
    have bel := below_drewN w q
    have hA := (name_no hb).1
    have hR : rawOf xs = [] := by unfold rawOf; rw [hA]; simp
    refine ⟨?_, bel⟩
    unfold Lib.cutV
    rw [if_neg (by omega)]
    exact ⟨_, _, _, _, _, _, _, rfl, by omega, by omega, by rw [hA]; exact hs.later bel, by rw [hR]; exact See.nil _⟩

def cutBlank (xs : List Int) : List Int := if xs.head? = some 32 then xs.drop 1 else xs
def TrimEnd (w' : World) (xs : List Int) (e : Ending) : Prop := ∃ p n c, e = .returned (.slice p n c) ∧ n ≤ xs.length ∧ See w' p n c (cutBlank xs)

theorem trim_is (p : Option Addr) (n c b2 o2 d : Nat) (xs : List Int) (w : World) (hs : See w p n c xs) (hc2 : w.cell? ⟨b2, o2, none⟩ = some (.int .u8 32)) :
    Calls Try.prog 17 #[.slice p n c, .slice (some ⟨b2, o2, none⟩) 1 d] w fun e w' => TrimEnd w' xs e ∧ w' = w := by
  refine (Try.bytes_TrimPrefix_all p (some ⟨b2, o2, none⟩) n c 1 d xs [32] w hs.len rfl hs.room hs.cells (fun _ => ⟨b2, o2, rfl, fun i hi => by obtain rfl : i = 0 := by omega
                                                                                                                                                simpa using hc2⟩)).mono ?_
  rintro e w' ⟨rfl, rfl⟩
  refine ⟨?_, rfl⟩
  have hl := hs.len
  have hr := hs.room
  by_cases hn : 0 < n
  · obtain ⟨b, o, rfl, hc⟩ := hs.cells hn
    cases xs with
    | nil => simp at hl; omega
    | cons x xs =>
      have hx := u8_is (hs.range x (by simp)) 32 (by omega)
      have hp : Lib.hasPrefix (Lib.bytesOf (x :: xs)) (Lib.bytesOf [32]) = (x == 32) := by
        show (UInt8.ofNat 32 == UInt8.ofNat x.toNat && _) = _
        rw [show (UInt8.ofNat 32 == UInt8.ofNat x.toNat) = (UInt8.ofNat x.toNat == UInt8.ofNat 32) from BEq.comm, hx]
        simp
      unfold Lib.trimPrefixV Lib.bytesTrimPrefix
      simp only [hp]
      by_cases h : x = 32
      · rw [if_pos (by simpa using h)]
        have hv : cutBlank (x :: xs) = xs := by unfold cutBlank; rw [h]; simp
        unfold Lib.sliceFrom
        refine ⟨_, _, _, rfl, by simp at hl ⊢; omega, ?_⟩
        rw [hv]
        simp only [List.length_cons] at hl
        by_cases hc1 : c = 1
        · have : xs = [] := List.eq_nil_of_length_eq_zero (by omega)
          subst this
          have e0 : n - [(32 : Int)].length = 0 := by simp; omega
          rw [e0, if_pos (by simpa using hc1)]
          exact See.none_of (by simp)
        · have := hs.piece 1 (n - 1) (by omega) (c - 1) (by omega)
          rw [List.take_of_length_le (by simp; omega)] at this
          rw [if_neg (by simpa using hc1)]
          simpa using this
      · rw [if_neg (by simpa using h)]
        have hv : cutBlank (x :: xs) = x :: xs := by unfold cutBlank; rw [if_neg (by simpa using h)]
        exact ⟨_, _, _, rfl, by omega, by rw [hv]; exact hs⟩
  · have h0 : n = 0 := by omega
    have hx : xs = [] := List.eq_nil_of_length_eq_zero (by omega)
    subst hx; subst h0
    have hv : cutBlank ([] : List Int) = [] := rfl
    have key : Lib.trimPrefixV p 0 c [] [32] = .slice p 0 c := by
      unfold Lib.trimPrefixV
      split
      · rfl
      · rfl
    rw [key]
    exact ⟨_, _, _, rfl, by simp, by rw [hv]; exact hs⟩

theorem valOf_eq (xs : List Int) : valOf xs = cutBlank (rawOf xs) := rfl

theorem str_is {w : World} {p : Option Addr} {n c : Nat} {xs : List Int} (h : See w p n c xs) : (convert 22 9 (.slice p n c)).run Try.prog w = .ok (.string (strOfNums xs)) w := by
  by_cases hn : 0 < n
  · obtain ⟨b, o, rfl, hc⟩ := h.cells hn
    exact run_convert_bytes_arg w 22 5 Try.underlying22 Try.underlying5 b o n c xs h.len hc 9 Try.underlying9
  · have h0 : n = 0 := by omega
    have hl := h.len
    have hx : xs = [] := List.eq_nil_of_length_eq_zero (by omega)
    subst hx; subst h0
    exact run_convert_bytes_zero w 22 5 Try.underlying22 Try.underlying5 p c 9 Try.underlying9

theorem str_of_nums (s : ByteArray) : strOfNums (nums s) = s := by
  apply ByteArray.ext
  apply Array.toList_inj.1
  rw [strOfNums_data]
  unfold nums
  rw [List.map_map]
  conv => rhs; rw [← List.map_id s.data.toList]
  apply List.map_congr_left
  intro b _
  simp
theorem nums_of_str {xs : List Int} (h : ∀ x ∈ xs, 0 ≤ x ∧ x < 256) : nums (strOfNums xs) = xs := by
  unfold nums
  rw [strOfNums_data, List.map_map]
  conv => rhs; rw [← List.map_id xs]
  apply List.map_congr_left
  intro x hx
  have := h x hx
  simp only [Function.comp, UInt8.toNat_ofNat', id]
  omega
theorem str_eq {xs : List Int} (h : ∀ x ∈ xs, 0 ≤ x ∧ x < 256) (s : ByteArray) : strOfNums xs = s ↔ (xs == nums s) = true := by
  rw [beq_iff_eq]
  constructor
  · intro e; rw [← e, nums_of_str h]
  · intro e; rw [e, str_of_nums]

end Go.Proofs.Qxb6003622a.Fld
