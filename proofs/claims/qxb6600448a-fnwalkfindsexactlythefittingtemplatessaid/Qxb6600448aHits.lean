/- Seat b6600448a: what walk finds, plainly; strings.Cut at "/". -/
import Derived.Test.Qxb6600448aAdd
import Derived.Test.Qxb6600448aShelf
import Derived.Lib.IndexLaws
import Derived.Lib.IndexBytes
namespace Go.Proofs.Qxb6600448a.Tr
open Go.RowKit
set_option linter.unusedVariables false

/-! ### strings.Cut -/
def CutIs (s a r : ByteArray) (f : Bool) : Prop := (f = true ∧ txt s = txt a ++ 47 :: txt r ∧ 47 ∉ txt a) ∨ (f = false ∧ txt a = txt s ∧ r = ⟨#[]⟩ ∧ 47 ∉ txt s)
def CutEnd (s : ByteArray) (w w' : World) (e : Ending) : Prop := ∃ (a r : ByteArray) (f : Bool) (n : Nat), e = .returned (.tuple #[.string a, .string r, .bool f]) ∧ CutIs s a r f ∧ w' = w.drewN n
theorem size_txt (s : ByteArray) : s.size = (txt s).length := by unfold txt; simp
theorem CutIs.small {s a r : ByteArray} {f : Bool} (h : CutIs s a r f) : a.size ≤ s.size ∧ (f = true → r.size < s.size) := by
  rw [size_txt, size_txt, size_txt]
  rcases h with ⟨rfl, h1, _⟩ | ⟨rfl, h1, h2, _⟩
  · rw [h1]; simp; omega
  · rw [h1]; simp
theorem CutIs.split {s a r : ByteArray} {f : Bool} (h : CutIs s a r f) : split (txt s) = txt a :: (if f then Tr.split (txt r) else []) := by
  rcases h with ⟨rfl, h1, h2⟩ | ⟨rfl, h1, _, h2⟩
  · rw [h1, split_at _ _ h2]; rfl
  · rw [split_none _ h2, h1]; rfl
theorem cut_is (s : ByteArray) : CutIs s ⟨(Lib.cut s.data.toList [47]).1.toArray⟩ ⟨(Lib.cut s.data.toList [47]).2.1.toArray⟩ (Lib.cut s.data.toList [47]).2.2 := by
  unfold Lib.cut
  rw [Lib.index_one]
  by_cases h : 0 ≤ Lib.indexByte s.data.toList 47
  · rw [if_pos h]
    left
    obtain ⟨o, ho⟩ : ∃ o : Nat, Lib.indexByte s.data.toList 47 = o := ⟨_, (Int.toNat_of_nonneg h).symm⟩
    obtain ⟨h1, h2⟩ := Lib.indexByte_some ho
    obtain ⟨hl, h3⟩ := List.getElem?_eq_some_iff.1 h1
    refine ⟨rfl, ?_, ?_⟩
    · rw [ho]
      show s.data.toList = s.data.toList.take o ++ 47 :: s.data.toList.drop (o + 1)
      conv => lhs; rw [← List.take_append_drop o s.data.toList, List.drop_eq_getElem_cons hl, h3]
    · rw [ho]
      show 47 ∉ s.data.toList.take o
      intro hm
      obtain ⟨k, hk, he⟩ := List.getElem_of_mem hm
      rw [List.length_take] at hk
      rw [List.getElem_take] at he
      exact h2 k (by omega) (by rw [List.getElem?_eq_getElem (by omega), he])
  · rw [if_neg h]
    right
    have hn : Lib.indexByte s.data.toList 47 = -1 := by
      have := Lib.index_ge s.data.toList [47]
      rw [Lib.index_one] at this
      omega
    refine ⟨rfl, rfl, rfl, fun hm => ?_⟩
    obtain ⟨k, hk, he⟩ := List.getElem_of_mem hm
    have h5 : (txt s)[k]? = some 47 := by rw [List.getElem?_eq_getElem hk, he]
    exact Lib.indexByte_none hn k h5
theorem cut_any (s : ByteArray) (m : Int) (w : World) (hs : s.size ≤ 1048576) (hm : w.cell? ⟨0, 0, none⟩ = some (.int .i64 m)) :
    Calls Try.prog 32 #[.string s, .string ⟨#[47]⟩] w fun e w' => CutEnd s w w' e := by
  refine (Try.strings_Cut s ⟨#[47]⟩ m w (by omega) hm).mono ?_
  rintro e w' ⟨rfl, n, rfl⟩
  exact ⟨_, _, _, n, rfl, cut_is s, rfl⟩

/-! ### hits -/
def Hit (xss : List (List ByteArray)) (N : Nat) (p : List Seg) (ps : List Txt) (x : Nat) : Prop := x < N ∧ ∃ q, path xss x = p ++ q ∧ fitq q ps = true
def Ends (xss : List (List ByteArray)) (N : Nat) (p : List Seg) (x : Nat) : Prop := x < N ∧ path xss x = p
def partsOf (done : Bool) (s : ByteArray) : List Txt := if done then [] else Tr.split (txt s)

theorem fitq_nil {q : List Seg} : fitq q [] = true ↔ q = [] ∨ q = [.deep] := by
  cases q with
  | nil => simp [fitq]
  | cons y q =>
    cases y with
    | lit s => simp [fitq]
    | wild => simp [fitq]
    | deep =>
      cases q with
      | nil => simp [fitq]
      | cons z q => simp [fitq]
theorem fitq_cons {q : List Seg} {a : Txt} {ps : List Txt} : fitq q (a :: ps) = true ↔ q = [.deep] ∨ (∃ q', q = .lit a :: q' ∧ fitq q' ps = true) ∨ (a ≠ [] ∧ ∃ q', q = .wild :: q' ∧ fitq q' ps = true) := by
  cases q with
  | nil => simp [fitq]
  | cons y q =>
    cases y with
    | lit s =>
      simp only [fitq, Bool.and_eq_true, beq_iff_eq]
      constructor
      · rintro ⟨rfl, h2⟩
        exact .inr (.inl ⟨q, rfl, h2⟩)
      · rintro (h | ⟨q', h1, h2⟩ | ⟨_, q', h1, _⟩)
        · simp at h
        · simp only [List.cons.injEq, Seg.lit.injEq] at h1
          obtain ⟨rfl, rfl⟩ := h1
          exact ⟨rfl, h2⟩
        · simp at h1
    | wild => simp [fitq]
    | deep =>
      cases q with
      | nil => simp [fitq]
      | cons z q => simp [fitq]
theorem hit_done (xss : List (List ByteArray)) (N : Nat) (p : List Seg) (x : Nat) : Hit xss N p [] x ↔ Ends xss N p x ∨ Ends xss N (p ++ [.deep]) x := by
  unfold Hit Ends
  constructor
  · rintro ⟨h, q, h1, h2⟩
    rcases fitq_nil.1 h2 with rfl | rfl
    · exact .inl ⟨h, by simpa using h1⟩
    · exact .inr ⟨h, h1⟩
  · rintro (⟨h, h1⟩ | ⟨h, h1⟩)
    · exact ⟨h, [], by simpa using h1, fitq_nil.2 (.inl rfl)⟩
    · exact ⟨h, [.deep], h1, fitq_nil.2 (.inr rfl)⟩
theorem hit_step (xss : List (List ByteArray)) (N : Nat) (p : List Seg) (a : Txt) (ps : List Txt) (x : Nat) : Hit xss N p (a :: ps) x ↔ Hit xss N (p ++ [.lit a]) ps x ∨ (a ≠ [] ∧ Hit xss N (p ++ [.wild]) ps x) ∨ Ends xss N (p ++ [.deep]) x := by
  unfold Hit Ends
  constructor
  · rintro ⟨h, q, h1, h2⟩
    rcases fitq_cons.1 h2 with rfl | ⟨q', rfl, h3⟩ | ⟨ha, q', rfl, h3⟩
    · exact .inr (.inr ⟨h, h1⟩)
    · exact .inl ⟨h, q', by simpa using h1, h3⟩
    · exact .inr (.inl ⟨ha, h, q', by simpa using h1, h3⟩)
  · rintro (⟨h, q', h1, h3⟩ | ⟨ha, h, q', h1, h3⟩ | ⟨h, h1⟩)
    · exact ⟨h, .lit a :: q', by simpa using h1, fitq_cons.2 (.inr (.inl ⟨q', rfl, h3⟩))⟩
    · exact ⟨h, .wild :: q', by simpa using h1, fitq_cons.2 (.inr (.inr ⟨ha, q', rfl, h3⟩))⟩
    · exact ⟨h, [.deep], h1, fitq_cons.2 (.inl rfl)⟩
theorem under_ne {xss : List (List ByteArray)} {x : Nat} {p q q' : List Seg} {s s' : Seg} (h : path xss x = p ++ [s] ++ q) (h' : path xss x = p ++ [s'] ++ q') : s = s' := by
  rw [h] at h'
  simp only [List.append_assoc, List.cons_append, List.nil_append, List.append_cancel_left_eq, List.cons.injEq] at h'
  exact h'.1

/-! ### the memory that walk reads -/
structure Base (w0 : World) (xss : List (List ByteArray)) (N : Nat) (t : Tre) (lb sb tb : Nat) (s0 : ByteArray) (m : Int) : Prop where
  rep : ∃ B K, Rep w0 B K t
  look : Look w0 lb sb tb s0 N
  mx : w0.cell? ⟨0, 0, none⟩ = some (.int .i64 m)
  gr : Grown xss N t
  small : N ≤ 65536

section
variable {w0 w : World} {xss : List (List ByteArray)} {N : Nat} {t : Tre} {lb sb tb : Nat} {s0 : ByteArray} {m : Int}
theorem Base.node (h : Base w0 xss N t lb sb tb s0 m) (hb : Below w0.heap.size w0 w) {p : List Seg} {b : Nat} (hp : t.at' p = some b) :
    w.cell? ⟨b, 0, none⟩ = some (.map (t.mp p)) ∧ w.cell? ⟨b, 1, none⟩ = some (ptr (t.at' (p ++ [.wild]))) ∧ w.cell? ⟨b, 2, none⟩ = some (ptr (t.at' (p ++ [.deep]))) ∧ w.cell? ⟨b, 3, none⟩ = some (t.ev p) := by
  obtain ⟨B, K, hr⟩ := h.rep
  have ho := (hr.later hb).obj p b hp
  unfold World.cell?
  simp only [ho]
  exact ⟨rfl, rfl, rfl, rfl⟩
theorem Base.lookup (h : Base w0 xss N t lb sb tb s0 m) (hb : Below w0.heap.size w0 w) {p : List Seg} {b : Nat} (hp : t.at' p = some b) (a : ByteArray) (ha : a.size ≤ maxLen) :
    (Instr.lookup 49 (.map (t.mp p)) (.string a) false).run Try.prog w = .ok (ptr (t.at' (p ++ [.lit (txt a)]))) w := by
  obtain ⟨B, K, hr⟩ := h.rep
  have hr' := hr.later hb
  cases hm : t.mp p with
  | none => rw [look_none w a ha, hr.mapn p b hp hm (txt a)]; rfl
  | some m => exact (hr'.maps p b m hp hm).2.look a ha
theorem Base.cellM (h : Base w0 xss N t lb sb tb s0 m) (hb : Below w0.heap.size w0 w) : w.cell? ⟨0, 0, none⟩ = some (.int .i64 m) := by
  rw [hb.cell (p := ⟨0, 0, none⟩) (World.block_lt_of_cell? w0 _ h.mx)]; exact h.mx
theorem Base.no_hit (h : Base w0 xss N t lb sb tb s0 m) {p : List Seg} (hp : t.at' p = none) (ps : List Txt) (x : Nat) : ¬ Hit xss N p ps x := by
  rintro ⟨hx, q, h1, _⟩
  obtain ⟨b, hb⟩ := h.gr.has x hx
  obtain ⟨B, K, hr⟩ := h.rep
  rw [h1] at hb
  obtain ⟨c, hc⟩ := hr.prefix q p b hb
  rw [hp] at hc; cases hc
theorem Base.no_ends (h : Base w0 xss N t lb sb tb s0 m) {p : List Seg} (hp : t.at' p = none) (x : Nat) : ¬ Ends xss N p x := by
  rintro ⟨hx, h1⟩
  obtain ⟨b, hb⟩ := h.gr.has x hx
  rw [h1, hp] at hb; cases hb
end

def WalkEnd (w0 w' : World) (s0 : ByteArray) (N : Nat) (l : List Nat) (H : Nat → Prop) (e : Ending) : Prop := ∃ v' l', e = .returned v' ∧ Found w0 w' s0 N v' l' ∧ ∀ x, x ∈ l' ↔ x ∈ l ∨ H x

theorem add_v (w0 w : World) (lb sb tb N i : Nat) (s : ByteArray) (v : Value) (l : List Nat) (HL : Look w0 lb sb tb s N) (HF : Found w0 w s N v l) (hN : N ≤ 65536) (hiN : i < N) (HI : i ∉ l) :
    Calls Try.prog 31 #[.pointer (some ⟨lb, 0, none⟩), v, .int .i64 (i : Nat)] w fun e w' => AddEnd w0 w' s N i l e := by
  obtain ⟨p, c, rfl⟩ := own_form HF.own
  exact add_any w0 w lb sb tb N i s p l.length c l HL HF hN hiN HI rfl

end Go.Proofs.Qxb6600448a.Tr
