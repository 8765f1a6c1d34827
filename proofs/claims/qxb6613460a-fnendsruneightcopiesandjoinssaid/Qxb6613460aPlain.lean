/- The plain functions and laws: no Go in sight. -/
import Derived.Lib.Bytealg
namespace Go.Proofs.Qxb6613460a.Ends
open Go

/-- does the text hold an underscore? -/
def und (l : List UInt8) : Bool := l.contains 95
/-- what endsRun answers. -/
def ends (l : List UInt8) : Bool := (l.length % 8 == 0) && !(und l)
/-- k copies. -/
def copies (l : List UInt8) (k : Nat) : List UInt8 := (List.replicate k l).flatten

theorem index_und : ∀ l : List UInt8, decide (0 ≤ Lib.indexByte l 95) = und l
  | [] => by simp [Lib.indexByte, und]
  | b :: l => by
    have ih := index_und l
    have hg := Lib.indexByte_ge l 95
    rw [Lib.indexByte]
    by_cases hb : b = 95
    · subst hb; simp [und]
    · have hb' : ¬ (95 : UInt8) = b := fun h => hb h.symm
      have hu : und (b :: l) = und l := by simp [und, hb']
      rw [hu, ← ih]
      simp only [beq_iff_eq, hb, if_false]
      by_cases h1 : Lib.indexByte l 95 = -1
      · rw [if_pos h1, h1]
      · rw [if_neg h1]
        congr 1
        simp only [eq_iff_iff]
        omega

theorem und_append (a b : List UInt8) : und (a ++ b) = (und a || und b) := by simp [und]

theorem copies_succ (l : List UInt8) (k : Nat) : copies l (k + 1) = copies l k ++ l := by
  unfold copies
  rw [List.replicate_succ', List.flatten_append]
  simp

theorem copies_length (l : List UInt8) (k : Nat) : (copies l k).length = k * l.length := by
  simp [copies]

theorem und_copies (l : List UInt8) : ∀ k, und (copies l (k + 1)) = und l
  | 0 => by simp [copies]
  | k + 1 => by rw [copies_succ, und_append, und_copies l k]; simp

theorem ends_copies (l : List UInt8) : ends (copies l 8) = !(und l) := by
  unfold ends
  rw [copies_length, und_copies l 7]
  simp

theorem ends_before (l b : List UInt8) : ends (copies l 8 ++ b) = (ends (copies l 8) && ends b) := by
  unfold ends
  rw [List.length_append, copies_length, und_append, und_copies l 7]
  have e : ((8 * l.length + b.length) % 8) = b.length % 8 := by omega
  have e2 : (8 * l.length) % 8 = 0 := by omega
  rw [e, e2]
  cases und l <;> cases und b <;> simp

theorem ends_after (l b : List UInt8) : ends (b ++ copies l 8) = (ends (copies l 8) && ends b) := by
  unfold ends
  rw [List.length_append, copies_length, und_append, und_copies l 7]
  have e : ((b.length + 8 * l.length) % 8) = b.length % 8 := by omega
  have e2 : (8 * l.length) % 8 = 0 := by omega
  rw [e, e2]
  cases und l <;> cases und b <;> simp

end Go.Proofs.Qxb6613460a.Ends
