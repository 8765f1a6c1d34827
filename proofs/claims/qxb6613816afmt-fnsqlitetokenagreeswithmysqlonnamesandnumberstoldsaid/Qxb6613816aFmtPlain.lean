/- The plain functions: what sqliteToken computes, on a list of bytes; no Go in sight. -/
import Derived.Lib.Bytealg
import Derived.Lib.Strings
import Derived.Lib.IndexLaws
namespace Go.Proofs.Qxb6613816aFmt.Tok
open Go

/-- the byte at place i is there and meets p. -/
def isAt (l : List UInt8) (i : Nat) (p : UInt8 → Bool) : Bool := (l[i]?).any p

def dig (c : UInt8) : Bool := decide (48 ≤ c.toNat) && decide (c.toNat ≤ 57)
def ltr (c : UInt8) : Bool := (decide (97 ≤ c.toNat) && decide (c.toNat ≤ 122)) || (decide (65 ≤ c.toNat) && decide (c.toNat ≤ 90))
def hex (c : UInt8) : Bool := dig c || (decide (97 ≤ c.toNat) && decide (c.toNat ≤ 102)) || (decide (65 ≤ c.toNat) && decide (c.toNat ≤ 70))
def idc (c : UInt8) : Bool := ltr c || dig c || decide (c.toNat = 95) || decide (c.toNat = 36) || decide (128 ≤ c.toNat)
def spc (c : UInt8) : Bool := decide (c.toNat = 32) || decide (c.toNat = 9) || decide (c.toNat = 10) || decide (c.toNat = 12) || decide (c.toNat = 13)
def sps (c : UInt8) : Bool := decide (c.toNat = 11) || spc c
def dgu (c : UInt8) : Bool := dig c || decide (c.toNat = 95)
def hxu (c : UInt8) : Bool := hex c || decide (c.toNat = 95)
def eql (n : Nat) (c : UInt8) : Bool := decide (c.toNat = n)
def neq (n : Nat) (c : UInt8) : Bool := !(decide (c.toNat = n))
def exq (c : UInt8) : Bool := decide (c.toNat = 101) || decide (c.toNat = 69)
def sgn (c : UInt8) : Bool := decide (c.toNat = 43) || decide (c.toNat = 45)
def any1 (_ : UInt8) : Bool := true

/-- from i on, as long as p holds. -/
def run (p : UInt8 → Bool) (l : List UInt8) (i : Nat) : Nat := i + ((l.drop i).takeWhile p).length

/-- behind the opening quote q: the length up to and with the closing one. -/
def quo (q : Nat) : List UInt8 → Option Nat
  | [] => none
  | [c] => if eql q c then some 1 else none
  | c :: d :: r => if eql q c then (if eql q d then (quo q r).map (· + 2) else some 1) else (quo q (d :: r)).map (· + 1)

/-- a parameter's suffix, behind '('. -/
def suf : List UInt8 → Option Nat
  | [] => none
  | c :: r => if eql 41 c then some 1 else if sps c then none else (suf r).map (· + 1)

/-- a parameter, behind its first byte; nm: has a byte of the name been met? -/
def par : List UInt8 → Bool → Option Nat
  | [], nm => if nm then some 0 else none
  | [c], nm => if idc c then some 1 else if eql 40 c && nm then none else if nm then some 0 else none
  | c :: d :: r, nm => if idc c then (par (d :: r) true).map (· + 1) else if eql 40 c && nm then (suf (d :: r)).map (· + 1)
      else if eql 58 c && eql 58 d then (par r nm).map (· + 2) else if nm then some 0 else none

/-- the length up to and with the first star and slash. -/
def cmt : List UInt8 → Option Nat
  | [] => none
  | [_] => none
  | c :: d :: r => if eql 42 c && eql 47 d then some 2 else (cmt (d :: r)).map (· + 1)

/-- numberEnd. -/
def numI (l : List UInt8) : Nat := run dgu l 0
def numJ (l : List UInt8) : Nat := if isAt l (numI l) (eql 46) then run dgu l (numI l + 1) else numI l
def numH (rad : UInt8 → Bool) (l : List UInt8) : Bool := isAt l 0 (eql 48) && isAt l 1 rad && isAt l 2 hex
def numX (l : List UInt8) : Bool := isAt l (numJ l) exq && (isAt l (numJ l + 1) dig || isAt l (numJ l + 1) sgn && isAt l (numJ l + 2) dig)
def numE (rad : UInt8 → Bool) (l : List UInt8) : Nat :=
  if numH rad l then run hxu l 3 else if numX l then run dgu l (numJ l + 2) else numJ l

def xX (c : UInt8) : Bool := decide (c.toNat = 120) || decide (c.toNat = 88)

def opsL : List (List UInt8) := [[45, 62, 62], [45, 62], [61, 61], [60, 61], [60, 62], [60, 60], [62, 61], [62, 62], [33, 61], [124, 124]]
def mark (c : UInt8) : Bool := ([40, 41, 59, 44, 46, 61, 43, 45, 42, 47, 37, 60, 62, 124, 38, 126] : List UInt8).contains c
def ops (l : List UInt8) : Option (Nat × Nat) := match opsL.find? (Lib.hasPrefix l) with
  | some o => some (o.length, 4)
  | none => if isAt l 0 mark then some (1, 4) else none

/-- the guards of sqliteToken's switch. -/
def g1 (l : List UInt8) : Bool := isAt l 0 spc
def g2 (l : List UInt8) : Bool := Lib.hasPrefix l [239, 187, 191]
def g3 (l : List UInt8) : Bool := Lib.hasPrefix l [45, 45]
def g4 (l : List UInt8) : Bool := Lib.hasPrefix l [47, 42] && isAt l 2 any1
def g5 (l : List UInt8) : Bool := isAt l 0 (eql 39) || isAt l 0 (eql 34) || isAt l 0 (eql 96)
def g6 (l : List UInt8) : Bool := isAt l 0 (eql 91)
def g7 (l : List UInt8) : Bool := isAt l 0 dig || isAt l 0 (eql 46) && isAt l 1 dig
def g8 (l : List UInt8) : Bool := isAt l 0 (eql 63)
def g9 (l : List UInt8) : Bool := isAt l 0 (eql 36) || isAt l 0 (eql 64) || isAt l 0 (eql 35) || isAt l 0 (eql 58)
def g10 (l : List UInt8) : Bool := isAt l 0 xX && isAt l 1 (eql 39)
def nam (c : UInt8) : Bool := ltr c || decide (c.toNat = 95) || decide (128 ≤ c.toNat)
def g11 (l : List UInt8) : Bool := isAt l 0 nam

def b4 (l : List UInt8) : Nat := match cmt (l.drop 2) with | some n => n + 2 | none => l.length
def b5 (l : List UInt8) : Option (Nat × Nat) := (quo (l.headD 0).toNat (l.drop 1)).map fun n => (n + 1, if isAt l 0 (eql 39) then 2 else 1)
def b6 (l : List UInt8) : Option (Nat × Nat) := if isAt l (run (neq 93) l 0) any1 then some (run (neq 93) l 0 + 1, 1) else none
def b7 (l : List UInt8) : Option (Nat × Nat) := if isAt l (numE xX l) idc then none else some (numE xX l, 3)
def b9 (l : List UInt8) : Option (Nat × Nat) := (par (l.drop 1) false).map fun n => (n + 1, 3)
def b10 (l : List UInt8) : Option (Nat × Nat) := if isAt l (run hex l 2) (eql 39) && (run hex l 2 % 2 == 0) then some (run hex l 2 + 1, 3) else none

/-- WHAT sqliteToken ANSWERS: length and kind, or none: a refusal. -/
def sqT (l : List UInt8) : Option (Nat × Nat) :=
  if g1 l then some (run sps l 1, 5)
  else if g2 l then some (3, 5)
  else if g3 l then some (run (neq 10) l 0, 5)
  else if g4 l then some (b4 l, 5)
  else if g5 l then b5 l
  else if g6 l then b6 l
  else if g7 l then b7 l
  else if g8 l then some (run dig l 1, 3)
  else if g9 l then b9 l
  else if g10 l then b10 l
  else if g11 l then some (run idc l 1, 0)
  else ops l

/-! ### runs -/
theorem isAt_drop (l : List UInt8) (i j : Nat) (p : UInt8 → Bool) : isAt (l.drop i) j p = isAt l (i + j) p := by simp [isAt]
theorem isAt_nil (j : Nat) (p : UInt8 → Bool) : isAt [] j p = false := by simp [isAt]
theorem isAt_cons0 (c : UInt8) (l : List UInt8) (p : UInt8 → Bool) : isAt (c :: l) 0 p = p c := by simp [isAt]
theorem isAt_succ (c : UInt8) (l : List UInt8) (j : Nat) (p : UInt8 → Bool) : isAt (c :: l) (j + 1) p = isAt l j p := by simp [isAt]
theorem isAt_lt {l : List UInt8} {i : Nat} {p : UInt8 → Bool} (h : isAt l i p = true) : i < l.length := by
  rcases Nat.lt_or_ge i l.length with h' | h'
  · exact h'
  · simp [isAt, List.getElem?_eq_none h'] at h
theorem isAt_mono {l : List UInt8} {i : Nat} {p q : UInt8 → Bool} (hpq : ∀ c, p c = true → q c = true) (h : isAt l i p = true) : isAt l i q = true := by
  have hl := isAt_lt h
  simp [isAt, List.getElem?_eq_getElem hl] at h ⊢
  exact hpq _ h

theorem tw_all (p : UInt8 → Bool) : ∀ (m : List UInt8) (j : Nat), j < (m.takeWhile p).length → isAt m j p = true
  | [], j, h => by simp at h
  | c :: m, 0, h => by
    rw [isAt_cons0]
    by_cases hc : p c = true
    · exact hc
    · simp [List.takeWhile, hc] at h
  | c :: m, j + 1, h => by
    rw [isAt_succ]
    apply tw_all p m j
    by_cases hc : p c = true
    · simp [List.takeWhile, hc] at h; omega
    · simp [List.takeWhile, hc] at h

theorem tw_stop (p : UInt8 → Bool) : ∀ (m : List UInt8), isAt m (m.takeWhile p).length p = false
  | [] => by simp [isAt]
  | c :: m => by
    by_cases hc : p c = true
    · simp only [List.takeWhile, hc, List.length_cons]
      rw [isAt_succ]; exact tw_stop p m
    · have : p c = false := by simpa using hc
      simp only [List.takeWhile, this, List.length_nil]
      rw [isAt_cons0]; exact this

theorem run_ge (p : UInt8 → Bool) (l : List UInt8) (i : Nat) : i ≤ run p l i := by unfold run; omega
theorem run_all (p : UInt8 → Bool) (l : List UInt8) (i j : Nat) (h1 : i ≤ j) (h2 : j < run p l i) : isAt l j p = true := by
  have h := tw_all p (l.drop i) (j - i) (by unfold run at h2; omega)
  rw [isAt_drop] at h
  have e : i + (j - i) = j := by omega
  rw [e] at h; exact h
theorem run_stop (p : UInt8 → Bool) (l : List UInt8) (i : Nat) : isAt l (run p l i) p = false := by
  have h := tw_stop p (l.drop i)
  rw [isAt_drop] at h
  exact h
theorem run_unique {p : UInt8 → Bool} {l : List UInt8} {i n : Nat} (h1 : i ≤ n) (h2 : ∀ j, i ≤ j → j < n → isAt l j p = true) (h3 : isAt l n p = false) : run p l i = n := by
  have a := run_ge p l i
  have b := run_stop p l i
  rcases Nat.lt_trichotomy (run p l i) n with h | h | h
  · rw [h2 _ a h] at b; cases b
  · exact h
  · rw [run_all p l i n h1 h] at h3; cases h3
theorem run_le (p : UInt8 → Bool) (l : List UInt8) (i : Nat) (h : i ≤ l.length) : run p l i ≤ l.length := by
  rcases Nat.lt_or_ge l.length (run p l i) with h' | h'
  · have := isAt_lt (run_all p l i l.length h h'); omega
  · exact h'
theorem run_step {p : UInt8 → Bool} {l : List UInt8} {i : Nat} (h : isAt l i p = true) : run p l i = run p l (i + 1) := by
  apply run_unique
  · have := run_ge p l (i + 1); omega
  · intro j h1 h2
    rcases Nat.eq_or_lt_of_le h1 with e | e
    · rw [← e]; exact h
    · exact run_all p l (i + 1) j e h2
  · exact run_stop p l (i + 1)
theorem run_here {p : UInt8 → Bool} {l : List UInt8} {i : Nat} (h : isAt l i p = false) : run p l i = i := by
  apply run_unique (Nat.le_refl _)
  · intro j h1 h2; omega
  · exact h

end Go.Proofs.Qxb6613816aFmt.Tok
