/- Seat b6600448a: the tree of nodes in memory. -/
import Derived.Test.Qxb6600448aBytes
import Derived.Maps.Own
import Derived.OneCell
namespace Go.Proofs.Qxb6600448a.Tr
open Go.RowKit
set_option linter.unusedVariables false

/-! ### pointers as data -/
def ptr (o : Option Nat) : Value := .pointer (o.map fun b => ⟨b, 0, none⟩)
def pd : Option Nat → DataW Unit
  | none => .nil
  | some b => .lit (.int .i64 b)
def ptrR (v : Value) : Option (DataW Unit × List MemPlace) := match v with
  | .pointer none => some (.nil, [])
  | .pointer (some ⟨b, 0, none⟩) => some (.lit (.int .i64 b), [])
  | _ => none
theorem ptrR_mk (o : Option Nat) : ptrR (ptr o) = some (pd o, []) := by cases o <;> rfl
theorem ptrR_inv {v : Value} {o : Option Nat} {ps : List MemPlace} (h : ptrR v = some (pd o, ps)) : v = ptr o := by
  unfold ptrR at h
  split at h
  · cases o with
    | none => rfl
    | some b => simp [pd] at h
  · cases o with
    | none => simp [pd] at h
    | some b =>
      simp only [pd, Option.some.injEq, Prod.mk.injEq, DataW.lit.injEq, Lit.int.injEq, true_and] at h
      have := h.1
      have : _ = b := Int.ofNat.inj this
      subst this
      rfl
  · cases h

def MapHas (w : World) (m K : Nat) (f : Txt → Option Nat) : Prop := ∃ n D, n ≤ K ∧ w.ownsMap Try.prog 9 ptrR m n D ∧ ∀ s, D.atKey (.string s) .nil = pd (f s)

structure Tre where
  at' : List Seg → Option Nat
  mp : List Seg → Option Nat
  ev : List Seg → Value
  en : List Seg → List Nat

def nodeObj (t : Tre) (p : List Seg) : Obj := .cells #[.map (t.mp p), ptr (t.at' (p ++ [.wild])), ptr (t.at' (p ++ [.deep])), t.ev p] 51

structure Rep (w : World) (B K : Nat) (t : Tre) : Prop where
  obj : ∀ p b, t.at' p = some b → w.heap[b]? = some (nodeObj t p)
  lo : ∀ p b, t.at' p = some b → B ≤ b
  inj : ∀ p q b, t.at' p = some b → t.at' q = some b → p = q
  pre : ∀ p x b, t.at' (p ++ [x]) = some b → ∃ c, t.at' p = some c
  mapn : ∀ p b, t.at' p = some b → t.mp p = none → ∀ s, t.at' (p ++ [.lit s]) = none
  maps : ∀ p b m, t.at' p = some b → t.mp p = some m → B ≤ m ∧ MapHas w m K (fun s => t.at' (p ++ [.lit s]))
  minj : ∀ p q b c m, t.at' p = some b → t.at' q = some c → t.mp p = some m → t.mp q = some m → p = q
  ends : ∀ p b, t.at' p = some b → w.ownsRow B 3 1 (t.ev p) (t.en p).length ((t.en p).map fun i => Value.int .i64 (i : Nat))
  einj : ∀ p q b c g, t.at' p = some b → t.at' q = some c → (t.ev p).ownBlock = some g → (t.ev q).ownBlock = some g → p = q

def upd {α : Type} (f : List Seg → α) (p : List Seg) (x : α) : List Seg → α := fun q => if q = p then x else f q
theorem upd_same {α : Type} (f : List Seg → α) (p : List Seg) (x : α) : upd f p x p = x := if_pos rfl
theorem upd_other {α : Type} (f : List Seg → α) {p q : List Seg} (x : α) (h : q ≠ p) : upd f p x q = f q := if_neg h

theorem heap_set_same {w : World} {b k : Nat} {cs : Array Value} {e : TypeId} {fr : Nat × Nat} (h : w.heap[b]? = some (.cells cs e fr)) (v : Value) : (w.setCell ⟨b, k, none⟩ v).heap[b]? = some (.cells (cs.setIfInBounds k v) e fr) := by
  simp [World.setCell, Array.getElem?_modify, h]
theorem heap_set_other (w : World) (b k : Nat) (v : Value) {i : Nat} (h : i ≠ b) : (w.setCell ⟨b, k, none⟩ v).heap[i]? = w.heap[i]? := Below.heap_setCell w ⟨b, k, none⟩ v i h
theorem heap_new (w : World) (o : Obj) : (w.alloc o).heap[w.heap.size]? = some o := by
  show (w.heap.push _)[w.heap.size]? = _
  simp
theorem heap_old (w : World) (o : Obj) {i : Nat} (h : i < w.heap.size) : (w.alloc o).heap[i]? = w.heap[i]? := Below.heap_alloc w o i h

theorem Rep.lt {w : World} {B K : Nat} {t : Tre} (h : Rep w B K t) {p : List Seg} {b : Nat} (hp : t.at' p = some b) : b < w.heap.size := (Array.getElem?_eq_some_iff.1 (h.obj p b hp)).1
theorem Rep.mlt {w : World} {B K : Nat} {t : Tre} (h : Rep w B K t) {p : List Seg} {b m : Nat} (hp : t.at' p = some b) (hm : t.mp p = some m) : m < w.heap.size ∧ ∃ es c, w.heap[m]? = some (.map es c) := by
  obtain ⟨_, n, D, _, ho, _⟩ := h.maps p b m hp hm
  refine ⟨ho.lt, ?_⟩
  obtain ⟨es, c, hb, _⟩ := ho
  exact ⟨es, c, hb⟩
theorem MapHas.kept {w w' : World} {m K : Nat} {f : Txt → Option Nat} (h : MapHas w m K f) (hb : w'.heap[m]? = w.heap[m]?) : MapHas w' m K f := by
  obtain ⟨n, D, hn, ⟨es, c, hm, hr⟩, hf⟩ := h
  exact ⟨n, D, hn, ⟨es, c, by rw [hb]; exact hm, hr⟩, hf⟩
theorem own_kept {w w' : World} {B e s n : Nat} {v : Value} {xs : List Value} (h : w.ownsRow B e s v n xs) (hb : ∀ g, v.ownBlock = some g → w'.heap[g]? = w.heap[g]?) : w'.ownsRow B e s v n xs := by
  refine ⟨h.1, ?_⟩
  rcases h.2 with h1 | ⟨g, cap, cur, rfl, h2, h3, h4⟩
  · exact .inl h1
  · exact .inr ⟨g, cap, cur, rfl, h2, by rw [hb g rfl]; exact h3, h4⟩
theorem Rep.elt {w : World} {B K : Nat} {t : Tre} (h : Rep w B K t) {p : List Seg} {b g : Nat} (hp : t.at' p = some b) (hg : (t.ev p).ownBlock = some g) : B ≤ g ∧ g < w.heap.size ∧ ∃ cur, w.heap[g]? = some (.cells cur 3 (0, 0)) := by
  rcases (h.ends p b hp).2 with ⟨h1, _⟩ | ⟨g', cap, cur, h1, h2, h3, _⟩
  · rw [h1] at hg; simp [Value.ownBlock] at hg
  · rw [h1] at hg
    simp only [Value.ownBlock, Option.some.injEq] at hg
    subst hg
    exact ⟨h2, (Array.getElem?_eq_some_iff.1 h3).1, cur, h3⟩

/-- a memory that keeps all blocks keeps the tree. -/
theorem Rep.later {w w' : World} {B K : Nat} {t : Tre} (h : Rep w B K t) (hb : Below w.heap.size w w') : Rep w' B K t where
  obj p b hp := by rw [hb.block b (h.lt hp)]; exact h.obj p b hp
  lo := h.lo
  inj := h.inj
  pre := h.pre
  mapn := h.mapn
  maps p b m hp hm := ⟨(h.maps p b m hp hm).1, (h.maps p b m hp hm).2.kept (hb.block m (h.mlt hp hm).1)⟩
  minj := h.minj
  ends p b hp := own_kept (h.ends p b hp) fun g hg => hb.block g (h.elt hp hg).2.1
  einj := h.einj

end Go.Proofs.Qxb6600448a.Tr
