/- Seat b6600448a: how the tree grows. -/
import Derived.Test.Qxb6600448aTree
namespace Go.Proofs.Qxb6600448a.Tr
open Go.RowKit
set_option linter.unusedVariables false

def Tre.put (t : Tre) (q : List Seg) (c : Nat) : Tre := ⟨upd t.at' q (some c), upd t.mp q none, upd t.ev q (.slice none 0 0), upd t.en q []⟩
def zeroNode : Obj := .cells #[.map none, .pointer none, .pointer none, .slice none 0 0] 51

theorem snoc_inj {q p : List Seg} {x s : Seg} (h : q ++ [x] = p ++ [s]) : q = p ∧ x = s := by
  have := List.append_inj' h rfl
  exact ⟨this.1, by simpa using this.2⟩
theorem snoc_ne (q : List Seg) (x : Seg) : q ++ [x] ≠ q := by
  intro h
  have := congrArg List.length h
  simp at this

theorem Rep.none_below {w : World} {B K : Nat} {t : Tre} (h : Rep w B K t) {q : List Seg} (hn : t.at' q = none) (x : Seg) : t.at' (q ++ [x]) = none := by
  cases hx : t.at' (q ++ [x]) with
  | none => rfl
  | some d => obtain ⟨c, hc⟩ := h.pre q x d hx; rw [hn] at hc; cases hc

theorem Rep.grow {w : World} {B K : Nat} {t : Tre} (h : Rep w B K t) {p : List Seg} {b k : Nat} {s : Seg} (hp : t.at' p = some b) (hk : (s = .wild ∧ k = 1) ∨ (s = .deep ∧ k = 2)) (hn : t.at' (p ++ [s]) = none) :
    Rep ((w.alloc zeroNode).setCell ⟨b, k, none⟩ (ptr (some w.heap.size))) B K (t.put (p ++ [s]) w.heap.size) := by
  have hb := h.lt hp
  have hBb := h.lo p b hp
  have hsl : ∀ x, s ≠ .lit x := by rcases hk with ⟨rfl, _⟩ | ⟨rfl, _⟩ <;> (intro x; simp)
  have hheap : ∀ i, i < w.heap.size → i ≠ b → ((w.alloc zeroNode).setCell ⟨b, k, none⟩ (ptr (some w.heap.size))).heap[i]? = w.heap[i]? := by
    intro i hi hib
    rw [heap_set_other _ _ _ _ hib, heap_old w _ hi]
  have hat : ∀ q d, (t.put (p ++ [s]) w.heap.size).at' q = some d → (q = p ++ [s] ∧ d = w.heap.size) ∨ (q ≠ p ++ [s] ∧ t.at' q = some d) := by
    intro q d hq
    by_cases e : q = p ++ [s]
    · subst e
      left
      simp only [Tre.put, upd_same, Option.some.injEq] at hq
      exact ⟨rfl, hq.symm⟩
    · right
      simp only [Tre.put, upd_other _ _ e] at hq
      exact ⟨e, hq⟩
  have hatO : ∀ q x, q ≠ p → (t.put (p ++ [s]) w.heap.size).at' (q ++ [x]) = t.at' (q ++ [x]) := by
    intro q x hq
    exact upd_other _ _ (fun e => hq (snoc_inj e).1)
  have hatL : ∀ q x, (t.put (p ++ [s]) w.heap.size).at' (q ++ [.lit x]) = t.at' (q ++ [.lit x]) := by
    intro q x
    exact upd_other _ _ (fun e => hsl x (snoc_inj e).2.symm)
  have hnb : ∀ x, t.at' (p ++ [s] ++ [x]) = none := fun x => h.none_below hn x
  refine ⟨?_, ?_, ?_, ?_, ?_, ?_, ?_, ?_, ?_⟩
  · intro q d hq
    rcases hat q d hq with ⟨rfl, rfl⟩ | ⟨hne, hq'⟩
    · rw [heap_set_other _ _ _ _ (by omega), heap_new]
      unfold nodeObj zeroNode
      rw [hatO _ _ (snoc_ne p s), hatO _ _ (snoc_ne p s), hnb, hnb]
      simp only [Tre.put, upd_same]
      rfl
    · have hmp : (t.put (p ++ [s]) w.heap.size).mp q = t.mp q := upd_other _ _ hne
      have hev : (t.put (p ++ [s]) w.heap.size).ev q = t.ev q := upd_other _ _ hne
      by_cases hqp : q = p
      · subst hqp
        rw [hp] at hq'
        simp only [Option.some.injEq] at hq'
        subst hq'
        have ho := h.obj q b hp
        unfold nodeObj at ho ⊢
        rw [heap_set_same (by rw [heap_old w _ hb]; exact ho), hmp, hev]
        rcases hk with ⟨rfl, rfl⟩ | ⟨rfl, rfl⟩
        · have e1 : (t.put (q ++ [.wild]) w.heap.size).at' (q ++ [.wild]) = some w.heap.size := upd_same _ _ _
          have e2 : (t.put (q ++ [.wild]) w.heap.size).at' (q ++ [.deep]) = t.at' (q ++ [.deep]) := upd_other _ _ (fun e => by have := (snoc_inj e).2; cases this)
          rw [e1, e2]
          rfl
        · have e1 : (t.put (q ++ [.deep]) w.heap.size).at' (q ++ [.deep]) = some w.heap.size := upd_same _ _ _
          have e2 : (t.put (q ++ [.deep]) w.heap.size).at' (q ++ [.wild]) = t.at' (q ++ [.wild]) := upd_other _ _ (fun e => by have := (snoc_inj e).2; cases this)
          rw [e1, e2]
          rfl
      · have hdb : d ≠ b := fun e => hqp (h.inj q p b (by rw [hq', e]) hp)
        rw [hheap d (h.lt hq') hdb, h.obj q d hq']
        unfold nodeObj
        rw [hatO q _ hqp, hatO q _ hqp, hmp, hev]
  · intro q d hq
    rcases hat q d hq with ⟨rfl, rfl⟩ | ⟨hne, hq'⟩
    · omega
    · exact h.lo q d hq'
  · intro q r d hq hr
    rcases hat q d hq with ⟨rfl, rfl⟩ | ⟨hne, hq'⟩ <;> rcases hat r _ hr with ⟨rfl, hd⟩ | ⟨hne2, hr'⟩
    · rfl
    · have := h.lt hr'; omega
    · have := h.lt hq'; omega
    · exact h.inj q r d hq' hr'
  · intro q x d hq
    by_cases e : q = p ++ [s]
    · subst e
      exact ⟨_, upd_same _ _ _⟩
    · rcases hat _ d hq with ⟨e2, rfl⟩ | ⟨hne, hq'⟩
      · obtain ⟨rfl, _⟩ := snoc_inj e2
        exact ⟨b, by show upd _ _ _ _ = _; rw [upd_other _ _ e]; exact hp⟩
      · obtain ⟨c, hc⟩ := h.pre q x d hq'
        exact ⟨c, by show upd _ _ _ _ = _; rw [upd_other _ _ e]; exact hc⟩
  · intro q d hq hm x
    rw [hatL]
    rcases hat q d hq with ⟨rfl, rfl⟩ | ⟨hne, hq'⟩
    · exact hnb _
    · exact h.mapn q d hq' (by rw [← hm]; exact (upd_other _ _ hne).symm) x
  · intro q d m hq hm
    rcases hat q d hq with ⟨rfl, rfl⟩ | ⟨hne, hq'⟩
    · have : (t.put (p ++ [s]) w.heap.size).mp (p ++ [s]) = none := upd_same _ _ _
      rw [this] at hm; cases hm
    · have hm' : t.mp q = some m := by rw [← hm]; exact (upd_other _ _ hne).symm
      obtain ⟨h1, h2⟩ := h.maps q d m hq' hm'
      obtain ⟨hml, es, cl, hmo⟩ := h.mlt hq' hm'
      have hmb : m ≠ b := by
        intro e; subst e
        rw [h.obj p m hp] at hmo
        simp [nodeObj] at hmo
      refine ⟨h1, ?_⟩
      have : (fun x => (t.put (p ++ [s]) w.heap.size).at' (q ++ [.lit x])) = fun x => t.at' (q ++ [.lit x]) := funext fun x => hatL q x
      rw [this]
      exact h2.kept (hheap m hml hmb)
  · intro q r d e m hq hr hm1 hm2
    rcases hat q d hq with ⟨rfl, rfl⟩ | ⟨hne, hq'⟩
    · have : (t.put (p ++ [s]) w.heap.size).mp (p ++ [s]) = none := upd_same _ _ _
      rw [this] at hm1; cases hm1
    · rcases hat r e hr with ⟨rfl, rfl⟩ | ⟨hne2, hr'⟩
      · have : (t.put (p ++ [s]) w.heap.size).mp (p ++ [s]) = none := upd_same _ _ _
        rw [this] at hm2; cases hm2
      · exact h.minj q r d e m hq' hr' (by rw [← hm1]; exact (upd_other _ _ hne).symm) (by rw [← hm2]; exact (upd_other _ _ hne2).symm)
  · intro q d hq
    rcases hat q d hq with ⟨rfl, rfl⟩ | ⟨hne, hq'⟩
    · have e1 : (t.put (p ++ [s]) w.heap.size).ev (p ++ [s]) = .slice none 0 0 := upd_same _ _ _
      have e2 : (t.put (p ++ [s]) w.heap.size).en (p ++ [s]) = [] := upd_same _ _ _
      rw [e1, e2]
      exact ⟨rfl, .inl ⟨rfl, rfl⟩⟩
    · have e1 : (t.put (p ++ [s]) w.heap.size).ev q = t.ev q := upd_other _ _ hne
      have e2 : (t.put (p ++ [s]) w.heap.size).en q = t.en q := upd_other _ _ hne
      rw [e1, e2]
      refine own_kept (h.ends q d hq') fun g hg => ?_
      obtain ⟨_, hgl, cur, hgo⟩ := h.elt hq' hg
      refine hheap g hgl (fun e => ?_)
      subst e
      rw [h.obj p g hp] at hgo
      simp [nodeObj] at hgo
  · intro q r d e g hq hr hg1 hg2
    rcases hat q d hq with ⟨rfl, rfl⟩ | ⟨hne, hq'⟩
    · have e1 : (t.put (p ++ [s]) w.heap.size).ev (p ++ [s]) = .slice none 0 0 := upd_same _ _ _
      rw [e1] at hg1; simp [Value.ownBlock] at hg1
    · rcases hat r e hr with ⟨rfl, rfl⟩ | ⟨hne2, hr'⟩
      · have e1 : (t.put (p ++ [s]) w.heap.size).ev (p ++ [s]) = .slice none 0 0 := upd_same _ _ _
        rw [e1] at hg2; simp [Value.ownBlock] at hg2
      · exact h.einj q r d e g hq' hr' (by rw [← hg1]; exact congrArg _ (upd_other _ _ hne).symm) (by rw [← hg2]; exact congrArg _ (upd_other _ _ hne2).symm)

end Go.Proofs.Qxb6600448a.Tr
