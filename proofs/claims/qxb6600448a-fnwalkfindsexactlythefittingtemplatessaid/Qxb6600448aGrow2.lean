/- Seat b6600448a: how the tree grows by a literal. -/
import Derived.Test.Qxb6600448aGrow
namespace Go.Proofs.Qxb6600448a.Tr
open Go.RowKit
set_option linter.unusedVariables false

theorem MapHas.mono {w : World} {m K K' : Nat} {f : Txt → Option Nat} (h : MapHas w m K f) (hK : K ≤ K') : MapHas w m K' f := by
  obtain ⟨n, D, hn, ho, hf⟩ := h
  exact ⟨n, D, Nat.le_trans hn hK, ho, hf⟩
theorem Rep.mono {w : World} {B K K' : Nat} {t : Tre} (h : Rep w B K t) (hK : K ≤ K') : Rep w B K' t :=
  ⟨h.obj, h.lo, h.inj, h.pre, h.mapn, fun p b m hp hm => ⟨(h.maps p b m hp hm).1, (h.maps p b m hp hm).2.mono hK⟩, h.minj, h.ends, h.einj⟩

theorem Rep.growLit {w w2 : World} {B K : Nat} {t : Tre} (h : Rep w B K t) {p : List Seg} {b m : Nat} {s : Txt} (hp : t.at' p = some b) (hm : t.mp p = some m) (hn : t.at' (p ++ [.lit s]) = none)
    (hheap : ∀ i, i < w.heap.size → i ≠ m → w2.heap[i]? = w.heap[i]?) (hnew : w2.heap[w.heap.size]? = some zeroNode)
    (hmap : MapHas w2 m (K + 1) (fun x => if x = s then some w.heap.size else t.at' (p ++ [.lit x]))) :
    Rep w2 B (K + 1) (t.put (p ++ [.lit s]) w.heap.size) := by
  have hb := h.lt hp
  have hBb := h.lo p b hp
  obtain ⟨hml, es, cl, hmo⟩ := h.mlt hp hm
  have hat : ∀ q d, (t.put (p ++ [.lit s]) w.heap.size).at' q = some d → (q = p ++ [.lit s] ∧ d = w.heap.size) ∨ (q ≠ p ++ [.lit s] ∧ t.at' q = some d) := by
    intro q d hq
    by_cases e : q = p ++ [.lit s]
    · subst e
      left
      simp only [Tre.put, upd_same, Option.some.injEq] at hq
      exact ⟨rfl, hq.symm⟩
    · right
      simp only [Tre.put, upd_other _ _ e] at hq
      exact ⟨e, hq⟩
  have hatO : ∀ q x, q ≠ p → (t.put (p ++ [.lit s]) w.heap.size).at' (q ++ [x]) = t.at' (q ++ [x]) := by
    intro q x hq
    exact upd_other _ _ (fun e => hq (snoc_inj e).1)
  have hatW : ∀ q, (t.put (p ++ [.lit s]) w.heap.size).at' (q ++ [.wild]) = t.at' (q ++ [.wild]) := fun q => upd_other _ _ (fun e => by have := (snoc_inj e).2; cases this)
  have hatD : ∀ q, (t.put (p ++ [.lit s]) w.heap.size).at' (q ++ [.deep]) = t.at' (q ++ [.deep]) := fun q => upd_other _ _ (fun e => by have := (snoc_inj e).2; cases this)
  have hnb : ∀ x, t.at' (p ++ [.lit s] ++ [x]) = none := fun x => h.none_below hn x
  have cell_ne : ∀ {i : Nat} {cs : Array Value} {e : TypeId} {fr : Nat × Nat}, w.heap[i]? = some (.cells cs e fr) → i ≠ m := by
    intro i cs e fr hi ei
    subst ei
    rw [hmo] at hi
    cases hi
  refine ⟨?_, ?_, ?_, ?_, ?_, ?_, ?_, ?_, ?_⟩
  · intro q d hq
    rcases hat q d hq with ⟨rfl, rfl⟩ | ⟨hne, hq'⟩
    · rw [hnew]
      unfold nodeObj zeroNode
      rw [hatW, hatD, hnb, hnb]
      simp only [Tre.put, upd_same]
      rfl
    · have hmp : (t.put (p ++ [.lit s]) w.heap.size).mp q = t.mp q := upd_other _ _ hne
      have hev : (t.put (p ++ [.lit s]) w.heap.size).ev q = t.ev q := upd_other _ _ hne
      have ho := h.obj q d hq'
      rw [hheap d (h.lt hq') (cell_ne ho), ho]
      unfold nodeObj
      rw [hatW, hatD, hmp, hev]
  · intro q d hq
    rcases hat q d hq with ⟨rfl, rfl⟩ | ⟨hne, hq'⟩
    · omega
    · exact h.lo q d hq'
  · intro q r d hq hr
    rcases hat q d hq with ⟨rfl, rfl⟩ | ⟨hne, hq'⟩ <;> rcases hat r _ hr with ⟨rfl, hd⟩ | ⟨hne2, hr'⟩
    · rfl
    · have := h.lt hr'; omega
    · have := h.lt hq'; omega
    · exact h.inj q r d hq' hr'
  · intro q x d hq
    by_cases e : q = p ++ [.lit s]
    · subst e
      exact ⟨_, upd_same _ _ _⟩
    · rcases hat _ d hq with ⟨e2, rfl⟩ | ⟨hne, hq'⟩
      · obtain ⟨rfl, _⟩ := snoc_inj e2
        exact ⟨b, by show upd _ _ _ _ = _; rw [upd_other _ _ e]; exact hp⟩
      · obtain ⟨c, hc⟩ := h.pre q x d hq'
        exact ⟨c, by show upd _ _ _ _ = _; rw [upd_other _ _ e]; exact hc⟩
  · intro q d hq hm0 x
    rcases hat q d hq with ⟨rfl, rfl⟩ | ⟨hne, hq'⟩
    · rw [hatO _ _ (snoc_ne p _)]; exact hnb _
    · have hm0' : t.mp q = none := by rw [← hm0]; exact (upd_other _ _ hne).symm
      have hqp : q ≠ p := fun e => by rw [e, hm] at hm0'; cases hm0'
      rw [hatO q _ hqp]
      exact h.mapn q d hq' hm0' x
  · intro q d m' hq hm'
    rcases hat q d hq with ⟨rfl, rfl⟩ | ⟨hne, hq'⟩
    · have : (t.put (p ++ [.lit s]) w.heap.size).mp (p ++ [.lit s]) = none := upd_same _ _ _
      rw [this] at hm'; cases hm'
    · have hm2 : t.mp q = some m' := by rw [← hm']; exact (upd_other _ _ hne).symm
      obtain ⟨h1, h2⟩ := h.maps q d m' hq' hm2
      refine ⟨h1, ?_⟩
      by_cases hqp : q = p
      · subst hqp
        rw [hm] at hm2
        simp only [Option.some.injEq] at hm2
        subst hm2
        have : (fun x => (t.put (q ++ [.lit s]) w.heap.size).at' (q ++ [.lit x])) = fun x => if x = s then some w.heap.size else t.at' (q ++ [.lit x]) := by
          funext x
          by_cases hx : x = s
          · subst hx; rw [if_pos rfl]; exact upd_same _ _ _
          · rw [if_neg hx]; exact upd_other _ _ (fun e => hx (by have := (snoc_inj e).2; simpa using this))
        rw [this]
        exact hmap
      · have : (fun x => (t.put (p ++ [.lit s]) w.heap.size).at' (q ++ [.lit x])) = fun x => t.at' (q ++ [.lit x]) := funext fun x => hatO q _ hqp
        rw [this]
        have hmm : m' ≠ m := fun e => hqp (h.minj q p d b m hq' hp (by rw [hm2, e]) hm)
        exact (h2.kept (hheap m' (h.mlt hq' hm2).1 hmm)).mono (Nat.le_succ _)
  · intro q r d e m' hq hr hm1 hm2
    rcases hat q d hq with ⟨rfl, rfl⟩ | ⟨hne, hq'⟩
    · have : (t.put (p ++ [.lit s]) w.heap.size).mp (p ++ [.lit s]) = none := upd_same _ _ _
      rw [this] at hm1; cases hm1
    · rcases hat r e hr with ⟨rfl, rfl⟩ | ⟨hne2, hr'⟩
      · have : (t.put (p ++ [.lit s]) w.heap.size).mp (p ++ [.lit s]) = none := upd_same _ _ _
        rw [this] at hm2; cases hm2
      · exact h.minj q r d e m' hq' hr' (by rw [← hm1]; exact (upd_other _ _ hne).symm) (by rw [← hm2]; exact (upd_other _ _ hne2).symm)
  · intro q d hq
    rcases hat q d hq with ⟨rfl, rfl⟩ | ⟨hne, hq'⟩
    · have e1 : (t.put (p ++ [.lit s]) w.heap.size).ev (p ++ [.lit s]) = .slice none 0 0 := upd_same _ _ _
      have e2 : (t.put (p ++ [.lit s]) w.heap.size).en (p ++ [.lit s]) = [] := upd_same _ _ _
      rw [e1, e2]
      exact ⟨rfl, .inl ⟨rfl, rfl⟩⟩
    · have e1 : (t.put (p ++ [.lit s]) w.heap.size).ev q = t.ev q := upd_other _ _ hne
      have e2 : (t.put (p ++ [.lit s]) w.heap.size).en q = t.en q := upd_other _ _ hne
      rw [e1, e2]
      refine own_kept (h.ends q d hq') fun g hg => ?_
      obtain ⟨_, hgl, cur, hgo⟩ := h.elt hq' hg
      exact hheap g hgl (cell_ne hgo)
  · intro q r d e g hq hr hg1 hg2
    rcases hat q d hq with ⟨rfl, rfl⟩ | ⟨hne, hq'⟩
    · have e1 : (t.put (p ++ [.lit s]) w.heap.size).ev (p ++ [.lit s]) = .slice none 0 0 := upd_same _ _ _
      rw [e1] at hg1; simp [Value.ownBlock] at hg1
    · rcases hat r e hr with ⟨rfl, rfl⟩ | ⟨hne2, hr'⟩
      · have e1 : (t.put (p ++ [.lit s]) w.heap.size).ev (p ++ [.lit s]) = .slice none 0 0 := upd_same _ _ _
        rw [e1] at hg2; simp [Value.ownBlock] at hg2
      · exact h.einj q r d e g hq' hr' (by rw [← hg1]; exact congrArg _ (upd_other _ _ hne).symm) (by rw [← hg2]; exact congrArg _ (upd_other _ _ hne2).symm)

end Go.Proofs.Qxb6600448a.Tr
