/- Seat b6600448a: a node gets its map; a node gets an end. -/
import Derived.Test.Qxb6600448aGrow2
namespace Go.Proofs.Qxb6600448a.Tr
open Go.RowKit
set_option linter.unusedVariables false

def Tre.setMp (t : Tre) (p : List Seg) (m : Nat) : Tre := { t with mp := upd t.mp p (some m) }
def Tre.setEv (t : Tre) (p : List Seg) (v : Value) (i : Nat) : Tre := { t with ev := upd t.ev p v, en := upd t.en p (t.en p ++ [i]) }

theorem Rep.newMap {w : World} {B K : Nat} {t : Tre} (h : Rep w B K t) {p : List Seg} {b : Nat} (hp : t.at' p = some b) (hm : t.mp p = none) :
    Rep ((w.alloc (.map #[] 0)).setCell ⟨b, 0, none⟩ (.map (some w.heap.size))) B K (t.setMp p w.heap.size) := by
  have hb := h.lt hp
  have hBb := h.lo p b hp
  have hheap : ∀ i, i < w.heap.size → i ≠ b → ((w.alloc (.map #[] 0)).setCell ⟨b, 0, none⟩ (.map (some w.heap.size))).heap[i]? = w.heap[i]? := by
    intro i hi hib
    rw [heap_set_other _ _ _ _ hib, heap_old w _ hi]
  refine ⟨?_, h.lo, h.inj, h.pre, ?_, ?_, ?_, ?_, h.einj⟩
  · intro q d hq
    have hq' : t.at' q = some d := hq
    by_cases hqp : q = p
    · subst hqp
      rw [hp] at hq'
      simp only [Option.some.injEq] at hq'
      subst hq'
      have ho := h.obj q b hp
      unfold nodeObj at ho ⊢
      rw [heap_set_same (by rw [heap_old w _ hb]; exact ho)]
      have e1 : (t.setMp q w.heap.size).mp q = some w.heap.size := upd_same _ _ _
      rw [e1]
      rfl
    · have hdb : d ≠ b := fun e => hqp (h.inj q p b (by rw [hq', e]) hp)
      rw [hheap d (h.lt hq') hdb, h.obj q d hq']
      unfold nodeObj
      have e1 : (t.setMp p w.heap.size).mp q = t.mp q := upd_other _ _ hqp
      rw [e1]
      rfl
  · intro q d hq hm0 x
    by_cases hqp : q = p
    · subst hqp
      have e1 : (t.setMp q w.heap.size).mp q = some w.heap.size := upd_same _ _ _
      rw [e1] at hm0; cases hm0
    · exact h.mapn q d hq (by rw [← hm0]; exact (upd_other _ _ hqp).symm) x
  · intro q d m hq hm0
    by_cases hqp : q = p
    · subst hqp
      have e1 : (t.setMp q w.heap.size).mp q = some w.heap.size := upd_same _ _ _
      rw [e1] at hm0
      simp only [Option.some.injEq] at hm0
      subst hm0
      refine ⟨by omega, 0, .map [], Nat.zero_le _, ?_, fun s => ?_⟩
      · have := World.ownsMap_made w Try.prog 9 ptrR
        obtain ⟨es, c, h1, h2⟩ := this
        exact ⟨es, c, by rw [heap_set_other _ _ _ _ (by omega)]; exact h1, h2⟩
      · have e2 : (t.setMp q w.heap.size).at' (q ++ [.lit s]) = none := h.mapn q b hp hm s
        show _ = pd ((t.setMp q w.heap.size).at' (q ++ [.lit s]))
        rw [e2]
        rfl
    · have hm2 : t.mp q = some m := by rw [← hm0]; exact (upd_other _ _ hqp).symm
      obtain ⟨h1, h2⟩ := h.maps q d m hq hm2
      obtain ⟨hml, es, cl, hmo⟩ := h.mlt hq hm2
      have hmb : m ≠ b := by
        intro e; subst e
        rw [h.obj p m hp] at hmo
        simp [nodeObj] at hmo
      exact ⟨h1, h2.kept (hheap m hml hmb)⟩
  · intro q r d e m hq hr hm1 hm2
    have hlt : ∀ {q d}, t.at' q = some d → q ≠ p → (t.setMp p w.heap.size).mp q = some m → m < w.heap.size := by
      intro q d hq hqp hm
      exact (h.mlt hq (by rw [← hm]; exact (upd_other _ _ hqp).symm)).1
    by_cases hqp : q = p <;> by_cases hrp : r = p
    · rw [hqp, hrp]
    · subst hqp
      have e1 : (t.setMp q w.heap.size).mp q = some w.heap.size := upd_same _ _ _
      rw [e1] at hm1
      simp only [Option.some.injEq] at hm1
      have := hlt hr hrp hm2
      omega
    · subst hrp
      have e1 : (t.setMp r w.heap.size).mp r = some w.heap.size := upd_same _ _ _
      rw [e1] at hm2
      simp only [Option.some.injEq] at hm2
      have := hlt hq hqp hm1
      omega
    · exact h.minj q r d e m hq hr (by rw [← hm1]; exact (upd_other _ _ hqp).symm) (by rw [← hm2]; exact (upd_other _ _ hrp).symm)
  · intro q d hq
    refine own_kept (h.ends q d hq) fun g hg => ?_
    obtain ⟨_, hgl, cur, hgo⟩ := h.elt hq hg
    refine hheap g hgl (fun e => ?_)
    subst e
    rw [h.obj p g hp] at hgo
    simp [nodeObj] at hgo

/-- an end more: w4 is what the append left. -/
theorem Rep.addEnd {w w4 : World} {B K : Nat} {t : Tre} (h : Rep w B K t) {p : List Seg} {b i : Nat} {v' : Value} (hp : t.at' p = some b)
    (hheap : ∀ k, k < w.heap.size → some k ≠ (t.ev p).ownBlock → w4.heap[k]? = w.heap[k]?)
    (hown : w4.ownsRow B 3 1 v' ((t.en p).length + 1) ((t.en p).map (fun i => Value.int .i64 (i : Nat)) ++ [Value.int .i64 (i : Nat)]))
    (hloc : ∀ g, v'.ownBlock = some g → (t.ev p).ownBlock = some g ∨ w.heap.size ≤ g) :
    Rep (w4.setCell ⟨b, 3, none⟩ v') B K (t.setEv p v' i) := by
  have hb := h.lt hp
  have hob : ∀ {k : Nat} {cs : Array Value} {fr : Nat × Nat}, w.heap[k]? = some (.cells cs 51 fr) → some k ≠ (t.ev p).ownBlock := by
    intro k cs fr hk e
    obtain ⟨_, _, cur, hc⟩ := h.elt hp e.symm
    rw [hc] at hk
    simp at hk
  have hb4 : w4.heap[b]? = w.heap[b]? := hheap b hb (hob (h.obj p b hp))
  have hne : ∀ k, k < w.heap.size → k ≠ b → some k ≠ (t.ev p).ownBlock → (w4.setCell ⟨b, 3, none⟩ v').heap[k]? = w.heap[k]? := by
    intro k hk hkb hkr
    rw [heap_set_other _ _ _ _ hkb, hheap k hk hkr]
  refine ⟨?_, h.lo, h.inj, h.pre, h.mapn, ?_, h.minj, ?_, ?_⟩
  · intro q d hq
    have hq' : t.at' q = some d := hq
    by_cases hqp : q = p
    · subst hqp
      rw [hp] at hq'
      simp only [Option.some.injEq] at hq'
      subst hq'
      have ho := h.obj q b hp
      unfold nodeObj at ho ⊢
      rw [heap_set_same (by rw [hb4]; exact ho)]
      have e1 : (t.setEv q v' i).ev q = v' := upd_same _ _ _
      rw [e1]
      rfl
    · have hdb : d ≠ b := fun e => hqp (h.inj q p b (by rw [hq', e]) hp)
      have ho := h.obj q d hq'
      rw [hne d (h.lt hq') hdb (hob ho), ho]
      unfold nodeObj
      have e1 : (t.setEv p v' i).ev q = t.ev q := upd_other _ _ hqp
      rw [e1]
      rfl
  · intro q d m hq hm0
    obtain ⟨h1, h2⟩ := h.maps q d m hq hm0
    obtain ⟨hml, es, cl, hmo⟩ := h.mlt hq hm0
    have hmb : m ≠ b := by
      intro e; subst e
      rw [h.obj p m hp] at hmo
      simp [nodeObj] at hmo
    have hmr : some m ≠ (t.ev p).ownBlock := by
      intro e
      obtain ⟨_, _, cur, hc⟩ := h.elt hp e.symm
      rw [hc] at hmo
      cases hmo
    exact ⟨h1, h2.kept (hne m hml hmb hmr)⟩
  · intro q d hq
    by_cases hqp : q = p
    · subst hqp
      have e1 : (t.setEv q v' i).ev q = v' := upd_same _ _ _
      have e2 : (t.setEv q v' i).en q = t.en q ++ [i] := upd_same _ _ _
      rw [e1, e2]
      have hx : v'.ownBlock ≠ some b := by
        intro e
        rcases hloc b e with e2 | e2
        · exact hob (h.obj q b hp) e2.symm
        · omega
      have := ownsRow_setCell_other hown (a := ⟨b, 3, none⟩) hx v'
      simpa using this
    · have e1 : (t.setEv p v' i).ev q = t.ev q := upd_other _ _ hqp
      have e2 : (t.setEv p v' i).en q = t.en q := upd_other _ _ hqp
      rw [e1, e2]
      refine own_kept (h.ends q d hq) fun g hg => ?_
      obtain ⟨_, hgl, cur, hgo⟩ := h.elt hq hg
      refine hne g hgl (fun e => ?_) (fun e => hqp (h.einj q p d b g hq hp hg e.symm))
      subst e
      rw [h.obj p g hp] at hgo
      simp [nodeObj] at hgo
  · intro q r d e g hq hr hg1 hg2
    have old : ∀ {q d}, t.at' q = some d → q ≠ p → (t.ev q).ownBlock = some g → v'.ownBlock = some g → False := by
      intro q d hq hqp h1 h2
      rcases hloc g h2 with h3 | h3
      · exact hqp (h.einj q p d b g hq hp h1 h3)
      · have := (h.elt hq h1).2.1; omega
    by_cases hqp : q = p <;> by_cases hrp : r = p
    · rw [hqp, hrp]
    · subst hqp
      have e1 : (t.setEv q v' i).ev q = v' := upd_same _ _ _
      have e2 : (t.setEv q v' i).ev r = t.ev r := upd_other _ _ hrp
      rw [e1] at hg1; rw [e2] at hg2
      exact (old hr hrp hg2 hg1).elim
    · subst hrp
      have e1 : (t.setEv r v' i).ev r = v' := upd_same _ _ _
      have e2 : (t.setEv r v' i).ev q = t.ev q := upd_other _ _ hqp
      rw [e1] at hg2; rw [e2] at hg1
      exact (old hq hqp hg1 hg2).elim
    · have e1 : (t.setEv p v' i).ev q = t.ev q := upd_other _ _ hqp
      have e2 : (t.setEv p v' i).ev r = t.ev r := upd_other _ _ hrp
      rw [e1] at hg1; rw [e2] at hg2
      exact h.einj q r d e g hq hr hg1 hg2

end Go.Proofs.Qxb6600448a.Tr
