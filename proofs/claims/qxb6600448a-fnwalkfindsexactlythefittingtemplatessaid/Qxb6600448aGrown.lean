/- Seat b6600448a: what the tree holds after i templates. -/
import Derived.Test.Qxb6600448aEnds
namespace Go.Proofs.Qxb6600448a.Tr
open Go.RowKit
set_option linter.unusedVariables false

def path (xss : List (List ByteArray)) (x : Nat) : List Seg := pathOf (txts (xss.getD x []))
def at_ (xss : List (List ByteArray)) (i : Nat) (q : List Seg) : List Nat := (List.range i).filter fun x => decide (path xss x = q)

structure Grown (xss : List (List ByteArray)) (i : Nat) (t : Tre) : Prop where
  en : ∀ q b, t.at' q = some b → t.en q = at_ xss i q
  has : ∀ x, x < i → ∃ b, t.at' (path xss x) = some b
  dd : ∀ q y, t.at' (q ++ [.deep] ++ [y]) = none

theorem Grown.start (xss : List (List ByteArray)) (b : Nat) : Grown xss 0 (root b) := ⟨fun q b h => rfl, fun x hx => by omega, fun q y => root_none _ _ _⟩

theorem segAt_last {t : List Txt} {j : Nat} (h : segAt t j = .deep) : j + 1 = t.length := by
  unfold segAt at h
  split at h
  · rename_i hh; exact hh.2
  · split at h <;> cases h

theorem Grown.child {w : World} {B K : Nat} {xss : List (List ByteArray)} {i j : Nat} {t t' : Tre} (h : Grown xss i t) (xs : List Txt) (hj : j < xs.length)
    (hx : Ext t t' ((pathOf xs).take j ++ [segAt xs j])) : Grown xss i t' := by
  have hne : ∀ q y, q ++ [.deep] ++ [y] ≠ (pathOf xs).take j ++ [segAt xs j] := by
    intro q y e
    have e1 := (snoc_inj e).1
    cases j with
    | zero => simp at e1
    | succ j =>
      rw [pathOf_take xs j (by omega)] at e1
      have := segAt_last (snoc_inj e1).2.symm
      omega
  refine ⟨fun q b hq => ?_, fun x hxi => ?_, fun q y => ?_⟩
  · by_cases hq0 : q = (pathOf xs).take j ++ [segAt xs j]
    · cases ht : t.at' q with
      | none =>
        rw [hq0, hx.fresh (by rw [← hq0]; exact ht)]
        symm
        unfold at_
        rw [List.filter_eq_nil_iff]
        intro x hx2
        simp only [List.mem_range] at hx2
        simp only [decide_eq_true_eq]
        intro e
        obtain ⟨b', hb'⟩ := h.has x hx2
        rw [e, ← hq0, ht] at hb'
        cases hb'
      | some d => rw [(hx.kept q d ht).2]; exact h.en q d ht
    · rw [hx.other q hq0] at hq
      rw [(hx.kept q b hq).2]
      exact h.en q b hq
  · obtain ⟨b, hb⟩ := h.has x hxi
    exact ⟨b, (hx.kept _ b hb).1⟩
  · rw [hx.other _ (hne q y)]
    exact h.dd q y

theorem Grown.ended {xss : List (List ByteArray)} {i b : Nat} {t : Tre} (h : Grown xss i t) (hb : t.at' (path xss i) = some b) (v : Value) : Grown xss (i + 1) (t.setEv (path xss i) v i) := by
  refine ⟨fun q d hq => ?_, fun x hx => ?_, h.dd⟩
  · have hq' : t.at' q = some d := hq
    unfold at_
    rw [List.range_succ, List.filter_append]
    by_cases e : q = path xss i
    · subst e
      show upd _ _ _ _ = _
      rw [upd_same, h.en _ b hb]
      simp [at_]
    · show upd _ _ _ _ = _
      rw [upd_other _ _ e, h.en q d hq']
      have : ¬ path xss i = q := fun e' => e e'.symm
      simp [at_, this]
  · by_cases hxi : x < i
    · exact h.has x hxi
    · rw [show x = i from by omega]; exact ⟨b, hb⟩

theorem at_len (xss : List (List ByteArray)) (i : Nat) (q : List Seg) : (at_ xss i q).length ≤ i := by
  have := List.length_filter_le (fun x => decide (path xss x = q)) (List.range i)
  simpa [at_] using this

theorem Rep.prefix {w : World} {B K : Nat} {t : Tre} (h : Rep w B K t) : ∀ (q p : List Seg) (b : Nat), t.at' (p ++ q) = some b → ∃ c, t.at' p = some c
  | [], p, b, hb => ⟨b, by simpa using hb⟩
  | x :: q, p, b, hb => by
    obtain ⟨c, hc⟩ := Rep.prefix h q (p ++ [x]) b (by simpa using hb)
    exact h.pre _ _ _ hc
theorem Rep.drew {w : World} {B K : Nat} {t : Tre} (h : Rep w B K t) : Rep w.drew B K t := h.later ((Below.refl _ w).drew)

end Go.Proofs.Qxb6600448a.Tr
