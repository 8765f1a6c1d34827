/- The proof of 'Rows.FnWalkFindsExactlyTheFittingTemplatesSaid'. -/
import Derived.Test.Qxb6600448aFn
import Derived.Test.Qxb6600448aRows
import Derived.WalkKit
import Derived.ProofKit
import Derived.OpenShut
import Derived.ShutString
import Derived.ChangeOld
import Derived.Below
import Derived.HandedShaped
import Derived.SliceStrings
import Derived.Deep.Slices
namespace Go.Proofs.Qxb6600448a.fnWalkFindsExactlyTheFittingTemplates
open Go.ChangeShapes Go.WideShapes Go.ChangeAt Go.RowKit
open Go.ChangeMaps (open_string shut_string)
open Go.Proofs.Qxb6600448a.Tr
set_option linter.unusedVariables false

theorem own : ownKnob Try.prog.godebug = none := by kernel_rfl
theorem laidOut : laidOutB Try.prog = true := by kernel_rfl
theorem cells9 : Try.prog.cellsOf 9 = 1 := by kernel_rfl
theorem cells41 : Try.prog.cellsOf 41 = 1 := by kernel_rfl

theorem addr_plain {w : World} {a : Addr} {v : Value} (h : w.cell? (a.add 0) = some v) : ∃ b o, a = ⟨b, o, none⟩ := by
  obtain ⟨b, o, sp⟩ := a
  cases sp with
  | none => exact ⟨b, o, rfl⟩
  | some x =>
    unfold World.cell? at h
    split at h
    · simp [Addr.add] at h
    · cases h
theorem addr_add (b o i : Nat) : (⟨b, o, none⟩ : Addr).add i = ⟨b, o + i, none⟩ := by
  unfold Addr.add
  split
  · rename_i h; subst h; rfl
  · rfl

/-- a slice of strings that came in. -/
theorem see_row {H : Type} {enc : TypeId × Value → H} {W : World} {fuel : Nat} {v : Value} {x : DataW H × List MemPlace} (h : DataW.trod enc Try.prog W 0 (fun _ => true) true fuel 41 [v] = some x) :
    ∃ xs : List ByteArray, (∃ p n c, v = .slice p n c ∧ SeeS W p n c xs) ∧ xs.length ≤ maxLen ∧ ∀ s ∈ xs, s.size ≤ maxLen := by
  rcases open_strings Try.underlying41 Try.underlying9 cells9 h with ⟨hcs, _⟩ | ⟨a, len, cap, ss, hcs, _, hl, hm, hss, _, hcell, hsz⟩
  · simp only [List.cons.injEq, and_true] at hcs
    subst hcs
    exact ⟨[], ⟨_, _, _, rfl, SeeS.nil W⟩, Nat.zero_le _, fun s hs => by cases hs⟩
  · simp only [List.cons.injEq, and_true] at hcs
    subst hcs
    simp only [if_true] at hss
    have hlen : (ss.take len).length = len := by rw [List.length_take]; omega
    refine ⟨ss.take len, ⟨_, _, _, rfl, ⟨hlen, hl, (fun h => by cases h), fun hn => ?_⟩⟩, by rw [hlen]; omega, fun s hs => hsz s (List.mem_of_mem_take hs)⟩
    obtain ⟨b, o, rfl⟩ := addr_plain (hcell 0 (by omega))
    refine ⟨b, o, rfl, fun i hi => ?_⟩
    have := hcell i (by omega)
    rw [addr_add] at this
    rw [this]
    congr 2
    simp only [List.getD, List.getElem?_take]
    rw [if_pos hi]
    rfl

/-- a slice of slices of strings that came in. -/
theorem see_rows {H : Type} {enc : TypeId × Value → H} {W : World} {fuel : Nat} {p : Option Addr} {n c : Nat} {x : DataW H × List MemPlace} (h : DataW.trod enc Try.prog W 0 (fun _ => true) true fuel 35 [.slice p n c] = some x) :
    ∃ xss, SeeSS W p n c xss ∧ Fine maxLen xss ∧ n ≤ maxLen := by
  rcases Go.Deep.open_slice1 Try.underlying35 cells41 h with ⟨hcs, _⟩ | ⟨a, len, cap, m, k, V, D, Pl, hcs, _, hl, hm, hmm, _, hel⟩
  · simp only [List.cons.injEq, and_true, Value.slice.injEq] at hcs
    obtain ⟨rfl, rfl, rfl⟩ := hcs
    exact ⟨[], SeeSS.nil W, (fun xs hx => by cases hx), Nat.zero_le _⟩
  · simp only [List.cons.injEq, and_true, Value.slice.injEq] at hcs
    obtain ⟨rfl, rfl, rfl⟩ := hcs
    simp only [if_true] at hmm
    obtain ⟨f, hf⟩ := Go.Deep.choose_lt (n := n) (p := fun i xs => (∃ p' n' c', V i = .slice p' n' c' ∧ SeeS W p' n' c' xs) ∧ xs.length ≤ maxLen ∧ ∀ s ∈ xs, s.size ≤ maxLen) (fun i hi => see_row (hel i (by omega)).2)
    have hget : ∀ i, i < n → ((List.range n).map f).getD i [] = f i := by
      intro i hi
      simp [List.getD, hi]
    refine ⟨(List.range n).map f, ⟨by simp, hl, (fun h => by cases h), fun i hi => ?_⟩, ?_, Nat.le_trans hl hm⟩
    · obtain ⟨b, o, rfl⟩ := addr_plain (hel 0 (by omega)).1
      obtain ⟨⟨p', n', c', hv, hs⟩, _⟩ := hf i hi
      refine ⟨b, o, p', n', c', rfl, ?_, ?_⟩
      · have := (hel i (by omega)).1
        rw [addr_add] at this
        rw [this, hv]
      · rw [hget i hi]; exact hs
    · intro xs hx
      obtain ⟨i, hi, rfl⟩ := List.mem_map.1 hx
      exact (hf i (List.mem_range.1 hi)).2

set_option maxRecDepth 100000 in
theorem lifted (os : Os) (started : os.Started) (H : Type) (enc : TypeId × Value → H) :
    ReturnsInHanded {} Try.checked os 5 .any (Rows.fnWalkFindsExactlyTheFittingTemplatesSpec.pre6 enc Try.prog Try.f5 Rows.fnWalkFindsExactlyTheFittingTemplatesRow.domain false) (Rows.fnWalkFindsExactlyTheFittingTemplatesSpec.post enc Try.prog Try.f5 false true false false) := by
  refine returnsInHanded_of_change_shaped (C := Try.checked) own started (by kernel_rfl) Try.func5
    (ChangeSpec.witness6 (enc := enc) (C := Try.checked) false ⟨#[], #[.slice none 0 0, .string ByteArray.empty], []⟩ 8 (by kernel_rfl) (by kernel_rfl) (by kernel_rfl) (by kernel_rfl)) ?_
  intro W base args ds gs before hval0 hW hcnd _ hsh _
  have hval : ∀ (j : Nat) t v, Try.f5.params[j]? = some t → args[j]? = some v → Value.okWide Try.prog W .any base t v := hval0
  have hW' := hW
  obtain ⟨p, q, hA0, hV, rfl, hfz, hnd⟩ := hW
  have hA : DataW.TrodAll enc Try.prog W 0 (fun _ => true) true Try.f5.params.toList args.toList ds p := hA0
  rw [Try.params5] at hA hval
  obtain ⟨v0, vs0, d0, ds0, p0, q0, hargs, rfl, rfl, h0, r0⟩ := trodAll_cons hA
  obtain ⟨v1, vs1, d1, ds1, p1, q1, rfl, rfl, rfl, h1, r1⟩ := trodAll_cons r0
  obtain ⟨rfl, rfl, rfl⟩ := trodAll_nil r1
  obtain rfl : args = #[v0, v1] := by cases args; simp_all
  obtain ⟨rfl, rfl⟩ := trodVars_none hV
  obtain ⟨a0, len0, cap0, rfl⟩ := okWide_slice Try.underlying35 (hval 0 35 v0 rfl rfl)
  obtain ⟨a1, rfl, rfl, rfl, w1⟩ := open_string Try.underlying9 (hval 1 9 v1 rfl rfl) h1
  have k0 := h0
  have lt0 : ∀ x ∈ p0, x.block < W.heap.size := by obtain ⟨m, hm⟩ := k0; exact DataW.trod_lt m _ _ _ hm
  obtain ⟨m, hm⟩ := Try.maxlen_cell W hsh
  obtain ⟨xss, hS, hF, hn⟩ : ∃ xss, SeeSS W a0 len0 cap0 xss ∧ Fine maxLen xss ∧ len0 ≤ maxLen := by
    obtain ⟨fuel, hf⟩ := h0
    exact see_rows hf
  clear hA0 hval0
  refine (fn_any a0 len0 cap0 a1 xss m W hn w1 hS hF hm).mono fun e W' ⟨he, bel⟩ => ?_
  subst he
  exact ⟨_, rfl, _, _, _, [], _, [], hW', trodAll_mk1 (shut_bool Try.underlying4 _), (trodAll_cons_mk (Below.trod laidOut (by kernel_rfl) (of_decide_eq_true (by kernel_rfl)) k0 bel lt0) (trodAll_cons_mk (shut_string Try.underlying9 w1) trodAll_mk0)), rfl, bel.frame _, fun h => by cases h⟩

theorem over : Rows.fnWalkFindsExactlyTheFittingTemplatesRow.holds Try.pinned (OpenSpec.ofChange Rows.fnWalkFindsExactlyTheFittingTemplatesSpec) :=
  OpenClaim.holds_of_wide 5 Try.f5 rfl rfl rfl rfl rfl rfl rfl ⟨rfl, rfl, rfl, rfl, rfl⟩ rfl rfl rfl rfl rfl (by kernel_rfl) Try.func5 (by kernel_rfl)
    (of_decide_eq_true (by kernel_rfl)) (by unfold Func.isWrapper; first | (rw [if_pos (by decide +kernel)]; kernel_rfl) | (rw [if_neg (by decide +kernel)]; exact ⟨rfl, rfl⟩))
    (fun os started H enc _ => lifted os started H enc)

end Go.Proofs.Qxb6600448a.fnWalkFindsExactlyTheFittingTemplates

namespace Go.Proofs.Qxb6600448a
/-- THE STATEMENT. -/
theorem fnWalkFindsExactlyTheFittingTemplates_proved : Rows.FnWalkFindsExactlyTheFittingTemplatesSaid := fnWalkFindsExactlyTheFittingTemplates.over
end Go.Proofs.Qxb6600448a
