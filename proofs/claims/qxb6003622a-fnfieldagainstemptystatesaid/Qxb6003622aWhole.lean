/- The proof of 'Rows.FnFieldAgainstEmptyStateSaid'. -/
import Derived.Test.Qxb6003622aFn
import Derived.Test.Qxb6003622aRows
import Derived.WalkKit
import Derived.ProofKit
import Derived.OpenShut
import Derived.ShutString
import Derived.ChangeOld
import Derived.Below
namespace Go.Proofs.Qxb6003622a.fnFieldAgainstEmptyState
open Go.ChangeShapes Go.WideShapes Go.ChangeAt Go.RowKit
open Go.ChangeMaps (open_string shut_string)
set_option linter.unusedVariables false

theorem own : ownKnob Try.prog.godebug = none := by kernel_rfl
theorem laidOut : laidOutB Try.prog = true := by kernel_rfl

/-- WHAT THE WALK IS TOLD OF A SLICE OF INTEGERS THAT CAME IN: it is nil; or it leads to a row of 'cap' cells, the numbers 'zs' (the first 'len' are its elements, the rest its spare room), each fitting its kind. -/
def IsRow (k : IntKind) (w : World) (a : Option Addr) (len cap : Nat) (zs : List Int) : Prop :=
  (a = none ∧ len = 0 ∧ cap = 0 ∧ zs = []) ∨
  ∃ x, a = some x ∧ len ≤ cap ∧ cap ≤ maxLen ∧ zs.length = cap ∧ (∀ i, i < zs.length → w.cell? (x.add i) = some (.int k (zs.getD i 0))) ∧ ∀ n ∈ zs, (Lit.int k n).wf = true

/-! ### STEP 1: THE WALK: the Go text returns true, AND WRITES NOTHING THAT WAS THERE: 'Below w.heap.size w w'' (Derived/Below.lean: '.refl', '.alloc', '.drew', '.setCell' at a new block, '.trans'). Open each 'IsRow' by 'rcases' AHEAD of 'go_enter'; part every test ahead of the walk. -/
theorem see_of_row {w : World} {a : Option Addr} {len cap : Nat} {zs : List Int} (h : IsRow .u8 w a len cap zs) : Fld.See w a len cap (zs.take len) ∧ len ≤ maxLen := by
  rcases h with ⟨rfl, rfl, rfl, rfl⟩ | ⟨x, rfl, hl, hm, hz, hc, hw⟩
  · exact ⟨Fld.See.nil w, Nat.zero_le _⟩
  · refine ⟨⟨by simp; omega, hl, (fun h => by cases h), fun hn => ?_, fun n hn => ?_⟩, Nat.le_trans hl hm⟩
    · obtain ⟨b, o, hp, hcell⟩ := Lib.BytesIn.of_cells (w := w) (a := x) (n := zs.length) (xs := zs) hc (by omega)
      refine ⟨b, o, hp, fun i hi => ?_⟩
      rw [hcell i (by omega)]
      congr 2
      simp only [List.getD, List.getElem?_take]
      rw [if_pos hi]
    · have := hw n (List.mem_of_mem_take hn)
      simp only [Lit.wf, Bool.and_eq_true, decide_eq_true_eq] at this
      have e1 : IntKind.u8.min = 0 := by decide
      have e2 : IntKind.u8.max = 255 := by decide
      omega

theorem kinds (xs : List Int) : Fld.kindOf xs = 0 ∨ Fld.kindOf xs = 1 ∨ Fld.kindOf xs = 2 := by
  unfold Fld.kindOf
  split
  · exact .inr (.inl rfl)
  · split
    · exact .inr (.inr rfl)
    · exact .inl rfl

set_option maxHeartbeats 1000000 in
theorem walk (a0 : ByteArray) (a1 : Option Addr) (len1 cap1 : Nat) (z1 : List Int) (a2 : Option Addr) (len2 cap2 : Nat) (z2 : List Int) (w : World) (w0 : a0.size ≤ maxLen) (w1 : IsRow .u8 w a1 len1 cap1 z1) (w2 : IsRow .u8 w a2 len2 cap2 z2) :
    Calls Try.prog 3 #[.string a0, .slice a1 len1 cap1, .slice a2 len2 cap2] w fun e w' => e = .returned (.bool true) ∧ Below w.heap.size w w' := by
  obtain ⟨s1, m1⟩ := see_of_row w1
  obtain ⟨s2, m2⟩ := see_of_row w2
  have S1 := Fld.Hid.mk' s1
  have S2 := Fld.Hid.mk' s2
  clear s1 s2 w1 w2
  by_cases hsum : a0.size + len1 + len2 ≤ 1048576
  · by_cases he : a0.size ≤ 262144
    · by_cases h1 : len1 ≤ 262144
      · by_cases h2 : len2 ≤ 262144
        · rcases kinds (z2.take len2) with hk | hk | hk
          · exact Fld.fn_k0 a0 a1 len1 cap1 _ a2 len2 cap2 _ w hsum he h1 h2 S1 S2 hk
          · exact Fld.fn_k1 a0 a1 len1 cap1 _ a2 len2 cap2 _ w hsum he h1 h2 S1 S2 hk
          · exact Fld.fn_k2 a0 a1 len1 cap1 _ a2 len2 cap2 _ w hsum he h1 h2 S1 S2 hk
        · clear S1 S2
          go_enter Try.func3, Try.ntmps3
          go_wp2_with (go_at_call 5; refine (Fld.bytes_yes _ _ _ _ _ _ _ _ (by omega)).mono ?_; rintro e w ⟨rfl, rfl⟩)
          go_ret
          exact ⟨rfl, Below.refl _ _⟩
      · clear S1 S2
        go_enter Try.func3, Try.ntmps3
        go_wp2_with (go_at_call 5; refine (Fld.bytes_yes _ _ _ _ _ _ _ _ (by omega)).mono ?_; rintro e w ⟨rfl, rfl⟩)
        go_ret
        exact ⟨rfl, Below.refl _ _⟩
    · clear S1 S2
      go_enter Try.func3, Try.ntmps3
      go_wp2_with (go_at_call 5; refine (Fld.bytes_yes _ _ _ _ _ _ _ _ (by omega)).mono ?_; rintro e w ⟨rfl, rfl⟩)
      go_ret
      exact ⟨rfl, Below.refl _ _⟩
  · clear S1 S2
    go_enter Try.func3, Try.ntmps3
    go_wp2_with (go_at_call 5; refine (Fld.bytes_no _ _ _ _ _ _ _ _ w0 m1 m2 hsum).mono ?_; rintro e w ⟨rfl, rfl⟩)
    go_ret
    exact ⟨rfl, Below.refl _ _⟩

/-! ### THE ROW's STEP: WRITTEN OUT: LEAVE IT -/
set_option maxRecDepth 100000 in
theorem lifted (os : Os) (started : os.Started) (H : Type) (enc : TypeId × Value → H) :
    ReturnsInHanded {} Try.checked os 3 .any (Rows.fnFieldAgainstEmptyStateSpec.pre6 enc Try.prog Try.f3 Rows.fnFieldAgainstEmptyStateRow.domain false) (Rows.fnFieldAgainstEmptyStateSpec.post enc Try.prog Try.f3 false true false false) := by
  refine returnsInHanded_of_change (C := Try.checked) own started (by kernel_rfl) Try.func3
    (ChangeSpec.witness6 (enc := enc) (C := Try.checked) false ⟨#[], #[.string ByteArray.empty, .slice none 0 0, .slice none 0 0], []⟩ 8 (by kernel_rfl) (by kernel_rfl) (by kernel_rfl) (by kernel_rfl)) ?_
  intro W base args ds gs before hval0 hW hcnd _
  have hval : ∀ (j : Nat) t v, Try.f3.params[j]? = some t → args[j]? = some v → Value.okWide Try.prog W .any base t v := hval0
  have hW' := hW
  obtain ⟨p, q, hA0, hV, rfl, hfz, hnd⟩ := hW
  have hA : DataW.TrodAll enc Try.prog W 0 (fun _ => true) true Try.f3.params.toList args.toList ds p := hA0
  rw [Try.params3] at hA hval
  obtain ⟨v0, vs0, d0, ds0, p0, q0, hargs, rfl, rfl, h0, r0⟩ := trodAll_cons hA
  obtain ⟨v1, vs1, d1, ds1, p1, q1, rfl, rfl, rfl, h1, r1⟩ := trodAll_cons r0
  obtain ⟨v2, vs2, d2, ds2, p2, q2, rfl, rfl, rfl, h2, r2⟩ := trodAll_cons r1
  obtain ⟨rfl, rfl, rfl⟩ := trodAll_nil r2
  obtain rfl : args = #[v0, v1, v2] := by cases args; simp_all
  obtain ⟨rfl, rfl⟩ := trodVars_none hV
  obtain ⟨a0, rfl, rfl, rfl, w0⟩ := open_string Try.underlying9 (hval 0 9 v0 rfl rfl) h0
  obtain ⟨a1, len1, cap1, rfl⟩ := okWide_slice Try.underlying22 (hval 1 22 v1 rfl rfl)
  have k1 := h1
  have lt1 : ∀ x ∈ p1, x.block < W.heap.size := by obtain ⟨m, hm⟩ := k1; exact DataW.trod_lt m _ _ _ hm
  obtain ⟨z1, w1⟩ : ∃ zs, IsRow .u8 W a1 len1 cap1 zs := by
    obtain ⟨fuel, hf⟩ := h1
    rcases open_ints Try.underlying22 Try.underlying5 (by kernel_rfl) hf with ⟨hcs, _⟩ | ⟨x, l, c, zs, hcs, _, hl, hm, hz, _, hcell, hwz⟩
    · simp [Value.cells] at hcs
      obtain ⟨rfl, rfl, rfl⟩ := hcs
      exact ⟨[], .inl ⟨rfl, rfl, rfl, rfl⟩⟩
    · simp [Value.cells] at hcs
      obtain ⟨rfl, rfl, rfl⟩ := hcs
      exact ⟨zs, .inr ⟨_, rfl, hl, hm, by simpa using hz, hcell, hwz⟩⟩
  obtain ⟨a2, len2, cap2, rfl⟩ := okWide_slice Try.underlying22 (hval 2 22 v2 rfl rfl)
  have k2 := h2
  have lt2 : ∀ x ∈ p2, x.block < W.heap.size := by obtain ⟨m, hm⟩ := k2; exact DataW.trod_lt m _ _ _ hm
  obtain ⟨z2, w2⟩ : ∃ zs, IsRow .u8 W a2 len2 cap2 zs := by
    obtain ⟨fuel, hf⟩ := h2
    rcases open_ints Try.underlying22 Try.underlying5 (by kernel_rfl) hf with ⟨hcs, _⟩ | ⟨x, l, c, zs, hcs, _, hl, hm, hz, _, hcell, hwz⟩
    · simp [Value.cells] at hcs
      obtain ⟨rfl, rfl, rfl⟩ := hcs
      exact ⟨[], .inl ⟨rfl, rfl, rfl, rfl⟩⟩
    · simp [Value.cells] at hcs
      obtain ⟨rfl, rfl, rfl⟩ := hcs
      exact ⟨zs, .inr ⟨_, rfl, hl, hm, by simpa using hz, hcell, hwz⟩⟩
  clear hA0 hval0
  refine (walk a0 a1 len1 cap1 z1 a2 len2 cap2 z2 W w0 w1 w2).mono fun e W' ⟨he, bel⟩ => ?_
  subst he
  exact ⟨_, rfl, _, _, _, [], _, [], hW', trodAll_mk1 (shut_bool Try.underlying4 _), (trodAll_cons_mk (shut_string Try.underlying9 w0) (trodAll_cons_mk (Below.trod laidOut (by kernel_rfl) (of_decide_eq_true (by kernel_rfl)) k1 bel lt1) (trodAll_cons_mk (Below.trod laidOut (by kernel_rfl) (of_decide_eq_true (by kernel_rfl)) k2 bel lt2) trodAll_mk0))), rfl, bel.frame _, fun h => by cases h⟩

theorem over : Rows.fnFieldAgainstEmptyStateRow.holds Try.pinned (OpenSpec.ofChange Rows.fnFieldAgainstEmptyStateSpec) :=
  OpenClaim.holds_of_wide 3 Try.f3 rfl rfl rfl rfl rfl rfl rfl ⟨rfl, rfl, rfl, rfl, rfl⟩ rfl rfl rfl rfl rfl (by kernel_rfl) Try.func3 (by kernel_rfl)
    (of_decide_eq_true (by kernel_rfl)) (by unfold Func.isWrapper; first | (rw [if_pos (by decide +kernel)]; kernel_rfl) | (rw [if_neg (by decide +kernel)]; exact ⟨rfl, rfl⟩))
    (fun os started H enc _ => lifted os started H enc)

end Go.Proofs.Qxb6003622a.fnFieldAgainstEmptyState

namespace Go.Proofs.Qxb6003622a
/-- THE STATEMENT. -/
theorem fnFieldAgainstEmptyState_proved : Rows.FnFieldAgainstEmptyStateSaid := fnFieldAgainstEmptyState.over
end Go.Proofs.Qxb6003622a
