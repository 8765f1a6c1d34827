/- Seat b6003622a: zzParseField, any line. -/
import Derived.Test.Qxb6003622aParse2
namespace Go.Proofs.Qxb6003622a.Fld
open Go.RowKit
set_option linter.unusedVariables false

set_option maxHeartbeats 1000000 in
theorem parse_zero (p : Option Addr) (c : Nat) (w : World) (HS : Hid (See w p 0 c [])) :
    Calls Try.prog 8 #[.slice p 0 c] w fun e w' => ParseEnd w' [] e ∧ Below w.heap.size w w' := by
  go_enter Try.func8, Try.ntmps8
  go_wp2
  go_loop [4, 5] (fun u v => u = .int .i64 (-1) ∧ v = .int .i64 0) (fun u v => 0)
  case atStart => exact ⟨rfl, rfl⟩
  case round =>
    obtain ⟨rfl, rfl⟩ := hrel
    go_wp2_with fail
    refine (equalS_is p 0 c [] ⟨#[100, 97, 116, 97]⟩ _ false (by omega) (by decide) HS.out (by unfold Hid; decide)).mono ?_
    rintro e w1 ⟨rfl, hb1⟩
    have HB1 : Hid (Below w.heap.size w w1) := hb1
    clear hb1
    go_wp2_with fail
    refine (equalS_is p 0 c [] ⟨#[101, 118, 101, 110, 116]⟩ _ false (by omega) (by decide) (HS.out.later HB1.out) (by unfold Hid; decide)).mono ?_
    rintro e w2 ⟨rfl, hb2⟩
    have HB2 : Hid (Below w.heap.size w w2) := HB1.out.trans (hb2.mono HB1.out.size)
    clear hb2
    go_wp2_with fail
    go_ret2
    exact ⟨parse_end (by decide) (by simp) (show See w2 none 0 0 (valOf []) from See.nil w2), HB2.out⟩

theorem parse_any (p : Option Addr) (n c : Nat) (xs : List Int) (w : World) (hn : n ≤ 1048576) (hs : See w p n c xs) :
    Calls Try.prog 8 #[.slice p n c] w fun e w' => ParseEnd w' xs e ∧ Below w.heap.size w w' := by
  by_cases h0 : 0 < n
  · obtain ⟨b, o, rfl, _⟩ := hs.cells h0
    exact parse_pos b o n c xs w hn h0 hs
  · have hn0 : n = 0 := by omega
    have hl := hs.len
    have hx : xs = [] := List.eq_nil_of_length_eq_zero (by omega)
    subst hx; subst hn0
    exact parse_zero p c w hs

end Go.Proofs.Qxb6003622a.Fld
