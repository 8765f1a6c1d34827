/- Seat b6600448a: look-up and store in a node's map. -/
import Derived.Test.Qxb6600448aChild
import Derived.Maps.OwnSet
import Derived.Maps.Views
namespace Go.Proofs.Qxb6600448a.Tr
open Go.RowKit
open Go.Maps (Keyed)
open Go.ChangeShapes Go.WideShapes Go.MapKept Go.ChangeMaps
set_option linter.unusedVariables false

theorem law9 : Keyed Try.prog 9 := Maps.string_keyed Try.underlying9
theorem zero25 (w : World) : (zeroValue 25).run Try.prog w = .ok (.pointer none) w := by kernel_rfl

theorem look_none (w : World) (s : ByteArray) (hs : s.size ≤ maxLen) : (Instr.lookup 49 (.map none) (.string s) false).run Try.prog w = .ok (.pointer none) w := by
  simpa using Maps.look_nil (w := w) false law9 Try.underlying49 (zero25 w) (WideMaps.keyOf_string_mk Try.underlying9 hs)
theorem MapHas.look {w : World} {m K : Nat} {f : Txt → Option Nat} (h : MapHas w m K f) (s : ByteArray) (hs : s.size ≤ maxLen) : (Instr.lookup 49 (.map (some m)) (.string s) false).run Try.prog w = .ok (ptr (f (txt s))) w := by
  obtain ⟨n, D, hn, ho, hf⟩ := h
  obtain ⟨v, ps, hrun, hv⟩ := ho.lookup law9 Try.underlying49 (zero25 w) (ptrR_mk none) (WideMaps.keyOf_string_mk Try.underlying9 hs)
  rw [hrun]
  have e := hf (txt s)
  have : v = ptr (f (txt s)) := ptrR_inv (ps := ps) (by rw [hv, ← e]; rfl)
  rw [this]
theorem MapHas.store {w : World} {m K : Nat} {f : Txt → Option Nat} (h : MapHas w m K f) (hK : K < maxLen) (s : ByteArray) (hs : s.size ≤ maxLen) (c : Nat) :
    ∃ w', (Instr.mapUpdate 49 (.map (some m)) (.string s) (ptr (some c))).run Try.prog w = .ok () w' ∧ MapHas w' m (K + 1) (fun x => if x = txt s then some c else f x) ∧ w.grownBy w' (some m) := by
  obtain ⟨n, D, hn, ho, hf⟩ := h
  obtain ⟨w', hrun, ho', hg⟩ := ho.update law9 Try.underlying49 (Nat.lt_of_le_of_lt hn hK) (WideMaps.keyOf_string_mk Try.underlying9 hs) (ptrR_mk (some c))
  refine ⟨w', hrun, ⟨n + 1, _, by omega, ho', fun x => ?_⟩, hg⟩
  by_cases hx : x = txt s
  · subst hx
    show _ = pd (if txt s = txt s then some c else f (txt s))
    rw [if_pos rfl]
    obtain ⟨es, cl, _, _, _, hD⟩ := ho
    exact Maps.atKey_put_same ⟨_, hD⟩ (law9.key (WideMaps.keyOf_string_mk Try.underlying9 hs)) _ _
  · show _ = pd (if x = txt s then some c else f x)
    rw [if_neg hx, ← hf x]
    exact Maps.atKey_put_other (fun e => hx (by simpa [txt] using e)) _ _

end Go.Proofs.Qxb6600448a.Tr
