/- Seat b6600448a: node.child at a literal. -/
import Derived.Test.Qxb6600448aMapLaw
import Derived.BigQuiet
namespace Go.Proofs.Qxb6600448a.Tr
open Go.RowKit
set_option linter.unusedVariables false

def boxed (x : ByteArray) : Obj := .cells #[.int .i64 0, .string x] 70

set_option maxHeartbeats 1000000 in
theorem child_lit_old (p : List Seg) (b B K c m : Nat) (t : Tre) (x : ByteArray) (w : World) (HR : Hid (Rep w B K t)) (hp : t.at' p = some b) (hx : x.size ≤ maxLen) (hm : t.mp p = some m) (hc : t.at' (p ++ [.lit (txt x)]) = some c) :
    Calls Try.prog 30 #[.pointer (some ⟨b, 0, none⟩), .agg #[.int .i64 0, .string x]] w fun e w' => ChildEnd w' B K t (p ++ [.lit (txt x)]) e ∧ Below B w w' := by
  have hb := HR.out.lt hp
  have HP := Hid.mk' hp
  have HC := Hid.mk' hc
  have ho := HR.out.obj p b hp
  have hc1 : w.cell? ⟨b, 0, none⟩ = some (.map (some m)) := by unfold World.cell?; rw [ho]; show some (Value.map (t.mp p)) = _; rw [hm]
  have hBb := HR.out.lo p b hp
  have HRQ : Hid (∀ q, Rep ((w.alloc (.cells #[.int .i64 0, .string x] 70)).drewN q) B K t) := fun q => HR.out.later (below_dr ((Below.refl _ w).alloc (Nat.le_refl _) _) q)
  have hlq : ∀ q, (Instr.lookup 49 (.map (some m)) (.string x) false).run Try.prog ((w.alloc (.cells #[.int .i64 0, .string x] 70)).drewN q) = .ok (.pointer (some ⟨c, 0, none⟩)) ((w.alloc (.cells #[.int .i64 0, .string x] 70)).drewN q) := by
    intro q
    have := ((HRQ.out q).maps p b m hp hm).2.look x hx
    rw [this, hc]; rfl
  clear ho hp hc hm
  go_enter Try.func30, Try.ntmps30
  go_wp2
  go_quiet (fail)
  go_wp2
  go_ret
  exact ⟨⟨c, t, rfl, HRQ.out _, HC.out, Ext.refl t _ c HC.out⟩, below_dr ((Below.refl _ w).alloc (by omega) _) _⟩

end Go.Proofs.Qxb6600448a.Tr
