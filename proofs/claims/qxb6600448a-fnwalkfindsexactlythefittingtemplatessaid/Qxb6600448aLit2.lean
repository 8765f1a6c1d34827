/- Seat b6600448a: node.child at a literal that is new, the map there. -/
import Derived.Test.Qxb6600448aLit
import Derived.BigRegion
namespace Go.Proofs.Qxb6600448a.Tr
open Go.RowKit
set_option linter.unusedVariables false

theorem eql49 (w : World) (o : Option Nat) : (binOp .eql 49 (.map o) (.map none)).run Try.prog w = .ok (.bool o.isNone) w := by
  cases o <;> kernel_rfl

set_option maxHeartbeats 1000000 in
theorem child_lit_new (p : List Seg) (b B K m : Nat) (t : Tre) (x : ByteArray) (w : World) (HR : Hid (Rep w B K t)) (hp : t.at' p = some b) (hx : x.size ≤ maxLen) (hK : K < maxLen) (hm : t.mp p = some m) (hc : t.at' (p ++ [.lit (txt x)]) = none) :
    Calls Try.prog 30 #[.pointer (some ⟨b, 0, none⟩), .agg #[.int .i64 0, .string x]] w fun e w' => ChildEnd w' B (K + 1) t (p ++ [.lit (txt x)]) e ∧ Below B w w' := by
  have hb := HR.out.lt hp
  have HP := Hid.mk' hp
  have HC := Hid.mk' hc
  have HM := Hid.mk' hm
  have ho := HR.out.obj p b hp
  have hc1 : w.cell? ⟨b, 0, none⟩ = some (.map (some m)) := by unfold World.cell?; rw [ho]; show some (Value.map (t.mp p)) = _; rw [hm]
  have hBb := HR.out.lo p b hp
  have HRQ : Hid (∀ q, Rep ((w.alloc (.cells #[.int .i64 0, .string x] 70)).drewN q) B K t) := fun q => HR.out.later (below_dr ((Below.refl _ w).alloc (Nat.le_refl _) _) q)
  have hlq : ∀ q, (Instr.lookup 49 (.map (some m)) (.string x) false).run Try.prog ((w.alloc (.cells #[.int .i64 0, .string x] 70)).drewN q) = .ok (.pointer none) ((w.alloc (.cells #[.int .i64 0, .string x] 70)).drewN q) := by
    intro q
    have := ((HRQ.out q).maps p b m hp hm).2.look x hx
    rw [this, hc]; rfl
  have q49 : ∀ (w : World) (o : Option Nat), (binOp .eql 49 (.map o) (.map none)).run Try.prog w = .ok (.bool o.isNone) w := fun w o => eql49 w o
  clear ho hp hc hm
  go_enter Try.func30, Try.ntmps30
  go_wp2
  go_quiet (fail)
  go_wp2
  have hW : ∃ W1, W1 = ((w.alloc (Obj.cells #[Value.int IntKind.i64 0, Value.string x] 70)).drewN nq).alloc (Obj.cells #[Value.map none, Value.pointer none, Value.pointer none, Value.slice none 0 0] 51) := ⟨_, rfl⟩
  obtain ⟨W1, hW1⟩ := hW
  rw [← hW1]
  have d0 : W1.cell? ⟨b, 0, none⟩ = some (.map (some m)) := by
    rw [hW1]
    have h1 : Below w.heap.size w (((w.alloc (Obj.cells #[Value.int IntKind.i64 0, Value.string x] 70)).drewN nq).alloc (Obj.cells #[Value.map none, Value.pointer none, Value.pointer none, Value.slice none 0 0] 51)) := (below_dr ((Below.refl _ w).alloc (Nat.le_refl _) _) nq).alloc (by simp) _
    rw [h1.cell (p := ⟨b, 0, none⟩) hb]; exact hc1
  have d1 : W1.cell? ⟨w.heap.size, 1, none⟩ = some (.string x) := by
    rw [hW1]; go_simp
  have bW : Below w.heap.size w W1 := by rw [hW1]; exact (below_dr ((Below.refl _ w).alloc (Nat.le_refl _) _) nq).alloc (by simp) _
  have HRW : Hid (Rep W1.drew B K t) := HR.out.later bW.drew
  obtain ⟨U, hst, hmh, hgr⟩ := ((HRW.out).maps p b m HP.out HM.out).2.store hK x hx (w.heap.size + 1)
  have hst1 : (Instr.mapUpdate 49 (.map (some m)) (.string x) (.pointer (some ⟨w.heap.size + 1, 0, none⟩))).run Try.prog W1.drew = .ok () U := hst
  have HMH := Hid.mk' hmh
  have HGR := Hid.mk' hgr
  have HBW := Hid.mk' bW
  clear hst hmh hgr bW
  have HW1 := Hid.mk' hW1
  clear hlq hc1 hW1
  go_region
  go_wp2
  go_ret
  have R0 := HR.out.later ((Below.refl _ w).alloc (Nat.le_refl _) (Obj.cells #[Value.int IntKind.i64 0, Value.string x] 70))
  have hsz : (w.alloc (Obj.cells #[Value.int IntKind.i64 0, Value.string x] 70)).heap.size = w.heap.size + 1 := by simp
  have hml := (HR.out.mlt HP.out HM.out).1
  have hW2 := HW1.out
  have hheap : ∀ i, i < (w.alloc (Obj.cells #[Value.int IntKind.i64 0, Value.string x] 70)).heap.size → i ≠ m → U.heap[i]? = (w.alloc (Obj.cells #[Value.int IntKind.i64 0, Value.string x] 70)).heap[i]? := by
    intro i hi him
    have h1 : W1.drew.heap[i]? = (w.alloc (Obj.cells #[Value.int IntKind.i64 0, Value.string x] 70)).heap[i]? := by
      show W1.heap[i]? = _
      rw [hW2]
      exact heap_old _ _ hi
    rw [← h1]
    refine HGR.out.block i ?_ (fun e => him (by simpa using e))
    show i < W1.heap.size
    rw [hW2]; simp at hi ⊢; omega
  have hnew : U.heap[(w.alloc (Obj.cells #[Value.int IntKind.i64 0, Value.string x] 70)).heap.size]? = some zeroNode := by
    have h1 : W1.drew.heap[(w.alloc (Obj.cells #[Value.int IntKind.i64 0, Value.string x] 70)).heap.size]? = some zeroNode := by
      show W1.heap[_]? = _
      rw [hW2]
      exact heap_new _ _
    rw [← h1]
    refine HGR.out.block _ ?_ (fun e => by simp at e; omega)
    show _ < W1.heap.size
    rw [hW2]; simp
  have G := R0.growLit HP.out HM.out HC.out hheap hnew (by rw [hsz]; exact HMH.out)
  rw [hsz] at G
  exact ⟨⟨w.heap.size + 1, _, rfl, G, upd_same _ _ _, Ext.put t _ _ HC.out⟩, ((HBW.out.drew).mono (by omega)).grown HGR.out (by show B ≤ W1.heap.size; have := HBW.out.size; omega) (fun k hk => by simp at hk; subst hk; exact ((HR.out.maps p b _ HP.out HM.out).1))⟩

end Go.Proofs.Qxb6600448a.Tr
