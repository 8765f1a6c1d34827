/- Seat b6600448a: node.child at a literal, no map yet. -/
import Derived.Test.Qxb6600448aLit2
namespace Go.Proofs.Qxb6600448a.Tr
open Go.RowKit
set_option linter.unusedVariables false

set_option maxHeartbeats 1000000 in
theorem child_lit_nil (p : List Seg) (b B K : Nat) (t : Tre) (x : ByteArray) (w : World) (HR : Hid (Rep w B K t)) (hp : t.at' p = some b) (hx : x.size ≤ maxLen) (hK : K < maxLen) (hm : t.mp p = none) :
    Calls Try.prog 30 #[.pointer (some ⟨b, 0, none⟩), .agg #[.int .i64 0, .string x]] w fun e w' => ChildEnd w' B (K + 1) t (p ++ [.lit (txt x)]) e ∧ Below B w w' := by
  have hb := HR.out.lt hp
  have HP := Hid.mk' hp
  have HM := Hid.mk' hm
  have HC := Hid.mk' (HR.out.mapn p b hp hm (txt x))
  have ho := HR.out.obj p b hp
  have hc1 : w.cell? ⟨b, 0, none⟩ = some (.map none) := by unfold World.cell?; rw [ho]; show some (Value.map (t.mp p)) = _; rw [hm]
  have hf1 : w.frozen? ⟨b, 0, none⟩ = false := by unfold World.frozen?; rw [ho]; rfl
  have hBb := HR.out.lo p b hp
  have hlq : ∀ w', (Instr.lookup 49 (.map none) (.string x) false).run Try.prog w' = .ok (.pointer none) w' := fun w' => look_none w' x hx
  have q49 : ∀ (w : World) (o : Option Nat), (binOp .eql 49 (.map o) (.map none)).run Try.prog w = .ok (.bool o.isNone) w := fun w o => eql49 w o
  have hmm := @run_makeMap Try.prog
  clear ho hp hm
  go_enter Try.func30, Try.ntmps30
  go_wp2
  go_quiet (fail)
  go_wp2
  have hW : ∃ W0, W0 = (w.alloc (Obj.cells #[Value.int IntKind.i64 0, Value.string x] 70)).drewN nq := ⟨_, rfl⟩
  obtain ⟨W0, hW0⟩ := hW
  rw [← hW0]
  have hs0 : W0.heap.size = w.heap.size + 1 := by rw [hW0]; simp
  have b0 : Below w.heap.size w W0 := by rw [hW0]; exact below_dr ((Below.refl _ w).alloc (Nat.le_refl _) _) nq
  have R1 := (HR.out.later b0).newMap HP.out HM.out
  rw [World.setCell_alloc_past _ _ _ _ (by rw [hs0]; omega), hs0] at R1
  have hM : ∃ M1, M1 = (W0.setCell ⟨b, 0, none⟩ (.map (some (w.heap.size + 1)))).alloc (.map #[] 0) := ⟨_, rfl⟩
  obtain ⟨M1, hM1⟩ := hM
  rw [← hM1] at R1 ⊢
  have hs1 : M1.heap.size = w.heap.size + 2 := by rw [hM1]; simp [World.setCell, hs0]
  have bM : Below B w M1 := by rw [hM1]; exact ((b0.mono (by omega)).setCell (p := ⟨b, 0, none⟩) hBb _).alloc (by simp [World.setCell, hs0]; omega) _
  have hW : ∃ W1, W1 = M1.alloc (Obj.cells #[Value.map none, Value.pointer none, Value.pointer none, Value.slice none 0 0] 51) := ⟨_, rfl⟩
  obtain ⟨W1, hW1⟩ := hW
  rw [← hW1]
  have bW : Below M1.heap.size M1 W1 := by rw [hW1]; exact (Below.refl _ M1).alloc (Nat.le_refl _) _
  have RW := R1.later bW.drew
  have d0 : W1.cell? ⟨b, 0, none⟩ = some (.map (some (w.heap.size + 1))) := by
    have := RW.obj p b HP.out
    have h2 : W1.drew.cell? ⟨b, 0, none⟩ = some (.map ((t.setMp p (w.heap.size + 1)).mp p)) := by unfold World.cell?; rw [this]; rfl
    rw [show (t.setMp p (w.heap.size + 1)).mp p = some (w.heap.size + 1) from upd_same _ _ _] at h2
    exact h2
  have d1 : W1.cell? ⟨w.heap.size, 1, none⟩ = some (.string x) := by
    rw [bW.cell (p := ⟨w.heap.size, 1, none⟩) (by rw [hs1]; show w.heap.size < _; omega), hM1]
    have e1 : ((W0.setCell ⟨b, 0, none⟩ (.map (some (w.heap.size + 1)))).alloc (.map #[] 0)).heap[w.heap.size]? = W0.heap[w.heap.size]? := by
      rw [heap_old _ _ (by simp [World.setCell, hs0]), heap_set_other _ _ _ _ (by omega)]
    rw [World.cell?_of_block (a := ⟨w.heap.size, 1, none⟩) e1, hW0]
    show (w.alloc (Obj.cells #[Value.int IntKind.i64 0, Value.string x] 70)).cell? _ = _
    unfold World.cell?
    rw [heap_new]; rfl
  obtain ⟨U, hst, hmh, hgr⟩ := (RW.maps p b (w.heap.size + 1) HP.out (upd_same _ _ _)).2.store hK x hx (w.heap.size + 2)
  have hst1 : (Instr.mapUpdate 49 (.map (some (w.heap.size + 1))) (.string x) (.pointer (some ⟨w.heap.size + 2, 0, none⟩))).run Try.prog W1.drew = .ok () U := hst
  have HMH := Hid.mk' hmh
  have HGR := Hid.mk' hgr
  have HBW := Hid.mk' bW
  have HBM := Hid.mk' bM
  have HR1 := Hid.mk' R1
  have HW1 := Hid.mk' hW1
  have HS1 := Hid.mk' hs1
  clear hst hmh hgr bW bM R1 RW hW1 hM1 hs1 hs0 hW0 b0 hlq hc1 hf1
  go_region
  go_wp2
  go_ret
  have hW2 := HW1.out
  have hs1 := HS1.out
  have hheap : ∀ i, i < M1.heap.size → i ≠ w.heap.size + 1 → U.heap[i]? = M1.heap[i]? := by
    intro i hi him
    have h1 : W1.drew.heap[i]? = M1.heap[i]? := by
      show W1.heap[i]? = _
      rw [hW2]; exact heap_old _ _ hi
    rw [← h1]
    refine HGR.out.block i ?_ (fun e => him (by simpa using e))
    show i < W1.heap.size
    have := HBW.out.size; omega
  have hnew : U.heap[M1.heap.size]? = some zeroNode := by
    have h1 : W1.drew.heap[M1.heap.size]? = some zeroNode := by
      show W1.heap[_]? = _
      rw [hW2]; exact heap_new _ _
    rw [← h1]
    refine HGR.out.block _ ?_ (fun e => by simp at e; omega)
    show _ < W1.heap.size
    rw [hW2]; simp
  have G := HR1.out.growLit HP.out (upd_same _ _ _) HC.out hheap hnew (by rw [hs1]; exact HMH.out)
  rw [hs1] at G
  have E1 := Ext.put (t.setMp p (w.heap.size + 1)) (p ++ [Seg.lit (txt x)]) (w.heap.size + 2) HC.out
  refine ⟨⟨w.heap.size + 2, _, rfl, G, upd_same _ _ _, ⟨E1.other, E1.kept, E1.fresh⟩⟩, ?_⟩
  have h3 : Below B w W1.drew := (HBM.out.trans (HBW.out.mono (by omega))).drew
  exact h3.grown HGR.out (Nat.le_trans (by omega) h3.size) (fun k hk => by simp at hk; omega)

end Go.Proofs.Qxb6600448a.Tr
