/- Seat b6600448a: node.child: "*" and "**". -/
import Derived.Test.Qxb6600448aGrow3
namespace Go.Proofs.Qxb6600448a.Tr
open Go.RowKit
set_option linter.unusedVariables false

structure Ext (t t' : Tre) (q0 : List Seg) : Prop where
  other : ∀ q, q ≠ q0 → t'.at' q = t.at' q
  kept : ∀ q b, t.at' q = some b → t'.at' q = some b ∧ t'.en q = t.en q
  fresh : t.at' q0 = none → t'.en q0 = []
def ChildEnd (w' : World) (B K : Nat) (t : Tre) (q0 : List Seg) (e : Ending) : Prop := ∃ c t', e = .returned (ptr (some c)) ∧ Rep w' B K t' ∧ t'.at' q0 = some c ∧ Ext t t' q0

theorem Ext.refl (t : Tre) (q0 : List Seg) (c : Nat) (h : t.at' q0 = some c) : Ext t t q0 := ⟨fun _ _ => rfl, fun q b hb => ⟨hb, rfl⟩, fun hn => by rw [h] at hn; cases hn⟩
theorem Ext.put (t : Tre) (q0 : List Seg) (c : Nat) (h : t.at' q0 = none) : Ext t (t.put q0 c) q0 :=
  ⟨fun q hq => upd_other _ _ hq, fun q b hb => by
    have hq : q ≠ q0 := fun e => by rw [e, h] at hb; cases hb
    exact ⟨by show upd _ _ _ _ = _; rw [upd_other _ _ hq]; exact hb, upd_other _ _ hq⟩, fun _ => upd_same _ _ _⟩

set_option maxHeartbeats 1000000 in
theorem child_wild (p : List Seg) (b B K : Nat) (t : Tre) (x : ByteArray) (w : World) (HR : Hid (Rep w B K t)) (hp : t.at' p = some b) :
    Calls Try.prog 30 #[.pointer (some ⟨b, 0, none⟩), .agg #[.int .i64 1, .string x]] w fun e w' => ChildEnd w' B K t (p ++ [.wild]) e ∧ Below B w w' := by
  have hb := HR.out.lt hp
  have HP := Hid.mk' hp
  have ho := HR.out.obj p b hp
  have hc1 : w.cell? ⟨b, 1, none⟩ = some (ptr (t.at' (p ++ [.wild]))) := by unfold World.cell?; rw [ho]; rfl
  have hf1 : w.frozen? ⟨b, 1, none⟩ = false := by unfold World.frozen?; rw [ho]; rfl
  have hBb := HR.out.lo p b hp
  clear ho hp
  cases hw : t.at' (p ++ [.wild]) with
  | some c =>
    rw [hw] at hc1
    have HW := Hid.mk' hw
    have hc2 : w.cell? ⟨b, 1, none⟩ = some (.pointer (some ⟨c, 0, none⟩)) := hc1
    clear hc1 hw
    go_enter Try.func30, Try.ntmps30
    go_wp2
    go_ret
    exact ⟨⟨c, t, rfl, HR.out.later ((Below.refl _ w).alloc (Nat.le_refl _) _), HW.out, Ext.refl t _ c HW.out⟩, (Below.refl _ w).alloc (by omega) _⟩
  | none =>
    rw [hw] at hc1
    have HW := Hid.mk' hw
    have hc2 : w.cell? ⟨b, 1, none⟩ = some (.pointer none) := hc1
    clear hc1 hw
    go_enter Try.func30, Try.ntmps30
    go_wp2
    go_ret
    have G := (HR.out.later ((Below.refl _ w).alloc (Nat.le_refl _) (.cells #[.int .i64 1, .string x] 70))).grow (k := 1) HP.out (.inl ⟨rfl, rfl⟩) HW.out
    have hB2 : Below B w ((w.alloc (.cells #[.int .i64 1, .string x] 70)).alloc zeroNode) := ((Below.refl B w).alloc (by omega) _).alloc (by have := (Below.heap_alloc w (.cells #[.int .i64 1, .string x] 70)); simp; omega) _
    rw [show (w.alloc (.cells #[.int .i64 1, .string x] 70)).heap.size = w.heap.size + 1 from by simp] at G
    rw [World.setCell_alloc_past _ _ _ _ (by simp; omega), World.setCell_alloc_past _ _ _ _ hb] at G
    have hB3 := hB2.setCell (p := ⟨b, 1, none⟩) hBb (ptr (some (w.heap.size + 1)))
    rw [World.setCell_alloc_past _ _ _ _ (by simp; omega), World.setCell_alloc_past _ _ _ _ hb] at hB3
    exact ⟨⟨w.heap.size + 1, _, rfl, G, upd_same _ _ _, Ext.put t _ _ HW.out⟩, hB3⟩

set_option maxHeartbeats 1000000 in
theorem child_deep (p : List Seg) (b B K : Nat) (t : Tre) (x : ByteArray) (w : World) (HR : Hid (Rep w B K t)) (hp : t.at' p = some b) :
    Calls Try.prog 30 #[.pointer (some ⟨b, 0, none⟩), .agg #[.int .i64 2, .string x]] w fun e w' => ChildEnd w' B K t (p ++ [.deep]) e ∧ Below B w w' := by
  have hb := HR.out.lt hp
  have HP := Hid.mk' hp
  have ho := HR.out.obj p b hp
  have hc1 : w.cell? ⟨b, 2, none⟩ = some (ptr (t.at' (p ++ [.deep]))) := by unfold World.cell?; rw [ho]; rfl
  have hf1 : w.frozen? ⟨b, 2, none⟩ = false := by unfold World.frozen?; rw [ho]; rfl
  have hBb := HR.out.lo p b hp
  clear ho hp
  cases hw : t.at' (p ++ [.deep]) with
  | some c =>
    rw [hw] at hc1
    have HW := Hid.mk' hw
    have hc2 : w.cell? ⟨b, 2, none⟩ = some (.pointer (some ⟨c, 0, none⟩)) := hc1
    clear hc1 hw
    go_enter Try.func30, Try.ntmps30
    go_wp2
    go_ret
    exact ⟨⟨c, t, rfl, HR.out.later ((Below.refl _ w).alloc (Nat.le_refl _) _), HW.out, Ext.refl t _ c HW.out⟩, (Below.refl _ w).alloc (by omega) _⟩
  | none =>
    rw [hw] at hc1
    have HW := Hid.mk' hw
    have hc2 : w.cell? ⟨b, 2, none⟩ = some (.pointer none) := hc1
    clear hc1 hw
    go_enter Try.func30, Try.ntmps30
    go_wp2
    go_ret
    have G := (HR.out.later ((Below.refl _ w).alloc (Nat.le_refl _) (.cells #[.int .i64 2, .string x] 70))).grow (k := 2) HP.out (.inr ⟨rfl, rfl⟩) HW.out
    have hB2 : Below B w ((w.alloc (.cells #[.int .i64 2, .string x] 70)).alloc zeroNode) := ((Below.refl B w).alloc (by omega) _).alloc (by have := (Below.heap_alloc w (.cells #[.int .i64 2, .string x] 70)); simp; omega) _
    rw [show (w.alloc (.cells #[.int .i64 2, .string x] 70)).heap.size = w.heap.size + 1 from by simp] at G
    rw [World.setCell_alloc_past _ _ _ _ (by simp; omega), World.setCell_alloc_past _ _ _ _ hb] at G
    have hB3 := hB2.setCell (p := ⟨b, 2, none⟩) hBb (ptr (some (w.heap.size + 1)))
    rw [World.setCell_alloc_past _ _ _ _ (by simp; omega), World.setCell_alloc_past _ _ _ _ hb] at hB3
    exact ⟨⟨w.heap.size + 1, _, rfl, G, upd_same _ _ _, Ext.put t _ _ HW.out⟩, hB3⟩

end Go.Proofs.Qxb6600448a.Tr
