/- Seat b6600448a: ZZAppendEnd. -/
import Derived.Test.Qxb6600448aSteps
namespace Go.Proofs.Qxb6600448a.Tr
open Go.RowKit
set_option linter.unusedVariables false

theorem info3 : (Try.prog.info? 3).map (fun i => (i.zero, i.size, i.bytes)) = some (some (.int .i64 0), 1, 8) := by kernel_rfl
theorem own_form {w : World} {B e s n : Nat} {v : Value} {xs : List Value} (h : w.ownsRow B e s v n xs) : ∃ p c, v = .slice p n c := by
  rcases h.2 with ⟨h1, h2⟩ | ⟨g, cap, cur, h1, _⟩
  · exact ⟨_, _, by rw [h1, h2]⟩
  · exact ⟨_, _, h1⟩
theorem lt_alloc {w : World} {k : Nat} (h : k < w.heap.size) (o : Obj) : k < (w.alloc o).heap.size := by
  have e : (w.alloc o).heap.size = w.heap.size + 1 := by simp
  omega
theorem le_alloc {w : World} {k : Nat} (h : k ≤ w.heap.size) (o : Obj) : k ≤ (w.alloc o).heap.size := by
  have e : (w.alloc o).heap.size = w.heap.size + 1 := by simp
  omega
theorem one_int (i : Nat) : ∀ u ∈ [Value.int .i64 (i : Nat)], u.oneCell' = true := by
  intro u hu
  obtain rfl := List.mem_singleton.1 hu
  rfl
theorem app_cell {w w3 : World} {o : Obj} {row : Option Nat} {a : Addr} (hg : (w.alloc o).grownBy w3 row) (hb : a.block < w.heap.size) (hne : some a.block ≠ row) : w3.cell? a = w.cell? a ∧ w3.frozen? a = w.frozen? a := by
  have e : w3.heap[a.block]? = w.heap[a.block]? := by rw [hg.block _ (lt_alloc hb _) hne]; exact heap_old w _ hb
  exact ⟨World.cell?_of_block e, World.frozen?_of_block e⟩
def AppEnd (w' : World) (B K : Nat) (t : Tre) (p : List Seg) (i : Nat) (e : Ending) : Prop := ∃ v', e = .returned (.tuple #[]) ∧ Rep w' B K (t.setEv p v' i)

set_option maxHeartbeats 1000000 in
theorem append_any (p : List Seg) (b B K i : Nat) (t : Tre) (w : World) (HR : Hid (Rep w B K t)) (HP : Hid (t.at' p = some b)) (hi0 : i ≤ 1048576) (hl : (t.en p).length ≤ 1048576) (hB : B ≤ w.heap.size) :
    Calls Try.prog 28 #[.pointer (some ⟨b, 0, none⟩), .int .i64 (i : Nat)] w fun e w' => AppEnd w' B K t p i e ∧ Below B w w' := by
  obtain ⟨i0, hi, hz0, hz1, hz2⟩ := info_parts info3
  have ho := HR.out.obj p b HP.out
  have hb := HR.out.lt HP.out
  have hc1 : w.cell? ⟨b, 3, none⟩ = some (t.ev p) := by unfold World.cell?; rw [ho]; rfl
  have hf1 : w.frozen? ⟨b, 3, none⟩ = false := by unfold World.frozen?; rw [ho]; rfl
  have hBb := HR.out.lo p b HP.out
  have HO := Hid.mk' (HR.out.ends p b HP.out)
  obtain ⟨pv, cv, hv⟩ := own_form HO.out
  have HV := Hid.mk' hv
  rw [hv] at hc1
  obtain ⟨n, HN⟩ : ∃ n, Hid ((t.en p).length = n) := ⟨_, rfl⟩
  rw [HN.out] at hl
  have HO2 : Hid (w.ownsRow B 3 1 (.slice pv n cv) n ((t.en p).map fun i => Value.int .i64 (i : Nat))) := by have := HO.out; rw [hv, HN.out] at this; exact this
  rw [HN.out] at hc1
  have HBN : Hid (∀ g, (Value.slice pv n cv).ownBlock = some g → g ≠ b ∧ B ≤ g) := by
    intro g hg
    have h1 := HR.out.elt HP.out (g := g) (by rw [HV.out, HN.out]; exact hg)
    obtain ⟨h2, h3, cur, h4⟩ := h1
    refine ⟨fun e => ?_, h2⟩
    rw [e, HR.out.obj p b HP.out] at h4
    simp [nodeObj] at h4
  clear ho hv
  go_enter Try.func28, Try.ntmps28
  go_wp2_with (at_builtin; go_loud (refine wpList_append_own_at _ rfl _ _ 27 rfl B 3 i0 (.int .i64 0) 1 8 Try.underlying27 hi hz0 hz1 hz2 rfl (by decide) _ _ _ rfl (HO2.out.alloc _) ⟨w.heap.size, 0, none⟩ 1 1 [.int .i64 (i : Nat)] rfl rfl (cell_one_new _ _ _) (one_int i) (by unfold maxLen; omega) (by omega) (le_alloc hB _) ?_; intro v1 w3 hown1 hgrow1 _ hat; obtain ⟨pv1, cv1, rfl⟩ := own_form hown1; have HO3 := Hid.mk' hown1; have HG3 := Hid.mk' hgrow1; have HA := Hid.mk' hat; have hk := app_cell (a := ⟨b, 3, none⟩) hgrow1 hb (fun e => (HBN.out b e.symm).1 rfl); have c3 := hk.1.trans hc1; have f3 := hk.2.trans hf1; clear hk; clear hown1 hgrow1 hat))
  go_end0
  refine ⟨⟨_, rfl, HR.out.addEnd HP.out ?_ ?_ ?_⟩, ?_⟩
  · intro k hk hne
    rw [HG3.out.block k (by simp; omega) (by rw [HV.out, HN.out] at hne; exact hne)]
    exact heap_old w _ hk
  · rw [HN.out]; exact HO3.out
  · intro g hg
    rcases HA.out with h | h
    · left; rw [HV.out, HN.out]; exact h.symm.trans hg
    · right; rw [h] at hg; simp at hg; omega
  · have h1 : Below B w (w.alloc (.cells #[.int .i64 (i : Nat)] 3)) := (Below.refl B w).alloc hB _
    exact (h1.grown HG3.out (by simp; omega) (fun k hk => (HBN.out k hk).2)).setCell (p := ⟨b, 3, none⟩) hBb _

end Go.Proofs.Qxb6600448a.Tr
