/- Seat b6003622a: ZZField. -/
import Derived.Test.Qxb6003622aField
import Derived.BigQuiet
namespace Go.Proofs.Qxb6003622a.Fld
open Go.RowKit
set_option linter.unusedVariables false

theorem raw_mem {xs : List Int} {x : Int} (h : x ∈ rawOf xs) : x ∈ xs := List.mem_of_mem_drop h
theorem val_mem {xs : List Int} {x : Int} (h : x ∈ valOf xs) : x ∈ xs := by
  unfold valOf at h
  split at h
  · exact raw_mem (List.mem_of_mem_drop h)
  · exact raw_mem h
theorem val_len (xs : List Int) : (valOf xs).length ≤ xs.length := by
  unfold valOf rawOf
  split
  all_goals (simp only [List.length_drop]; omega)
theorem ds_range {xs ds : List Int} (h1 : ∀ x ∈ xs, 0 ≤ x ∧ x < 256) (h2 : ∀ x ∈ ds, 0 ≤ x ∧ x < 256) : ∀ x ∈ dsOf xs ds, 0 ≤ x ∧ x < 256 := by
  intro x hx
  unfold dsOf at hx
  split at hx
  · simp only [List.mem_append, List.mem_singleton] at hx
    rcases hx with hx | hx | hx
    · exact h2 x hx
    · exact h1 x (val_mem hx)
    · subst hx; omega
  · exact h2 x hx
theorem ds_len (xs ds : List Int) : (dsOf xs ds).length ≤ ds.length + xs.length + 1 := by
  unfold dsOf
  have := val_len xs
  split
  · simp; omega
  · omega

def ZzEnd (w' : World) (et : ByteArray) (ds xs : List Int) (e : Ending) : Prop := ∃ p n c, e = .returned (.tuple #[.string (etOf xs et), .slice p n c]) ∧ See w' p n c (dsOf xs ds)

theorem held_new (w : World) (et : ByteArray) (vd : Value) : Hid (Held (w.alloc (.cells #[.slice none 0 0, .int .i64 0, .int .i64 0, .int .i64 0, .bool false, .string et, vd] 37)) w.heap.size et vd) := by
  have h : (w.alloc (.cells #[.slice none 0 0, .int .i64 0, .int .i64 0, .int .i64 0, .bool false, .string et, vd] 37)).heap[w.heap.size]? = some (.cells #[.slice none 0 0, .int .i64 0, .int .i64 0, .int .i64 0, .bool false, .string et, vd] 37) := by
    show (w.heap.push _)[w.heap.size]? = _
    simp
  refine ⟨⟨_, _, h⟩, ?_, ?_, ?_, ?_⟩
  · unfold World.cell?; rw [h]; rfl
  · unfold World.cell?; rw [h]; rfl
  · unfold World.frozen?; rw [h]; rfl
  · unfold World.frozen?; rw [h]; rfl
theorem zz_end {w1 : World} {B n1 : Nat} {ds xs : List Int} {pv1 : Option Addr} {cv1 : Nat} (ko : w1.ownsRow B 5 1 (.slice pv1 n1 cv1) n1 ((dsOf xs ds).map (Value.int .u8))) (hr : ∀ x ∈ dsOf xs ds, 0 ≤ x ∧ x < 256) :
    Hid (See w1 pv1 n1 cv1 (dsOf xs ds)) := by
  obtain ⟨p, c, he, hs, _⟩ := See.ofOwn ko hr
  simp only [Value.slice.injEq, true_and] at he
  obtain ⟨rfl, rfl⟩ := he
  exact hs

set_option maxHeartbeats 2000000 in
theorem zzfield_any (B : Nat) (et : ByteArray) (vd : Value) (nd : Nat) (ds : List Int) (p : Option Addr) (n c : Nat) (xs : List Int) (w : World) (hn : n ≤ 1048576) (hnd : nd ≤ 1048576) (hs : See w p n c xs)
    (hB : B ≤ w.heap.size) (ho : w.ownsRow B 5 1 vd nd (ds.map (Value.int .u8))) (hr : ∀ x ∈ ds, 0 ≤ x ∧ x < 256) :
    Calls Try.prog 7 #[.string et, vd, .slice p n c] w fun e w' => ZzEnd w' et ds xs e ∧ Below B w w' := by
  obtain ⟨pv, cv, rfl⟩ := own_form ho
  have HS : Hid (See w p n c xs) := hs
  have HO : Hid (w.ownsRow B 5 1 (.slice pv nd cv) nd (ds.map (Value.int .u8))) := ho
  have HR : Hid (∀ x ∈ ds, 0 ≤ x ∧ x < 256) := hr
  clear hs ho hr
  go_enter Try.func7, Try.ntmps7
  go_wp2_with fail
  have HHd := held_new w et (.slice pv nd cv)
  refine (field_any w.heap.size B et (.slice pv nd cv) nd ds p n c xs _ hn hnd (HS.out.later ((Below.refl _ w).alloc (Nat.le_refl _) _)) hB HHd (HO.out.alloc _)).mono ?_
  rintro e w1 ⟨rfl, ⟨vd1, n1, k5, k6, ko⟩, hb⟩
  obtain ⟨pv1, cv1, rfl⟩ := own_form ko
  have HE : Hid (See w1 pv1 n1 cv1 (dsOf xs ds)) := zz_end ko (ds_range HS.out.range HR.out)
  have HB : Hid (Below B w w1) := ((Below.refl B w).alloc hB _).trans hb
  clear ko hb HHd
  go_wp2_with fail
  go_quiet (fail)
  go_wp2
  go_ret2
  exact ⟨⟨_, _, _, rfl, HE.out.later (below_drewN w1 _)⟩, HB.out.trans ((below_drewN w1 _).mono (Nat.le_trans hB HB.out.size))⟩

end Go.Proofs.Qxb6003622a.Fld
