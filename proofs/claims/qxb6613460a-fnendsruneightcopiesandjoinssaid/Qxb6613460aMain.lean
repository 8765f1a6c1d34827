/- The walk of FnEndsRunEightCopiesAndJoins. -/
import Derived.Test.Qxb6613460aRep
namespace Go.Proofs.Qxb6613460a.Ends
open Go.RowKit

set_option maxHeartbeats 400000 in
theorem bytes_no (a b : ByteArray) (w : World) (ha : a.size ≤ maxLen) (hb : b.size ≤ maxLen) (h : ¬ a.size + b.size ≤ 1048576) :
    Calls Try.prog 10 #[.string a, .string b] w fun e w' => e = .returned (.bool false) ∧ w' = w := by
  unfold maxLen at ha hb
  by_cases h1 : a.size ≤ 1048576
  · by_cases h2 : b.size ≤ 1048576
    · go_enter Try.func10, Try.ntmps10
      go_wp2
      go_ret
      exact ⟨rfl, rfl⟩
    · go_enter Try.func10, Try.ntmps10
      go_wp2
      go_ret
      exact ⟨rfl, rfl⟩
  · go_enter Try.func10, Try.ntmps10
    go_wp2
    go_ret
    exact ⟨rfl, rfl⟩

theorem repeat_some (a : ByteArray) (w : World) (ha : a.size ≤ 65536) :
    Calls Try.prog 11 #[.string a] w fun e w' => ∃ r : ByteArray, e = .returned (.string r) ∧ Hid (r.data.toList = copies a.data.toList 8) ∧ r.size ≤ 524288 ∧ Below w.heap.size w w' := by
  refine (repeat_any a w ha).mono ?_
  rintro e w' ⟨rfl, hb⟩
  refine ⟨_, rfl, rfl, ?_, hb⟩
  show (copies a.data.toList 8).toArray.size ≤ 524288
  rw [List.size_toArray, copies_length]
  show 8 * a.size ≤ _
  omega

theorem toList_append (a b : ByteArray) : (a ++ b).data.toList = a.data.toList ++ b.data.toList := by simp

theorem ends_is (s : ByteArray) (w : World) (v : Bool) (hv : Hid (ends s.data.toList = v)) (hs : s.size ≤ maxLen) :
    Calls Try.prog 12 #[.string s] w fun e w' => e = .returned (.bool v) ∧ w' = w := by
  have h := zzEndsRun_any s w hs
  rw [hv.out] at h
  exact h

theorem und_is (s : ByteArray) (w : World) (v : Bool) (hv : Hid (und s.data.toList = v)) (hs : s.size ≤ maxLen) :
    Calls Try.prog 13 #[.string s] w fun e w' => e = .returned (.bool v) ∧ w' = w := by
  have h := hasUnd_any s w hs
  rw [hv.out] at h
  exact h

theorem e_is {a r : ByteArray} {u : Bool} (HR : Hid (r.data.toList = copies a.data.toList 8)) (HU : Hid (und a.data.toList = u)) : Hid (ends r.data.toList = !u) := by
  unfold Hid; rw [HR.out, ends_copies, HU.out]
theorem j_is {a b r : ByteArray} {u e : Bool} (HR : Hid (r.data.toList = copies a.data.toList 8)) (HU : Hid (und a.data.toList = u)) (HB : Hid (ends b.data.toList = e)) : Hid (ends (r ++ b).data.toList = (!u && e)) := by
  unfold Hid; rw [toList_append, HR.out, ends_before, ends_copies, HU.out, HB.out]
theorem k_is {a b r : ByteArray} {u e : Bool} (HR : Hid (r.data.toList = copies a.data.toList 8)) (HU : Hid (und a.data.toList = u)) (HB : Hid (ends b.data.toList = e)) : Hid (ends (b ++ r).data.toList = (!u && e)) := by
  unfold Hid; rw [toList_append, HR.out, ends_after, ends_copies, HU.out, HB.out]

theorem bounds {b r : ByteArray} (hb : b.size ≤ 65536) (hr : r.size ≤ 524288) : r.size ≤ maxLen ∧ b.size ≤ maxLen ∧ (r ++ b).size ≤ maxLen ∧ (b ++ r).size ≤ maxLen := by
  unfold maxLen
  rw [ByteArray.size_append, ByteArray.size_append]
  omega

set_option maxHeartbeats 1000000 in
theorem core (a b : ByteArray) (w : World) (u v : Bool) (ha : a.size ≤ 65536) (hb : b.size ≤ 65536) (HU : Hid (und a.data.toList = u)) (HB : Hid (ends b.data.toList = v)) :
    Calls Try.prog 4 #[.string a, .string b] w fun e w' => e = .returned (.bool true) ∧ Below w.heap.size w w' := by
  cases u <;> cases v
  all_goals
    go_enter Try.func4, Try.ntmps4
    go_wp2_with (go_at_call 10; refine (bytes_yes _ _ _ (by omega)).mono ?_; rintro e w' ⟨rfl, rfl⟩)
    go_wp2_with (go_at_call 11; refine (repeat_some _ _ (by omega)).mono ?_; rintro e w' ⟨r, rfl, HR, hr, hbel⟩)
    go_wp2_with fail
    refine (ends_is r _ _ (e_is HR HU) (bounds hb hr).1).mono ?_
    rintro e w' ⟨rfl, rfl⟩
    go_wp2_with (go_at_call 13; refine (und_is a _ _ HU (by unfold maxLen; omega)).mono ?_; rintro e w' ⟨rfl, rfl⟩)
    refine (ends_is (r ++ b) _ _ (j_is HR HU HB) (bounds hb hr).2.2.1).mono ?_
    rintro e w' ⟨rfl, rfl⟩
    go_wp2_with fail
  rotate_left 2
  all_goals try (refine (ends_is b _ _ HB (bounds hb hr).2.1).mono ?_; rintro e w' ⟨rfl, rfl⟩; go_wp2_with fail)
  all_goals
    refine (ends_is (b ++ r) _ _ (k_is HR HU HB) (bounds hb hr).2.2.2).mono ?_
    rintro e w' ⟨rfl, rfl⟩
    go_wp2
    go_ret
    exact ⟨rfl, hbel⟩

end Go.Proofs.Qxb6613460a.Ends
