/- The walk of zzRepeat8. -/
import Derived.Test.Qxb6613460aWk
namespace Go.Proofs.Qxb6613460a.Ends
open Go.RowKit

/-- bytes as cells. -/
def cellsOf (l : List UInt8) : List Value := l.map fun b => Value.int .u8 b.toNat

theorem cellsOf_append (a b : List UInt8) : cellsOf (a ++ b) = cellsOf a ++ cellsOf b := by simp [cellsOf]

/-- what one append does to the loop's relation. -/
theorem rep_step {w wr w1 : World} {v v' : Value} (a : ByteArray) (k : Nat)
    (hnn : ∃ g cap, v = .slice (some ⟨g, 0, none⟩) (k * a.size) cap ∧ w.heap.size ≤ g)
    (hnx : Below w.heap.size w wr)
    (hown' : w1.ownsRow w.heap.size 5 1 v' (k * a.size + a.size) (cellsOf (copies a.data.toList k) ++ Lib.strCells a))
    (hgrow : wr.grownBy w1 v.ownBlock) (hnil : v' = .slice none 0 0 ↔ v = .slice none 0 0 ∧ a.size = 0) :
    w1.ownsRow w.heap.size 5 1 v' ((k + 1) * a.size) (cellsOf (copies a.data.toList (k + 1))) ∧ Below w.heap.size w w1 ∧
      (∃ g cap, v' = .slice (some ⟨g, 0, none⟩) ((k + 1) * a.size) cap ∧ w.heap.size ≤ g) := by
  obtain ⟨g, cap, rfl, hg⟩ := hnn
  have e1 : (k + 1) * a.size = k * a.size + a.size := by rw [Nat.add_mul, Nat.one_mul]
  have e2 : cellsOf (copies a.data.toList (k + 1)) = cellsOf (copies a.data.toList k) ++ Lib.strCells a := by
    rw [copies_succ, cellsOf_append]; rfl
  rw [e1, e2]
  refine ⟨hown', hnx.grown hgrow hnx.size (fun k hk => ?_), ?_⟩
  · simp [Value.ownBlock] at hk; omega
  · rcases hown'.2 with ⟨h, _⟩ | ⟨g', cap', cur, h, hb, _⟩
    · exact absurd (hnil.1 h).1 (by simp)
    · exact ⟨g', cap', h, hb⟩

/-- the bytes back out of an owned row. -/
theorem rep_back {wr : World} {base : Nat} {v : Value} {n : Nat} {l : List UInt8} (hl : l.length = n)
    (hown : wr.ownsRow base 5 1 v n (cellsOf l)) (hnn : ∃ g cap, v = .slice (some ⟨g, 0, none⟩) n cap ∧ base ≤ g) :
    ∀ (src dst : TypeId), Try.prog.underlying src = some (.slice 5) → Try.prog.underlying dst = some .string →
      (convert src dst v).run Try.prog wr = .ok (.string ⟨l.toArray⟩) wr := by
  obtain ⟨g, cap, rfl, _⟩ := hnn
  intro src dst hs hd
  have hc := hown.cells (g := g) rfl
  subst hl
  exact run_convert_bytes_back wr src dst 5 ⟨g, 0, none⟩ cap l hs Try.underlying5 hd (fun j hj => hc j _ (by simp [cellsOf, hj]))

theorem Try.info5 : (Try.prog.info? 5).map (fun i => (i.zero, i.size, i.bytes)) = some (some (.int .u8 0), 1, 1) := by kernel_rfl

set_option maxHeartbeats 1000000 in
theorem repeat_any (a : ByteArray) (w : World) (ha : a.size ≤ 65536) :
    Calls Try.prog 11 #[.string a] w fun e w' => e = .returned (.string ⟨(copies a.data.toList 8).toArray⟩) ∧ Below w.heap.size w w' := by
  obtain ⟨i0, hi, hz0, hz1, hz2⟩ := info_parts Try.info5
  go_enter Try.func11, Try.ntmps11
  go_wp2_with (first
    | (at_make; refine wpList_make_own _ rfl _ _ 30 rfl w.heap.size 5 i0 (.int .u8 0) 1 Try.underlying30 hi hz0 hz1 .i64 .i64 _ (8 * a.size) rfl rfl (by omega) (by rw [hz2]; omega) (by unfold maxLen; omega) (Nat.le_refl _) ?_; intro w1 hown1 hgrow1)
    | fail)
  have hb1 : Below w.heap.size w w1 := (Below.refl _ _).grown hgrow1 (Nat.le_refl _) (fun k hk => by simp at hk)
  clear hgrow1
  go_loopw [3, 4] (fun v i wr => ∃ k : Nat, k ≤ 8 ∧ i = .int .i64 k ∧ wr.ownsRow w.heap.size 5 1 v (k * a.size) (cellsOf (copies a.data.toList k)) ∧ Below w.heap.size w wr ∧
      (∃ g cap, v = .slice (some ⟨g, 0, none⟩) (k * a.size) cap ∧ w.heap.size ≤ g)) (fun _ i _ => 8 - (intOf i).toNat)
  case atStart => exact ⟨0, by omega, rfl, by simpa [copies, cellsOf] using hown1, hb1, ⟨_, _, by simp; rfl, Nat.le_refl _⟩⟩
  case round =>
    obtain ⟨k, hk, rfl, hown, hnx, hnn⟩ := hrel
    by_cases hlt : k < 8
    · have hm : k * a.size ≤ 7 * 65536 := Nat.mul_le_mul (by omega) ha
      have hks : ((k : Int) < 8) := by omega
      go_wp2_with (at_builtin; refine Lib.wpList_append_own_string _ rfl _ _ 30 9 rfl w.heap.size 5 i0 Try.underlying30 Try.underlying9 hi hz0 hz1 hz2 _ _ _ rfl hown a rfl (by unfold maxLen; omega) (by omega) hnx.size ?_; intro v' w1 hown' hgrow hnil)
      have R := rep_step a k hnn hnx hown' hgrow hnil
      clear hown' hgrow hnil hown hnx hnn
      go_wp2
      go_roundw
      case rel => exact ⟨k + 1, by omega, by go_num, R.1, R.2.1, R.2.2⟩
      case measure => simp [intOf]; omega
    · obtain rfl : k = 8 := by omega
      have hl : (copies a.data.toList 8).length = 8 * a.size := copies_length _ _
      have hcv := rep_back hl hown hnn 30 9 Try.underlying30 Try.underlying9
      clear hl hown hnn
      go_wp2
      go_ret
      exact ⟨rfl, hnx⟩

end Go.Proofs.Qxb6613460a.Ends
