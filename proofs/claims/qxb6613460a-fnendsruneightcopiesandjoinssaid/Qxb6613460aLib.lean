/- The library's contracts at this program, as the kit's templates lay them (the one-byte search), gathered in one text. -/
import Derived.Test.Qxb6613460aChecked
import Derived.Lib.Strings
import Derived.Lib.Slices
import Derived.Lib.Walk
import Derived.Lib.Bytealg
namespace Go.Proofs

set_option maxHeartbeats 1000000 in
set_option maxRecDepth 100000 in
theorem Try.stringslite_IndexByte (s : ByteArray) (c : Int) (w : World) :
    Calls Try.prog 23 #[.string s, .int .u8 c] w fun e w' => e = .returned (.int .i64 (Lib.indexByte s.data.toList c.toNat.toUInt8)) ∧ w' = w := by
  go_enter Try.func23, Try.ntmps23
  go_wp2
  rw [run_callFunc_extern Try.func27 (by kernel_rfl) (by kernel_rfl) (by kernel_rfl) (e := Extern.BytealgIndexByte.indexByte) (by kernel_rfl), Lib.run_indexByteString]
  simp only [Result.andThen]
  rw [Oper.upon_value]
  go_wp2
  go_ret
  exact ⟨rfl, rfl⟩

set_option maxHeartbeats 2000000 in
set_option maxRecDepth 100000 in
theorem Try.stringslite_Index_one (s : ByteArray) (c : UInt8) (w : World) :
    Calls Try.prog 22 #[.string s, .string ⟨#[c]⟩] w fun e w' => e = .returned (.int .i64 (Lib.indexByte s.data.toList c)) ∧ w' = w := by
  go_enter Try.func22, Try.ntmps22
  go_wp2_with (go_at_call 23; refine (Try.stringslite_IndexByte _ _ _).mono ?_; rintro e w' ⟨rfl, rfl⟩)
  · have h : ([c] == s.toList) = true := by assumption
    go_ret
    refine ⟨?_, rfl⟩
    have e : s.data.toList = [c] := by rw [← Lib.toList_data]; exact (beq_iff_eq.1 h).symm
    rw [e]
    simp [Lib.indexByte]
  · go_ret
    exact ⟨rfl, rfl⟩

set_option maxHeartbeats 1000000 in
theorem Try.strings_Index_one (s : ByteArray) (c : UInt8) (w : World) :
    Calls Try.prog 21 #[.string s, .string ⟨#[c]⟩] w fun e w' => e = .returned (.int .i64 (Lib.indexByte s.data.toList c)) ∧ w' = w := by
  go_enter Try.func21, Try.ntmps21
  go_wp2_with (go_at_call 22; refine (Try.stringslite_Index_one _ _ _).mono ?_; rintro e w' ⟨rfl, rfl⟩)
  go_ret
  exact ⟨rfl, rfl⟩

set_option maxHeartbeats 1000000 in
theorem Try.strings_Contains_one (s : ByteArray) (c : UInt8) (w : World) :
    Calls Try.prog 20 #[.string s, .string ⟨#[c]⟩] w fun e w' => e = .returned (.bool (decide (0 ≤ Lib.indexByte s.data.toList c))) ∧ w' = w := by
  go_enter Try.func20, Try.ntmps20
  go_wp2_with (go_at_call 21; refine (Try.strings_Index_one _ _ _).mono ?_; rintro e w' ⟨rfl, rfl⟩)
  go_ret
  exact ⟨rfl, rfl⟩

end Go.Proofs
