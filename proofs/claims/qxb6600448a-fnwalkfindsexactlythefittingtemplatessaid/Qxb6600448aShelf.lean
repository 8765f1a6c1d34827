/-
  DERIVED: THE SHELF's CONTRACT OF strings.Cut AT THIS DUMP, IN PLAIN WORDS (out of what tools/lay-shelf.mjs and tools/lay-plain.mjs wrote; the other contracts struck by hand).
-/
import Derived.Shelf.Strings.Cut
import Derived.Shelf.Vars
import Derived.Test.Qxb6600448aProg
namespace Go.Proofs
open Go.Shelf
def Try.lays145_ren : Go.Shelf.Ren := ⟨fun | 145 => 32 | 220 => 33 | 219 => 34 | 217 => 35 | 225 => 36 | 224 => 37 | 267 => 38 | 266 => 39 | 314 => 40 | n => n, fun | 9 => 9 | 4 => 4 | 59 => 72 | 3 => 3 | 5 => 5 | 46 => 76 | 146 => 78 | 51 => 77 | n => n, fun | 1 => 0 | n => n⟩
theorem Try.lays145 : Go.Proofs.Lays.n145 Try.prog Try.lays145_ren := {
  mixed := by kernel_rfl
  f145 := Try.func32.trans (congrArg some (by kernel_rfl))
  f217 := Try.func35.trans (congrArg some (by kernel_rfl))
  f219 := Try.func34.trans (congrArg some (by kernel_rfl))
  f220 := Try.func33.trans (congrArg some (by kernel_rfl))
  f224 := Try.func37.trans (congrArg some (by kernel_rfl))
  f225 := Try.func36.trans (congrArg some (by kernel_rfl))
  f266 := Try.func39.trans (congrArg some (by kernel_rfl))
  f267 := Try.func38.trans (congrArg some (by kernel_rfl))
  f314 := Try.func40.trans (congrArg some (by kernel_rfl))
  t3 := Try.underlying3
  a3 := Try.isAgg3
  z3 := Try.sizeOf3
  v3 := Try.zeroValue3
  t4 := Try.underlying4
  a4 := Try.isAgg4
  z4 := Try.sizeOf4
  v4 := Try.zeroValue4
  t5 := Try.underlying5
  a5 := Try.isAgg5
  z5 := Try.sizeOf5
  v5 := Try.zeroValue5
  t9 := Try.underlying9
  a9 := Try.isAgg9
  z9 := Try.sizeOf9
  v9 := Try.zeroValue9
  t46 := Try.underlying76
  a46 := Try.isAgg76
  z46 := Try.sizeOf76
  v46 := Try.zeroValue76
  t51 := Try.underlying77
  a51 := Try.isAgg77
  z51 := Try.sizeOf77
  v51 := Try.zeroValue77
  t59 := Try.underlying72
  a59 := Try.isAgg72
  z59 := Try.sizeOf72
  v59 := Try.zeroValue72
  t146 := Try.underlying78
  a146 := Try.isAgg78
  z146 := Try.sizeOf78
  v146 := Try.zeroValue78
  g1 := by kernel_rfl }
open Go.RowKit Go.Lib in
/-- strings.Cut -/
theorem Try.strings_Cut (s sep : ByteArray) (m : Int) (w : World) (hs : s.size < 4294967281) (hm : w.cell? ⟨0, 0, none⟩ = some (.int .i64 m)) :
    Calls Try.prog 32 #[.string s, .string sep] w fun e w' => e = .returned (.tuple #[.string ⟨(Lib.cut s.data.toList sep.data.toList).1.toArray⟩, .string ⟨(Lib.cut s.data.toList sep.data.toList).2.1.toArray⟩, .bool (Lib.cut s.data.toList sep.data.toList).2.2]) ∧ ∃ n, w' = w.drewN n := Any.strings_Cut Try.lays145 s sep m w hs hm
theorem Try.maxlen_cell (w : World) (h : w.ShapedOpen Try.prog) : ∃ m, w.cell? ⟨0, 0, none⟩ = some (.int .i64 m) :=
  Go.Proofs.cell_of_shapedOpen_int (zero := #[.int .i64 0]) (t := 3) h (of_decide_eq_true (by kernel_rfl)) (by kernel_rfl) rfl (by kernel_rfl) (by kernel_rfl) Try.underlying3
end Go.Proofs
