/- A start that fits the row of the second law: the listed variables hold what their initialisers lay. -/
import Derived.Test.Qxb6613816aFmtRows
import Derived.Lib.LaidIn
import Derived.Deep.DeepWitnessRowRef
import Derived.Stop.JoinedAt
import Derived.ProofKit
namespace Go.Proofs.Qxb6613816aFmt.Tok
open Go.ChangeShapes Go.WideShapes Go.ChangeAt Go.RowKit Go.Kit
open Go.Extern.Stop Go.Stop Go.Extern

set_option maxRecDepth 1000000 in
theorem laid_start (os : Os) : ∃ w0 : World, w0.os = os ∧
    (w0.forCall (fun _ _ => 0) ⟨#[], #[.string ⟨#[]⟩], []⟩).variablesB Tryf.checked.prog = true ∧
    ((w0.forCall (fun _ _ => 0) ⟨#[], #[.string ⟨#[]⟩], []⟩).heap.toList.drop Tryf.checked.prog.globals.size).take ((begin Tryf.checked.prog (fun _ _ => 0) default).world.heap.size - Tryf.checked.prog.globals.size) =
      (begin Tryf.checked.prog (fun _ _ => 0) default).world.heap.toList.drop Tryf.checked.prog.globals.size ∧
    Input.okWideB Tryf.checked.prog (w0.forCall (fun _ _ => 0) ⟨#[], #[.string ⟨#[]⟩], []⟩) 6 ⟨#[], #[.string ⟨#[]⟩], []⟩ = true ∧
    (∀ (H : Type) (enc : TypeId × Value → H), (OpenSpec.ofChange Rows.fnSqliteTokenAgreesWithMysqlOnNamesAndNumbersSpec).preRow enc Tryf.prog Tryf.f6 [] false Rows.fnSqliteTokenAgreesWithMysqlOnNamesAndNumbersRow.laid (w0.forCall (fun _ _ => 0) ⟨#[], #[.string ⟨#[]⟩], []⟩).memory #[.string ⟨#[]⟩]) := by
  refine ⟨{ World.holding Tryf.prog os ⟨#[.cells #[.string ⟨#[118, 97, 108, 117, 101, 32, 111, 117, 116, 32, 111, 102, 32, 114, 97, 110, 103, 101]⟩] 58, .cells #[.string ⟨#[105, 110, 118, 97, 108, 105, 100, 32, 115, 121, 110, 116, 97, 120]⟩] 58], #[], []⟩ with
      heap := ((((((World.holding Tryf.prog os ⟨#[.cells #[.string ⟨#[118, 97, 108, 117, 101, 32, 111, 117, 116, 32, 111, 102, 32, 114, 97, 110, 103, 101]⟩] 58, .cells #[.string ⟨#[105, 110, 118, 97, 108, 105, 100, 32, 115, 121, 110, 116, 97, 120]⟩] 58], #[], []⟩).heap.modify 1 (fun | .cells _ t fr => .cells #[.iface 56 (.pointer (some ⟨(World.settled Tryf.prog os).heap.size + 1, 0, none⟩))] t fr | o => o)).modify 2 (fun | .cells _ t fr => .cells #[.iface 56 (.pointer (some ⟨(World.settled Tryf.prog os).heap.size, 0, none⟩))] t fr | o => o)).modify 3 (fun | .cells _ t fr => .cells #[.int .u64 1, .int .u64 10, .int .u64 100, .int .u64 1000, .int .u64 10000, .int .u64 100000, .int .u64 1000000, .int .u64 10000000, .int .u64 100000000, .int .u64 1000000000, .int .u64 10000000000, .int .u64 100000000000, .int .u64 1000000000000, .int .u64 10000000000000, .int .u64 100000000000000, .int .u64 1000000000000000, .int .u64 10000000000000000, .int .u64 100000000000000000, .int .u64 1000000000000000000, .int .u64 10000000000000000000] t fr | o => o)).modify 4 (fun | .cells _ t fr => .cells (([0, 1, 28, 2, 29, 14, 24, 3, 30, 22, 20, 15, 25, 17, 4, 8, 31, 27, 13, 23, 21, 19, 16, 7, 26, 12, 18, 6, 11, 5, 10, 9] : List Int).map (Value.int .u8)).toArray t fr | o => o)).modify 5 (fun | .cells _ t fr => .cells (([0, 1, 56, 2, 57, 49, 28, 3, 61, 58, 42, 50, 38, 29, 17, 4, 62, 47, 59, 36, 45, 43, 51, 22, 53, 39, 33, 30, 24, 18, 12, 5, 63, 55, 48, 27, 60, 41, 37, 16, 46, 35, 44, 21, 52, 32, 23, 11, 54, 26, 40, 15, 34, 20, 31, 10, 25, 14, 19, 9, 13, 8, 7, 6] : List Int).map (Value.int .u8)).toArray t fr | o => o)) }, rfl, by kernel_rfl, by kernel_rfl, by kernel_rfl, fun H enc => OpenSpec.preRow_of_B rfl 8 (by kernel_rfl) (by kernel_rfl) ?_⟩
  exact (LaidIn.of_run [4, 5, 3, 2, (World.settled Tryf.prog default).heap.size, 1, (World.settled Tryf.prog default).heap.size + 1] 10 (by kernel_rfl) (by kernel_rfl) (by kernel_rfl) (by kernel_rfl)).met

end Go.Proofs.Qxb6613816aFmt.Tok
