/- The proof of 'Rows.FnSqliteTokenAgreesWithMysqlOnNamesAndNumbersToldSaid'. -/
import Derived.Test.Qxb6613816aFmtMy8
import Derived.Test.Qxb6613816aFmtKeeps
import Derived.Test.Qxb6613816aFmtStart
import Derived.Test.Qxb6613816aFmtTie
import Derived.SevenTiedAt
namespace Go.Proofs.Qxb6613816aFmt.Tok
open Go.ChangeShapes Go.WideShapes Go.ChangeAt Go.RowKit Go.Kit
open Go.Extern.Stop Go.Stop Go.Extern
open Go.ChangeMaps (open_string shut_string)
set_option linter.unusedVariables false

set_option maxRecDepth 100000 in
theorem agrees_lifted (os : Os) (started : os.Started) (H : Type) (enc : TypeId × Value → H) :
    ReturnsInTold none {} Tryf.checked os 6 .any Input.okWide ((OpenSpec.ofChange Rows.fnSqliteTokenAgreesWithMysqlOnNamesAndNumbersSpec).preRow enc Tryf.prog Tryf.f6 [] false Rows.fnSqliteTokenAgreesWithMysqlOnNamesAndNumbersRow.laid) (fun F => ((OpenSpec.ofChange Rows.fnSqliteTokenAgreesWithMysqlOnNamesAndNumbersSpec).at F).post enc Tryf.prog Tryf.f6 false true false false) (aloneAtReturn Tryf.prog) nothingAlways := by
  obtain ⟨w0, hos, hv, hr, hok, hrow⟩ := laid_start os
  refine told_shaped (C := Tryf.checked) (s := OpenSpec.ofChange Rows.fnSqliteTokenAgreesWithMysqlOnNamesAndNumbersSpec) (by kernel_rfl) own started (by kernel_rfl) Tryf.func6
    (OpenSpec.witness_stopped_at (enc := enc) (C := Tryf.checked) false w0 #[.string ⟨#[]⟩] hos hv hr hok (hrow H enc)) ?_
  intro F W base args ds gs before hF hval0 hW _ hsh
  have hval : ∀ (j : Nat) t v, Tryf.f6.params[j]? = some t → args[j]? = some v → Value.okWide Tryf.prog W .any base t v := hval0
  have hW' := hW
  obtain ⟨p, q, hA0, hV, rfl, hfz, hnd⟩ := hW
  have hA : DataW.TrodAll enc Tryf.prog W 0 (fun _ => true) true Tryf.f6.params.toList args.toList ds p := hA0
  rw [Tryf.params6] at hA hval
  obtain ⟨v0, vs0, d0, ds0, p0, q0, hargs, rfl, rfl, h0, r0⟩ := trodAll_cons hA
  obtain ⟨rfl, rfl, rfl⟩ := trodAll_nil r0
  obtain rfl : args = #[v0] := by cases args; simp_all
  obtain ⟨rfl, rfl⟩ := trodVars_none hV
  obtain ⟨a0, rfl, rfl, rfl, ws⟩ := open_string Tryf.underlying9 (hval 0 9 v0 rfl rfl) h0
  clear hA0 hval0
  obtain ⟨m, hm⟩ := Tryf.laysM143.s1_3 W hsh
  refine (walk6 F.told a0 ws W m hF (told_pos F) hm).mono fun e W' ⟨he, bel⟩ => ?_
  subst he
  exact ⟨_, rfl, _, _, _, [], _, [], hW', trodAll_mk1 (shut_bool Tryf.underlying4 _), (trodAll_cons_mk (shut_string Tryf.underlying9 ws) trodAll_mk0), rfl, bel.frame _, fun h => by cases h⟩

theorem agrees_holds : Claim7.holds Tryf.pinned (.plain (OpenSpec.ofChange Rows.fnSqliteTokenAgreesWithMysqlOnNamesAndNumbersSpec)) (Claim7.toldTiedRowAt .later Rows.fnSqliteTokenAgreesWithMysqlOnNamesAndNumbersRow (true, "52ea83fd1aa3b740a3466f3591cf55a9cf8a5b5faf8361c7c5bb82469e44eb48") true false [.data, .data, .data, .sentinel, .sentinel] true) :=
  Claim7.holds_of_told_tied_any_at .later 6 Tryf.f6 "fmt.Sprintf" ["fmt.errorf"] [] _ _ _ _ _ (by kernel_rfl) rfl rfl rfl laidOut (by kernel_rfl) rfl ⟨rfl, rfl, rfl, rfl, rfl, rfl, rfl⟩ rfl rfl (by kernel_rfl) (by kernel_rfl) Tryf.func6 (by kernel_rfl)
    (of_decide_eq_true (by kernel_rfl)) (of_decide_eq_true (by kernel_rfl)) stopsAre.symm rfl stopKnobsAre.symm (by kernel_rfl)
    (by kernel_rfl) (by kernel_rfl) (by kernel_rfl) (by kernel_rfl) (by kernel_rfl) (by kernel_rfl) (by kernel_rfl) (by kernel_rfl) (by kernel_rfl) rfl (by kernel_rfl) rfl rfl
    rfl rfl
    rfl (by kernel_rfl) (by kernel_rfl) (by kernel_rfl) (by decide) (by kernel_rfl) fnSqliteTokenAgreesWithMysqlOnNamesAndNumbers_row_tie
    (OpenClaim.moreEntering_of (by kernel_rfl) (by kernel_rfl) (by kernel_rfl) (by kernel_rfl) (by kernel_rfl) (by kernel_rfl) (by kernel_rfl) (by kernel_rfl) (by kernel_rfl) (by kernel_rfl))
    ⟨_, WideRow.started_initial, quiet _⟩
    (fun os started _ H enc _ => agrees_lifted os started H enc)

end Go.Proofs.Qxb6613816aFmt.Tok

namespace Go.Proofs.Qxb6613816aFmt
/-- THE STATEMENT. -/
theorem fnSqliteTokenAgreesWithMysqlOnNamesAndNumbers_proved : Rows.FnSqliteTokenAgreesWithMysqlOnNamesAndNumbersToldSaid := Tok.agrees_holds
end Go.Proofs.Qxb6613816aFmt
