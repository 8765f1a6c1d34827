/- The proof of 'Rows.FnSqliteTokenKeepsItsLengthToldSaid'. -/
import Derived.Test.Qxb6613816aFmtMain
import Derived.Test.Qxb6613816aFmtCards
import Derived.ProofKit
import Derived.OpenShut
import Derived.ShutString
import Derived.Stop.JoinedAt
import Derived.Stop.JoinedTold
import Derived.SevenToldRow
namespace Go.Proofs.Qxb6613816aFmt.Tok
open Go.ChangeShapes Go.WideShapes Go.ChangeAt Go.RowKit Go.Kit
open Go.Extern.Stop Go.Stop Go.Extern
open Go.ChangeMaps (open_string shut_string)
set_option linter.unusedVariables false

theorem own : ownKnob Tryf.prog.godebug = none := by kernel_rfl

/-- the wrap at F.told, the world's shape handed on. -/
theorem told_shaped {H : Type} {enc : TypeId × Value → H} {a : Assume} {C : Checked} {os : Os} {f : FuncId} {fn : Func} {s : OpenSpec} {conds : List PathCond} {apart fresh handsOn again : Bool} {laid : List (String × DataW Unit)}
    (enter : C.prog.mayEnter = true) (own : ownKnob C.prog.godebug = none) (started : os.Started) (noInit : C.prog.inits.idxOf? f = none) (hfn : C.prog.funcs[f]? = some fn)
    (witness : ∀ F : Stop.Interp, ∃ (w : World) (tape : Tape) (i : Input), w.os = os ∧ (w.forCall tape i).Shaped C.prog ∧ i.vars = [] ∧ Input.okWide C.prog (w.forCall tape i) .any w.heap.size f i ∧
      s.preRow enc C.prog fn conds apart laid (w.forCall tape i).memory i.args ∧ a.holds C.prog (lone (Frame.enter C.prog f i.args .normal) [] (w.forCall tape i)) ∧ F.answers tape)
    (contract : ∀ (F : Stop.Interp) (W : World) (base : Nat) (args : Array Value) (ds gs : List (DataW H)) (before : List MemPlace),
      F.told.answers W.tape →
      (∀ (j : Nat) t v, fn.params[j]? = some t → args[j]? = some v → Value.okWide C.prog W .any base t v) →
      DataW.Whole enc C.prog fn.params.toList s.vars apart W args.toList ds gs before →
      laidMetH C.prog laid W → W.ShapedOpen C.prog →
      Calls C.prog f args W fun e W' => ∃ v, e = .returned v ∧ (s.at F.told).post enc C.prog fn apart fresh handsOn again W args v W') :
    ReturnsInTold none a C os f .any Input.okWide (s.preRow enc C.prog fn conds apart laid) (fun F => (s.at F).post enc C.prog fn apart fresh handsOn again) (aloneAtReturn C.prog) nothingAlways := by
  intro F
  show ReturnsInOpen a (some F.told) C os f .any Input.okWide _ _ (aloneAtReturn C.prog) nothingAlways
  refine returnsInOpen_of_calls_wide enter own started noInit (witness F.told) ?_
  intro w tape i hos hshape _ hok hpre hholds hF
  obtain ⟨_, _, _, fn', hfn', _, _, _, _, hval⟩ := hok
  have e : fn' = fn := Option.some.inj (hfn'.symm.trans hfn)
  subst e
  obtain ⟨⟨hp, hl⟩, hz⟩ := hpre
  obtain ⟨ds, gs, before, hw, hc, hk⟩ := OpenSpec.pre_parts hp
  have hw' := DataW.Whole.of_heap (w' := w.forCall tape i) (by rfl) hw
  refine (contract F (w.forCall tape i) w.heap.size i.args ds gs before hF hval hw' (hl.of_heap (by rfl)) hshape).mono fun e W' ⟨v, he, hp⟩ => ?_
  subst he
  exact ChangeSpec.post_blind hp

set_option maxHeartbeats 1000000 in
theorem walk5 (F : Interp) (a0 a1 : ByteArray) (w0 : a0.size ≤ maxLen) (w1 : a1.size ≤ maxLen) (w : World) (m : Int) (hF : F.told.answers w.tape) (hm : w.cell? ⟨0, 0, none⟩ = some (.int .i64 m)) :
    Calls Tryf.prog 5 #[.string a0, .string a1] w fun e w' => e = .returned (.bool true) ∧ Below w.heap.size w w' := by
  by_cases hs : a0.size + a1.size ≤ 1048576
  · by_cases h0 : 0 < a0.size
    · exact core F.told a0 a1 w m hF (told_pos F) hm hs h0
    · have ez : ((a0.size : Int) == 0) = true := by rw [beq_iff_eq]; omega
      clear hF hm
      go_enter Tryf.func5, Tryf.ntmps5
      go_wp2_with (go_at_call 13; refine (bytes_yes _ _ _ hs).mono ?_; rintro e w' ⟨rfl, rfl⟩)
      go_ret
      exact ⟨rfl, Below.refl _ _⟩
  · clear hF hm
    go_enter Tryf.func5, Tryf.ntmps5
    go_wp2_with (go_at_call 13; refine (bytes_no _ _ _ w0 w1 hs).mono ?_; rintro e w' ⟨rfl, rfl⟩)
    go_ret
    exact ⟨rfl, Below.refl _ _⟩

set_option maxRecDepth 100000 in
theorem keeps_lifted (os : Os) (started : os.Started) (H : Type) (enc : TypeId × Value → H) :
    ReturnsInTold none {} Tryf.checked os 5 .any Input.okWide ((OpenSpec.ofChange Rows.fnSqliteTokenKeepsItsLengthSpec).preRow enc Tryf.prog Tryf.f5 [] false []) (fun F => ((OpenSpec.ofChange Rows.fnSqliteTokenKeepsItsLengthSpec).at F).post enc Tryf.prog Tryf.f5 false true false false) (aloneAtReturn Tryf.prog) nothingAlways := by
  refine told_shaped (C := Tryf.checked) (s := OpenSpec.ofChange Rows.fnSqliteTokenKeepsItsLengthSpec) (by kernel_rfl) own started (by kernel_rfl) Tryf.func5
    (OpenSpec.witness_stopped (enc := enc) (C := Tryf.checked) false ⟨#[], #[.string ByteArray.empty, .string ByteArray.empty], []⟩ 8 (by kernel_rfl) (by kernel_rfl) (by kernel_rfl) (by kernel_rfl)) ?_
  intro F W base args ds gs before hF hval0 hW _ hsh
  have hval : ∀ (j : Nat) t v, Tryf.f5.params[j]? = some t → args[j]? = some v → Value.okWide Tryf.prog W .any base t v := hval0
  have hW' := hW
  obtain ⟨p, q, hA0, hV, rfl, hfz, hnd⟩ := hW
  have hA : DataW.TrodAll enc Tryf.prog W 0 (fun _ => true) true Tryf.f5.params.toList args.toList ds p := hA0
  rw [Tryf.params5] at hA hval
  obtain ⟨v0, vs0, d0, ds0, p0, q0, hargs, rfl, rfl, h0, r0⟩ := trodAll_cons hA
  obtain ⟨v1, vs1, d1, ds1, p1, q1, rfl, rfl, rfl, h1, r1⟩ := trodAll_cons r0
  obtain ⟨rfl, rfl, rfl⟩ := trodAll_nil r1
  obtain rfl : args = #[v0, v1] := by cases args; simp_all
  obtain ⟨rfl, rfl⟩ := trodVars_none hV
  obtain ⟨a0, rfl, rfl, rfl, w0⟩ := open_string Tryf.underlying9 (hval 0 9 v0 rfl rfl) h0
  obtain ⟨a1, rfl, rfl, rfl, w1⟩ := open_string Tryf.underlying9 (hval 1 9 v1 rfl rfl) h1
  clear hA0 hval0
  obtain ⟨m, hm⟩ := Tryf.laysM143.s1_3 W hsh
  refine (walk5 F a0 a1 w0 w1 W m hF hm).mono fun e W' ⟨he, bel⟩ => ?_
  subst he
  exact ⟨_, rfl, _, _, _, [], _, [], hW', trodAll_mk1 (shut_bool Tryf.underlying4 _), (trodAll_cons_mk (shut_string Tryf.underlying9 w0) (trodAll_cons_mk (shut_string Tryf.underlying9 w1) trodAll_mk0)), rfl, bel.frame _, fun h => by cases h⟩

theorem laidOut : laidOutB Tryf.pinned.checked.prog = true := by kernel_rfl
theorem stopsAre : Tryf.pinned.checked.prog.stops = ["fmt.Sprintf", "fmt.errorf"] := by kernel_rfl
theorem stopKnobsAre : Tryf.pinned.checked.prog.stopKnobs = [] := by kernel_rfl
theorem quiet (os : Os) : Stop.quiet Tryf.pinned.checked.prog os := by
  intro k hk
  rw [stopKnobsAre] at hk
  cases hk

theorem keeps_holds : Claim7.holds Tryf.pinned (.plain (OpenSpec.ofChange Rows.fnSqliteTokenKeepsItsLengthSpec)) (Claim7.toldRow Rows.fnSqliteTokenKeepsItsLengthRow (true, "52ea83fd1aa3b740a3466f3591cf55a9cf8a5b5faf8361c7c5bb82469e44eb48") true false) :=
  Claim7.holds_of_told_any 5 Tryf.f5 "fmt.Sprintf" ["fmt.errorf"] [] _ _ _ (by kernel_rfl) rfl rfl rfl laidOut (by kernel_rfl) rfl ⟨rfl, rfl, rfl, rfl, rfl, rfl, rfl⟩ rfl rfl (by kernel_rfl) (by kernel_rfl) Tryf.func5 (by kernel_rfl)
    (of_decide_eq_true (by kernel_rfl)) (of_decide_eq_true (by kernel_rfl)) stopsAre.symm rfl stopKnobsAre.symm (by kernel_rfl)
    (by kernel_rfl) (by kernel_rfl) (by kernel_rfl) (by kernel_rfl) (by kernel_rfl) (by kernel_rfl) (by kernel_rfl) (by kernel_rfl) (by kernel_rfl) rfl (by kernel_rfl) rfl rfl
    rfl rfl
    rfl (by kernel_rfl) (by kernel_rfl) (by kernel_rfl) (by decide) (by kernel_rfl)
    (OpenClaim.moreEntering_of (by kernel_rfl) (by kernel_rfl) (by kernel_rfl) (by kernel_rfl) (by kernel_rfl) (by kernel_rfl) (by kernel_rfl) (by kernel_rfl) (by kernel_rfl) (by kernel_rfl))
    ⟨_, WideRow.started_initial, quiet _⟩
    (fun os started _ H enc _ => keeps_lifted os started H enc)

end Go.Proofs.Qxb6613816aFmt.Tok

namespace Go.Proofs.Qxb6613816aFmt
/-- THE STATEMENT. -/
theorem fnSqliteTokenKeepsItsLength_proved : Rows.FnSqliteTokenKeepsItsLengthToldSaid := Tok.keeps_holds
end Go.Proofs.Qxb6613816aFmt
