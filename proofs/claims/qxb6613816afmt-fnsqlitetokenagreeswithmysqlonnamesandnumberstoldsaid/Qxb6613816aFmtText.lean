/- fmt.Sprintf at this program: the closed facts that the walk wants, and that the told text of notSQL is not empty. -/
import Derived.Test.Qxb6613816aFmtWk5
import Derived.Stop.Walk
import Derived.Stop.FmtLaws
import Derived.Stop.Texts
import Derived.Stop.JoinedTold
import Derived.Stop.FmtTextKit
import Derived.Stop.FmtTextVerbs
import Derived.Stop.FmtRuneSmall
import GoSem.ClaimData
namespace Go.Proofs.Qxb6613816aFmt.Tok
open Go.RowKit Go.Extern.Stop Go.Stop Go.Extern Go.Kit

theorem call59 (args : Array Value) (w : World) : (callFunc 59 args).run Tryf.prog w = ((FmtStop.sprintf #[9, 64] #[9] args).run Tryf.prog w).andThen fun v w' => .ok (.value v) w' :=
  run_callFunc_extern Tryf.func59 (by kernel_rfl) (by kernel_rfl) (by kernel_rfl) (by kernel_rfl) args w
theorem fguard (name : String) (w : World) : (FmtStop.guard name).run Tryf.prog w = .ok () w := by kernel_rfl
/-- the format of notSQL. -/
def fmtB : List UInt8 := [116, 104, 101, 32, 99, 104, 97, 114, 97, 99, 116, 101, 114, 32, 37, 113, 44, 32, 119, 104, 105, 99, 104, 32, 105, 115, 32, 110, 111, 116, 32, 83, 81, 76]
theorem fmt0 : FmtStop.printed? ⟨#[116, 104, 101, 32, 99, 104, 97, 114, 97, 99, 116, 101, 114, 32, 37, 113, 44, 32, 119, 104, 105, 99, 104, 32, 105, 115, 32, 110, 111, 116, 32, 83, 81, 76]⟩ 1 = some [(0, 113, false)] := by kernel_rfl
theorem fmt0r (w : World) : (FmtDoors.printed ⟨#[116, 104, 101, 32, 99, 104, 97, 114, 97, 99, 116, 101, 114, 32, 37, 113, 44, 32, 119, 104, 105, 99, 104, 32, 105, 115, 32, 110, 111, 116, 32, 83, 81, 76]⟩ 1).run Tryf.prog w = .ok [(0, 113, false)] w := by kernel_rfl
def shape5 : List UInt8 := [6, 5, 0, 0, 0, 0, 0, 0, 0, 117, 105, 110, 116, 56]
theorem op5_113 (name : String) (x : Int) (w : World) : (FmtStop.operand name false 113 false (.iface 5 (.int .u8 x))).run Tryf.prog w = .ok (shape5, Go.Extern.Stop.digits 8 (x % 2 ^ 64).toNat) w := by kernel_rfl
attribute [local go_sem] call59 fguard fmt0 fmt0r op5_113

/-- what fmt is asked. -/
def asked (x : Int) : List (List UInt8) := [fmtB, shape5, Go.Extern.Stop.digits 8 (x % 18446744073709551616).toNat]

set_option maxHeartbeats 400000 in
theorem notSQL_any (F : Interp) (x : Int) (w : World) (hF : F.answers w.tape) :
    Calls Tryf.prog 48 #[.int .u8 x] w fun e w' => e = .returned (.string (FmtStop.textOf (F "fmt.Sprintf" (asked x) 0))) ∧ Below w.heap.size w w' := by
  have hF' := answers_open hF
  go_enter Tryf.func48, Tryf.ntmps48
  go_wp2
  go_ret
  exact ⟨rfl, ((Below.refl _ _).alloc (Nat.le_refl _) _).drew⟩

theorem t_parse : (FmtText.parse fmtB).map FmtText.glue = some [.lit [116, 104, 101, 32, 99, 104, 97, 114, 97, 99, 116, 101, 114, 32], .verb {} 113, .lit [44, 32, 119, 104, 105, 99, 104, 32, 105, 115, 32, 110, 111, 116, 32, 83, 81, 76]] := by rfl

theorem t_text (c : UInt8) : ∃ t, FmtText.text "fmt.Sprintf" (asked c.toNat) = some t ∧ 0 < t.length ∧ t.length < 2 ^ 63 := by
  have hc := c.toNat_lt
  have hw : (Lit.int .u8 (c.toNat : Int)).wf = true := by simp [Lit.wf, IntKind.min, IntKind.max, IntKind.signed, IntKind.bits]; omega
  have hi := FmtText.operand_int_at (sh := shape5) (k := .u8) rfl rfl (c.toNat : Int) hw
  refine ⟨[116, 104, 101, 32, 99, 104, 97, 114, 97, 99, 116, 101, 114, 32] ++ (FmtText.quoteRune false c.toNat ++ [44, 32, 119, 104, 105, 99, 104, 32, 105, 115, 32, 110, 111, 116, 32, 83, 81, 76]), ?_, ?_, ?_⟩
  · rw [asked, FmtText.text_sprintf_glued t_parse (FmtText.operands_cons hi FmtText.operands_nil)]
    have e : ((c.toNat : Int) % 18446744073709551616).toNat = c.toNat := by omega
    rw [e]
    simp [FmtText.render, FmtText.printArg_q_int _ _ _ c.toNat (by omega)]
  · simp
  · have := quoteRune_len c.toNat
    simp only [List.length_append, List.length_cons, List.length_nil]
    omega

/-- the told text of notSQL is not empty. -/
theorem told_pos (F : Interp) (c : UInt8) : 0 < (FmtStop.textOf (F.told "fmt.Sprintf" (asked c.toNat) 0)).size := by
  obtain ⟨t, h1, h2, h3⟩ := t_text c
  have ht := told_string F h1 h3
  have e : (FmtStop.textOf (F.told "fmt.Sprintf" (asked c.toNat) 0)).data.toList = t := by rw [textOf_list, ht]
  have e2 : (FmtStop.textOf (F.told "fmt.Sprintf" (asked c.toNat) 0)).size = t.length := by rw [← e]; rfl
  omega

end Go.Proofs.Qxb6613816aFmt.Tok
