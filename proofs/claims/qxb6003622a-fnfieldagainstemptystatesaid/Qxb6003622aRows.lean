/-
  No cell of these rows narrows 'for every input' (looked for: loops, veiled, ifaces, maps, wideKeys, modest, calm, conditions, laid).
  DERIVED. THE GIVEN ROWS OF THIS SEAT. 2 by the template 'for every input the law returns true; each argument reads behind the call as it read before'; 0 by the template 'total and deterministic' (their statements: Qxb6003622aTotals.lean).
  GIVEN WITH THE SEED: the statements are not yours to turn. If you find one false, say at which input.
  Laid BY PROGRAM, IN A SANDBOX (cutbox-rows.mjs): the forced cells as the released guide's own fill.sh prints them over the translation b7956fba3394d79c… (all of the seat's roots in one cut). By AI agents, Wed Nov 11 2026. No macro, syntax, notation, axiom, sorry.
-/
import Derived.Test.Qxb6003622aChecked
import GoSem.Claim
import GoSem.ClaimJoined
import GoSem.ClaimMapViews
import Derived.JoinedTies
import Derived.KernelRfl
namespace Go.Proofs.Qxb6003622a
/- THE CELL 'sum', in the pinned program and in every row, IS THE sha256 OF THE DUMP (.gsa) THAT Qxb6003622aProg.lean LOADS. Nothing in Lean hashes anything: it is a label: what it is worth is what the hold of that sum in a sandbox is worth. -/
noncomputable def Try.pinned : Pinned := { name := "qxb6003622a", sum := "b7956fba3394d79c2d85708f6a4e666c9802cff3383f28ec07b4111046600439", checked := Try.checked }
namespace Rows
def none {H : Type} : Left H := { results := [], args := [] }

/-- 'zzlaws_root_b1.FnFieldAgainstEmptyState': WHATEVER THE INPUT: true; the input reads as it did. -/
def fnFieldAgainstEmptyStateSpec : ChangeSpec := { name := "fnFieldAgainstEmptyState", fn := fun _ => fun
  | [d1, d2, d3] => { results := [.lit (.bool true)], args := [d1, d2, d3] }
  | _ => none }
def fnFieldAgainstEmptyStateRow : OpenClaim := { program := "qxb6003622a", sum := "b7956fba3394d79c2d85708f6a4e666c9802cff3383f28ec07b4111046600439", func := "example.com/wait-or-fail/wait-or-fail/zzlaws_root_b1.FnFieldAgainstEmptyState", spec := "fnFieldAgainstEmptyState", inPlace := ["internal/bytealg.IndexByte", "internal/bytealg.Index"], named := ["internal/bytealg.MaxLen"], apart := false }
def FnFieldAgainstEmptyStateSaid : Prop := fnFieldAgainstEmptyStateRow.holds Try.pinned (OpenSpec.ofChange fnFieldAgainstEmptyStateSpec)

/-- ITS FALSE NEIGHBOUR: 'it returns false'. Refute it at one input. -/
def fnFieldAgainstEmptyStateWrong : ChangeSpec := { name := "fnFieldAgainstEmptyState", fn := fun _ => fun
  | [d1, d2, d3] => { results := [.lit (.bool false)], args := [d1, d2, d3] }
  | _ => none }
def FnFieldAgainstEmptyStateWrongFalsely : Prop := fnFieldAgainstEmptyStateRow.holds Try.pinned (OpenSpec.ofChange fnFieldAgainstEmptyStateWrong)

/-- 'zzlaws_root_b1.FnHexDigitPreimages': WHATEVER THE INPUT: true; the input reads as it did. -/
def fnHexDigitPreimagesSpec : ChangeSpec := { name := "fnHexDigitPreimages", fn := fun _ => fun
  | [d] => { results := [.lit (.bool true)], args := [d] }
  | _ => none }
def fnHexDigitPreimagesRow : OpenClaim := { program := "qxb6003622a", sum := "b7956fba3394d79c2d85708f6a4e666c9802cff3383f28ec07b4111046600439", func := "example.com/wait-or-fail/wait-or-fail/zzlaws_root_b1.FnHexDigitPreimages", spec := "fnHexDigitPreimages", apart := false }
def FnHexDigitPreimagesSaid : Prop := fnHexDigitPreimagesRow.holds Try.pinned (OpenSpec.ofChange fnHexDigitPreimagesSpec)

/-- ITS FALSE NEIGHBOUR: 'it returns false'. Refute it at one input. -/
def fnHexDigitPreimagesWrong : ChangeSpec := { name := "fnHexDigitPreimages", fn := fun _ => fun
  | [d] => { results := [.lit (.bool false)], args := [d] }
  | _ => none }
def FnHexDigitPreimagesWrongFalsely : Prop := fnHexDigitPreimagesRow.holds Try.pinned (OpenSpec.ofChange fnHexDigitPreimagesWrong)

end Rows
end Go.Proofs.Qxb6003622a
