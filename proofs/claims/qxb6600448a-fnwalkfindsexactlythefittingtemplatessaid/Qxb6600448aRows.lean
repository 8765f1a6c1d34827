/-
  No cell of these rows narrows 'for every input' (looked for: loops, veiled, ifaces, maps, wideKeys, modest, calm, conditions, laid).
  DERIVED. THE GIVEN ROWS OF THIS SEAT. 4 by the template 'for every input the law returns true; each argument reads behind the call as it read before'; 0 by the template 'total and deterministic' (their statements: Qxb6600448aTotals.lean).
  GIVEN WITH THE SEED: the statements are not yours to turn. If you find one false, say at which input.
  Laid BY PROGRAM, IN A SANDBOX (cutbox-rows.mjs): the forced cells as the released guide's own fill.sh prints them over the translation 16020bc29d74e9de… (all of the seat's roots in one cut). By AI agents, Wed Nov 11 2026. No macro, syntax, notation, axiom, sorry.
-/
import Derived.Test.Qxb6600448aChecked
import GoSem.Claim
import GoSem.ClaimJoined
import GoSem.ClaimMapViews
import Derived.JoinedTies
import Derived.KernelRfl
namespace Go.Proofs.Qxb6600448a
/- THE CELL 'sum', in the pinned program and in every row, IS THE sha256 OF THE DUMP (.gsa) THAT Qxb6600448aProg.lean LOADS. Nothing in Lean hashes anything: it is a label: what it is worth is what the hold of that sum in a sandbox is worth. -/
noncomputable def Try.pinned : Pinned := { name := "qxb6600448a", sum := "16020bc29d74e9deebf2c3f111bbb615a32b1ff2d3627f105798abf6dd7096bf", checked := Try.checked }
namespace Rows
def none {H : Type} : Left H := { results := [], args := [] }

/-- 'zzlaws_internal_pathtemplate_b1.FnChildGivesOneNodePerPath': WHATEVER THE INPUT: true; the input reads as it did. -/
def fnChildGivesOneNodePerPathSpec : ChangeSpec := { name := "fnChildGivesOneNodePerPath", fn := fun _ => fun
  | [d] => { results := [.lit (.bool true)], args := [d] }
  | _ => none }
def fnChildGivesOneNodePerPathRow : OpenClaim := { program := "qxb6600448a", sum := "16020bc29d74e9deebf2c3f111bbb615a32b1ff2d3627f105798abf6dd7096bf", func := "example.com/corbelwire/corbelwire/zzlaws_internal_pathtemplate_b1.FnChildGivesOneNodePerPath", spec := "fnChildGivesOneNodePerPath", apart := false }
def FnChildGivesOneNodePerPathSaid : Prop := fnChildGivesOneNodePerPathRow.holds Try.pinned (OpenSpec.ofChange fnChildGivesOneNodePerPathSpec)

/-- ITS FALSE NEIGHBOUR: 'it returns false'. Refute it at one input. -/
def fnChildGivesOneNodePerPathWrong : ChangeSpec := { name := "fnChildGivesOneNodePerPath", fn := fun _ => fun
  | [d] => { results := [.lit (.bool false)], args := [d] }
  | _ => none }
def FnChildGivesOneNodePerPathWrongFalsely : Prop := fnChildGivesOneNodePerPathRow.holds Try.pinned (OpenSpec.ofChange fnChildGivesOneNodePerPathWrong)

/-- 'zzlaws_internal_pathtemplate_b1.FnChildAddsOnlyTheEdgesAsked': WHATEVER THE INPUT: true; the input reads as it did. -/
def fnChildAddsOnlyTheEdgesAskedSpec : ChangeSpec := { name := "fnChildAddsOnlyTheEdgesAsked", fn := fun _ => fun
  | [d] => { results := [.lit (.bool true)], args := [d] }
  | _ => none }
def fnChildAddsOnlyTheEdgesAskedRow : OpenClaim := { program := "qxb6600448a", sum := "16020bc29d74e9deebf2c3f111bbb615a32b1ff2d3627f105798abf6dd7096bf", func := "example.com/corbelwire/corbelwire/zzlaws_internal_pathtemplate_b1.FnChildAddsOnlyTheEdgesAsked", spec := "fnChildAddsOnlyTheEdgesAsked", apart := false }
def FnChildAddsOnlyTheEdgesAskedSaid : Prop := fnChildAddsOnlyTheEdgesAskedRow.holds Try.pinned (OpenSpec.ofChange fnChildAddsOnlyTheEdgesAskedSpec)

/-- ITS FALSE NEIGHBOUR: 'it returns false'. Refute it at one input. -/
def fnChildAddsOnlyTheEdgesAskedWrong : ChangeSpec := { name := "fnChildAddsOnlyTheEdgesAsked", fn := fun _ => fun
  | [d] => { results := [.lit (.bool false)], args := [d] }
  | _ => none }
def FnChildAddsOnlyTheEdgesAskedWrongFalsely : Prop := fnChildAddsOnlyTheEdgesAskedRow.holds Try.pinned (OpenSpec.ofChange fnChildAddsOnlyTheEdgesAskedWrong)

/-- 'zzlaws_internal_pathtemplate_b1.FnWalkFindsExactlyTheFittingTemplates': WHATEVER THE INPUT: true; the input reads as it did. -/
def fnWalkFindsExactlyTheFittingTemplatesSpec : ChangeSpec := { name := "fnWalkFindsExactlyTheFittingTemplates", fn := fun _ => fun
  | [d1, d2] => { results := [.lit (.bool true)], args := [d1, d2] }
  | _ => none }
def fnWalkFindsExactlyTheFittingTemplatesRow : OpenClaim := { program := "qxb6600448a", sum := "16020bc29d74e9deebf2c3f111bbb615a32b1ff2d3627f105798abf6dd7096bf", func := "example.com/corbelwire/corbelwire/zzlaws_internal_pathtemplate_b1.FnWalkFindsExactlyTheFittingTemplates", spec := "fnWalkFindsExactlyTheFittingTemplates", inPlace := ["internal/bytealg.IndexByteString", "internal/bytealg.IndexString"], recurses := true, named := ["internal/bytealg.MaxLen"], apart := false }
def FnWalkFindsExactlyTheFittingTemplatesSaid : Prop := fnWalkFindsExactlyTheFittingTemplatesRow.holds Try.pinned (OpenSpec.ofChange fnWalkFindsExactlyTheFittingTemplatesSpec)

/-- ITS FALSE NEIGHBOUR: 'it returns false'. Refute it at one input. -/
def fnWalkFindsExactlyTheFittingTemplatesWrong : ChangeSpec := { name := "fnWalkFindsExactlyTheFittingTemplates", fn := fun _ => fun
  | [d1, d2] => { results := [.lit (.bool false)], args := [d1, d2] }
  | _ => none }
def FnWalkFindsExactlyTheFittingTemplatesWrongFalsely : Prop := fnWalkFindsExactlyTheFittingTemplatesRow.holds Try.pinned (OpenSpec.ofChange fnWalkFindsExactlyTheFittingTemplatesWrong)

/-- 'zzlaws_internal_pathtemplate_b1.FnWalkLeavesEarlierMatchesAlone': WHATEVER THE INPUT: true; the input reads as it did. -/
def fnWalkLeavesEarlierMatchesAloneSpec : ChangeSpec := { name := "fnWalkLeavesEarlierMatchesAlone", fn := fun _ => fun
  | [d1, d2, d3] => { results := [.lit (.bool true)], args := [d1, d2, d3] }
  | _ => none }
def fnWalkLeavesEarlierMatchesAloneRow : OpenClaim := { program := "qxb6600448a", sum := "16020bc29d74e9deebf2c3f111bbb615a32b1ff2d3627f105798abf6dd7096bf", func := "example.com/corbelwire/corbelwire/zzlaws_internal_pathtemplate_b1.FnWalkLeavesEarlierMatchesAlone", spec := "fnWalkLeavesEarlierMatchesAlone", inPlace := ["internal/bytealg.IndexByteString", "internal/bytealg.IndexString"], recurses := true, named := ["internal/bytealg.MaxLen"], apart := false }
def FnWalkLeavesEarlierMatchesAloneSaid : Prop := fnWalkLeavesEarlierMatchesAloneRow.holds Try.pinned (OpenSpec.ofChange fnWalkLeavesEarlierMatchesAloneSpec)

/-- ITS FALSE NEIGHBOUR: 'it returns false'. Refute it at one input. -/
def fnWalkLeavesEarlierMatchesAloneWrong : ChangeSpec := { name := "fnWalkLeavesEarlierMatchesAlone", fn := fun _ => fun
  | [d1, d2, d3] => { results := [.lit (.bool false)], args := [d1, d2, d3] }
  | _ => none }
def FnWalkLeavesEarlierMatchesAloneWrongFalsely : Prop := fnWalkLeavesEarlierMatchesAloneRow.holds Try.pinned (OpenSpec.ofChange fnWalkLeavesEarlierMatchesAloneWrong)

end Rows
end Go.Proofs.Qxb6600448a
