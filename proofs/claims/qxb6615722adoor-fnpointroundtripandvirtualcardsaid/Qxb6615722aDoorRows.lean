/-
  NARROWER THAN 'FOR EVERY INPUT', by the rows' own cells (each row's printed sentence says how): FnPointRoundTripAndVirtual: laid · FnPointMonotoneAndSaturates: laid.
  DERIVED. THE GIVEN ROWS OF THIS SEAT. 2 by the template 'for every input the law returns true; each argument reads behind the call as it read before'; 0 by the template 'total and deterministic' (their statements: Qxb6615722aDoorTotals.lean).
  GIVEN WITH THE SEED: the statements are not yours to turn. If you find one false, say at which input.
  Laid BY PROGRAM, IN A SANDBOX (cutbox-rows.mjs): the forced cells as the released guide's own fill.sh prints them over the translation 5c951d12016354f7… (all of the seat's roots in one cut). By AI agents, Wed Nov 11 2026. No macro, syntax, notation, axiom, sorry.
-/
import Derived.Test.Qxb6615722aDoorChecked
import GoSem.Claim
import GoSem.ClaimJoined
import GoSem.ClaimMapViews
import Derived.JoinedTies
import Derived.KernelRfl
namespace Go.Proofs.Qxb6615722aDoor
/- THE CELL 'sum', in the pinned program and in every row, IS THE sha256 OF THE DUMP (.gsa) THAT Qxb6615722aDoorProg.lean LOADS. Nothing in Lean hashes anything: it is a label: what it is worth is what the hold of that sum in a sandbox is worth. -/
noncomputable def Tryd.pinned : Pinned := { name := "qxb6615722adoor", sum := "5c951d12016354f7015c9daba1c55737d53a8157c9b04e12208a56ab079a1a3f", checked := Tryd.checked }
namespace Rows
def none {H : Type} : Left H := { results := [], args := [] }

/- WHAT THE LISTED PACKAGE-LEVEL VARIABLES READ AS WHEN THE CALL BEGINS. Each datum BY PROGRAM (the guide's laid-datum.mjs) off the statement by which the dump's own 'gosem.cut.vars' lays the variable. In a bare row this is a premise. The card (Qxb6615722aDoorCards.lean) ties it to the program's text. -/
def laid_example_com_idlewell_idlewell_space_scales {H : Type} : DataW H := .agg [.lit (.float .f64 4616189618054758400), .lit (.float .f64 4679240012837945344), .lit (.float .f64 4661225614328463360)]

/-- 'zzlaws_pool_b1.FnPointRoundTripAndVirtual': WHATEVER THE INPUT: true; the input reads as it did. -/
def fnPointRoundTripAndVirtualSpec : ChangeSpec := { name := "fnPointRoundTripAndVirtual", vars := ["example.com/idlewell/idlewell/space.scales"], fn := fun _ => fun
  | [d1, d2, d3, d4, d5, g1] => { results := [.lit (.bool true)], args := [d1, d2, d3, d4, d5], vars := [g1] }
  | _ => none }
def fnPointRoundTripAndVirtualRow : OpenClaim := { program := "qxb6615722adoor", sum := "5c951d12016354f7015c9daba1c55737d53a8157c9b04e12208a56ab079a1a3f", func := "example.com/idlewell/idlewell/zzlaws_pool_b1.FnPointRoundTripAndVirtual", spec := "fnPointRoundTripAndVirtual", named := ["example.com/idlewell/idlewell/space.scales"], apart := false, laid := [("example.com/idlewell/idlewell/space.scales", laid_example_com_idlewell_idlewell_space_scales)] }
def FnPointRoundTripAndVirtualSaid : Prop := fnPointRoundTripAndVirtualRow.holds Tryd.pinned (OpenSpec.ofChange fnPointRoundTripAndVirtualSpec)

/-- ITS FALSE NEIGHBOUR: 'it returns false'. Refute it at one input. -/
def fnPointRoundTripAndVirtualWrong : ChangeSpec := { name := "fnPointRoundTripAndVirtual", vars := ["example.com/idlewell/idlewell/space.scales"], fn := fun _ => fun
  | [d1, d2, d3, d4, d5, g1] => { results := [.lit (.bool false)], args := [d1, d2, d3, d4, d5], vars := [g1] }
  | _ => none }
def FnPointRoundTripAndVirtualWrongFalsely : Prop := fnPointRoundTripAndVirtualRow.holds Tryd.pinned (OpenSpec.ofChange fnPointRoundTripAndVirtualWrong)

/-- 'zzlaws_pool_b1.FnPointMonotoneAndSaturates': WHATEVER THE INPUT: true; the input reads as it did. -/
def fnPointMonotoneAndSaturatesSpec : ChangeSpec := { name := "fnPointMonotoneAndSaturates", vars := ["example.com/idlewell/idlewell/space.scales"], fn := fun _ => fun
  | [d1, d2, d3, d4, d5, d6, d7, d8, g1] => { results := [.lit (.bool true)], args := [d1, d2, d3, d4, d5, d6, d7, d8], vars := [g1] }
  | _ => none }
def fnPointMonotoneAndSaturatesRow : OpenClaim := { program := "qxb6615722adoor", sum := "5c951d12016354f7015c9daba1c55737d53a8157c9b04e12208a56ab079a1a3f", func := "example.com/idlewell/idlewell/zzlaws_pool_b1.FnPointMonotoneAndSaturates", spec := "fnPointMonotoneAndSaturates", named := ["example.com/idlewell/idlewell/space.scales"], apart := false, laid := [("example.com/idlewell/idlewell/space.scales", laid_example_com_idlewell_idlewell_space_scales)] }
def FnPointMonotoneAndSaturatesSaid : Prop := fnPointMonotoneAndSaturatesRow.holds Tryd.pinned (OpenSpec.ofChange fnPointMonotoneAndSaturatesSpec)

/-- ITS FALSE NEIGHBOUR: 'it returns false'. Refute it at one input. -/
def fnPointMonotoneAndSaturatesWrong : ChangeSpec := { name := "fnPointMonotoneAndSaturates", vars := ["example.com/idlewell/idlewell/space.scales"], fn := fun _ => fun
  | [d1, d2, d3, d4, d5, d6, d7, d8, g1] => { results := [.lit (.bool false)], args := [d1, d2, d3, d4, d5, d6, d7, d8], vars := [g1] }
  | _ => none }
def FnPointMonotoneAndSaturatesWrongFalsely : Prop := fnPointMonotoneAndSaturatesRow.holds Tryd.pinned (OpenSpec.ofChange fnPointMonotoneAndSaturatesWrong)

end Rows
end Go.Proofs.Qxb6615722aDoor
