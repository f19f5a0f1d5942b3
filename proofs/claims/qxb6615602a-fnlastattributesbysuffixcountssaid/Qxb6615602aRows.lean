/-
  No cell of these rows narrows 'for every input' (looked for: loops, veiled, ifaces, maps, wideKeys, modest, calm, conditions, laid).
  DERIVED. THE GIVEN ROWS OF THIS SEAT. 4 by the template 'for every input the law returns true; each argument reads behind the call as it read before'; 0 by the template 'total and deterministic' (their statements: Qxb6615602aTotals.lean).
  GIVEN WITH THE SEED: the statements are not yours to turn. If you find one false, say at which input.
  Laid BY PROGRAM, IN A SANDBOX (cutbox-rows.mjs): the forced cells as the released guide's own fill.sh prints them over the translation 9871106f0a050b95… (all of the seat's roots in one cut). By AI agents, Wed Nov 11 2026. No macro, syntax, notation, axiom, sorry.
-/
import Derived.Test.Qxb6615602aChecked
import GoSem.Claim
import GoSem.ClaimJoined
import GoSem.ClaimMapViews
import Derived.JoinedTies
import Derived.KernelRfl
namespace Go.Proofs.Qxb6615602a
/- THE CELL 'sum', in the pinned program and in every row, IS THE sha256 OF THE DUMP (.gsa) THAT Qxb6615602aProg.lean LOADS. Nothing in Lean hashes anything: it is a label: what it is worth is what the hold of that sum in a sandbox is worth. -/
noncomputable def Try.pinned : Pinned := { name := "qxb6615602a", sum := "9871106f0a050b9563018205dc00aab349633ef4a618ffd7710a6b7a2b93d967", checked := Try.checked }
namespace Rows
def none {H : Type} : Left H := { results := [], args := [] }

/-- 'zzlaws_root_b1.FnSpendScriptCountsDown': WHATEVER THE INPUT: true; the input reads as it did. -/
def fnSpendScriptCountsDownSpec : ChangeSpec := { name := "fnSpendScriptCountsDown", fn := fun _ => fun
  | [d1, d2] => { results := [.lit (.bool true)], args := [d1, d2] }
  | _ => none }
def fnSpendScriptCountsDownRow : OpenClaim := { program := "qxb6615602a", sum := "9871106f0a050b9563018205dc00aab349633ef4a618ffd7710a6b7a2b93d967", func := "example.com/tallyseal/tallyseal/zzlaws_root_b1.FnSpendScriptCountsDown", spec := "fnSpendScriptCountsDown", apart := false }
def FnSpendScriptCountsDownSaid : Prop := fnSpendScriptCountsDownRow.holds Try.pinned (OpenSpec.ofChange fnSpendScriptCountsDownSpec)

/-- ITS FALSE NEIGHBOUR: 'it returns false'. Refute it at one input. -/
def fnSpendScriptCountsDownWrong : ChangeSpec := { name := "fnSpendScriptCountsDown", fn := fun _ => fun
  | [d1, d2] => { results := [.lit (.bool false)], args := [d1, d2] }
  | _ => none }
def FnSpendScriptCountsDownWrongFalsely : Prop := fnSpendScriptCountsDownRow.holds Try.pinned (OpenSpec.ofChange fnSpendScriptCountsDownWrong)

/-- 'zzlaws_root_b1.FnSpendOneByOneIsTakeAtOnce': WHATEVER THE INPUT: true; the input reads as it did. -/
def fnSpendOneByOneIsTakeAtOnceSpec : ChangeSpec := { name := "fnSpendOneByOneIsTakeAtOnce", fn := fun _ => fun
  | [d1, d2] => { results := [.lit (.bool true)], args := [d1, d2] }
  | _ => none }
def fnSpendOneByOneIsTakeAtOnceRow : OpenClaim := { program := "qxb6615602a", sum := "9871106f0a050b9563018205dc00aab349633ef4a618ffd7710a6b7a2b93d967", func := "example.com/tallyseal/tallyseal/zzlaws_root_b1.FnSpendOneByOneIsTakeAtOnce", spec := "fnSpendOneByOneIsTakeAtOnce", apart := false }
def FnSpendOneByOneIsTakeAtOnceSaid : Prop := fnSpendOneByOneIsTakeAtOnceRow.holds Try.pinned (OpenSpec.ofChange fnSpendOneByOneIsTakeAtOnceSpec)

/-- ITS FALSE NEIGHBOUR: 'it returns false'. Refute it at one input. -/
def fnSpendOneByOneIsTakeAtOnceWrong : ChangeSpec := { name := "fnSpendOneByOneIsTakeAtOnce", fn := fun _ => fun
  | [d1, d2] => { results := [.lit (.bool false)], args := [d1, d2] }
  | _ => none }
def FnSpendOneByOneIsTakeAtOnceWrongFalsely : Prop := fnSpendOneByOneIsTakeAtOnceRow.holds Try.pinned (OpenSpec.ofChange fnSpendOneByOneIsTakeAtOnceWrong)

/-- 'zzlaws_root_b1.FnLastAttributesBySuffixCounts': WHATEVER THE INPUT: true; the input reads as it did. -/
def fnLastAttributesBySuffixCountsSpec : ChangeSpec := { name := "fnLastAttributesBySuffixCounts", fn := fun _ => fun
  | [d] => { results := [.lit (.bool true)], args := [d] }
  | _ => none }
def fnLastAttributesBySuffixCountsRow : OpenClaim := { program := "qxb6615602a", sum := "9871106f0a050b9563018205dc00aab349633ef4a618ffd7710a6b7a2b93d967", func := "example.com/tallyseal/tallyseal/zzlaws_root_b1.FnLastAttributesBySuffixCounts", spec := "fnLastAttributesBySuffixCounts", apart := false }
def FnLastAttributesBySuffixCountsSaid : Prop := fnLastAttributesBySuffixCountsRow.holds Try.pinned (OpenSpec.ofChange fnLastAttributesBySuffixCountsSpec)

/-- ITS FALSE NEIGHBOUR: 'it returns false'. Refute it at one input. -/
def fnLastAttributesBySuffixCountsWrong : ChangeSpec := { name := "fnLastAttributesBySuffixCounts", fn := fun _ => fun
  | [d] => { results := [.lit (.bool false)], args := [d] }
  | _ => none }
def FnLastAttributesBySuffixCountsWrongFalsely : Prop := fnLastAttributesBySuffixCountsRow.holds Try.pinned (OpenSpec.ofChange fnLastAttributesBySuffixCountsWrong)

/-- 'zzlaws_root_b1.FnLastAttributesIdempotentAndCounted': WHATEVER THE INPUT: true; the input reads as it did. -/
def fnLastAttributesIdempotentAndCountedSpec : ChangeSpec := { name := "fnLastAttributesIdempotentAndCounted", fn := fun _ => fun
  | [d] => { results := [.lit (.bool true)], args := [d] }
  | _ => none }
def fnLastAttributesIdempotentAndCountedRow : OpenClaim := { program := "qxb6615602a", sum := "9871106f0a050b9563018205dc00aab349633ef4a618ffd7710a6b7a2b93d967", func := "example.com/tallyseal/tallyseal/zzlaws_root_b1.FnLastAttributesIdempotentAndCounted", spec := "fnLastAttributesIdempotentAndCounted", apart := false }
def FnLastAttributesIdempotentAndCountedSaid : Prop := fnLastAttributesIdempotentAndCountedRow.holds Try.pinned (OpenSpec.ofChange fnLastAttributesIdempotentAndCountedSpec)

/-- ITS FALSE NEIGHBOUR: 'it returns false'. Refute it at one input. -/
def fnLastAttributesIdempotentAndCountedWrong : ChangeSpec := { name := "fnLastAttributesIdempotentAndCounted", fn := fun _ => fun
  | [d] => { results := [.lit (.bool false)], args := [d] }
  | _ => none }
def FnLastAttributesIdempotentAndCountedWrongFalsely : Prop := fnLastAttributesIdempotentAndCountedRow.holds Try.pinned (OpenSpec.ofChange fnLastAttributesIdempotentAndCountedWrong)

end Rows
end Go.Proofs.Qxb6615602a
