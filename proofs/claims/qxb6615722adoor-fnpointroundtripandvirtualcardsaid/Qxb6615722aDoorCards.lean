/-
  DERIVED. GIVEN WITH THE SEED: THE CARDS: each row of Qxb6615722aDoorRows.lean that lists a variable, with what it lists TIED to the program's text (the seventh form; the later family's looks); each row that meets fmt, with fmt's text TOLD by the authors' own Lean function (tested against real Go, not proved from fmt's source: count such statements apart). THE CARD IS WHAT COUNTS. Prove the row's statement (the work); the ties are given (Qxb6615722aDoorTie.lean); close each card by the builder's one call (the guide's Derived/Test/ToyasCard.lean, 'card_holds'). Laid BY PROGRAM, IN A SANDBOX (cutbox-door.mjs). By AI agents, Wed Nov 11 2026. No macro, syntax, notation, axiom, sorry.
-/
import Derived.Test.Qxb6615722aDoorRows
import GoSem.ClaimSeven
namespace Go.Proofs.Qxb6615722aDoor
namespace Rows

/-- THE TIED CARD OF 'zzlaws_pool_b1.FnPointRoundTripAndVirtual'. -/
def fnPointRoundTripAndVirtualCard : Claim7 := { stood := { row := fnPointRoundTripAndVirtualRow, standIns := [], harness := (true, "0787c766546664b28c78143bb11f3017c90dc0e477167d32615ad11ca2c8aeb1"), looks := false }, kinds := [], alts := [], laidByText := true, laidKinds := [.data], laidTests := true, laidLooks := .later }
def FnPointRoundTripAndVirtualCardSaid : Prop := Claim7.holds Tryd.pinned (.plain (OpenSpec.ofChange fnPointRoundTripAndVirtualSpec)) fnPointRoundTripAndVirtualCard

/-- THE TIED CARD OF 'zzlaws_pool_b1.FnPointMonotoneAndSaturates'. -/
def fnPointMonotoneAndSaturatesCard : Claim7 := { stood := { row := fnPointMonotoneAndSaturatesRow, standIns := [], harness := (true, "0787c766546664b28c78143bb11f3017c90dc0e477167d32615ad11ca2c8aeb1"), looks := false }, kinds := [], alts := [], laidByText := true, laidKinds := [.data], laidTests := true, laidLooks := .later }
def FnPointMonotoneAndSaturatesCardSaid : Prop := Claim7.holds Tryd.pinned (.plain (OpenSpec.ofChange fnPointMonotoneAndSaturatesSpec)) fnPointMonotoneAndSaturatesCard
end Rows
end Go.Proofs.Qxb6615722aDoor
