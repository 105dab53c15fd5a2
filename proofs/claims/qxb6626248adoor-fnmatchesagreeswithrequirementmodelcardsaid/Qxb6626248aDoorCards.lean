/-
  DERIVED. GIVEN WITH THE SEED: THE CARDS: each row of Qxb6626248aDoorRows.lean that lists a variable, with what it lists TIED to the program's text (the seventh form; the later family's looks); each row that meets fmt, with fmt's text TOLD by the authors' own Lean function (tested against real Go, not proved from fmt's source: count such statements apart). THE CARD IS WHAT COUNTS. Prove the row's statement (the work); the ties are given (Qxb6626248aDoorTie.lean); close each card by the builder's one call (the guide's Derived/Test/ToyasCard.lean, 'card_holds'). Laid BY PROGRAM, IN A SANDBOX (cutbox-door.mjs). By AI agents, Wed Nov 11 2026. No macro, syntax, notation, axiom, sorry.
-/
import Derived.Test.Qxb6626248aDoorRows
import GoSem.ClaimSeven
namespace Go.Proofs.Qxb6626248aDoor
namespace Rows

/-- THE TIED CARD OF 'zzlaws_internal_objects_b1.FnMatchesAgreesWithRequirementModel'. -/
def fnMatchesAgreesWithRequirementModelCard : Claim7 := { stood := { row := fnMatchesAgreesWithRequirementModelRow, standIns := [], harness := (true, "bf1566d285a4a108898ca3ac948c8b41e0d499ccbf5876fdb2811199605a50e6"), looks := true }, kinds := [], alts := [], laidByText := true, laidKinds := [.data, .data, .data, .sentinel, .sentinel], laidTests := true, laidLooks := .later }
def FnMatchesAgreesWithRequirementModelCardSaid : Prop := Claim7.holds Tryd.pinned (.plain (OpenSpec.ofChange fnMatchesAgreesWithRequirementModelSpec)) fnMatchesAgreesWithRequirementModelCard

/-- THE TIED CARD OF 'zzlaws_internal_objects_b1.FnMatchesIgnoresUnnamedLabels'. -/
def fnMatchesIgnoresUnnamedLabelsCard : Claim7 := { stood := { row := fnMatchesIgnoresUnnamedLabelsRow, standIns := [], harness := (true, "bf1566d285a4a108898ca3ac948c8b41e0d499ccbf5876fdb2811199605a50e6"), looks := true }, kinds := [], alts := [], laidByText := true, laidKinds := [.data, .data, .data, .sentinel, .sentinel], laidTests := true, laidLooks := .later }
def FnMatchesIgnoresUnnamedLabelsCardSaid : Prop := Claim7.holds Tryd.pinned (.plain (OpenSpec.ofChange fnMatchesIgnoresUnnamedLabelsSpec)) fnMatchesIgnoresUnnamedLabelsCard
end Rows
end Go.Proofs.Qxb6626248aDoor
