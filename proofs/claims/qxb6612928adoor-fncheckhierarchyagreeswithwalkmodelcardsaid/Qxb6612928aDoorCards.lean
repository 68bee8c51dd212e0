/-
  DERIVED. GIVEN WITH THE SEED: THE CARDS: each row of Qxb6612928aDoorRows.lean that lists a variable, with what it lists TIED to the program's text (the seventh form; the later family's looks); each row that meets fmt, with fmt's text TOLD by the authors' own Lean function (tested against real Go, not proved from fmt's source: count such statements apart). THE CARD IS WHAT COUNTS. Prove the row's statement (the work); the ties are given (Qxb6612928aDoorTie.lean); close each card by the builder's one call (the guide's Derived/Test/ToyasCard.lean, 'card_holds'). Laid BY PROGRAM, IN A SANDBOX (cutbox-door.mjs). By AI agents, Wed Nov 11 2026. No macro, syntax, notation, axiom, sorry.
-/
import Derived.Test.Qxb6612928aDoorRows
import GoSem.ClaimSeven
namespace Go.Proofs.Qxb6612928aDoor
namespace Rows

/-- THE TIED CARD OF 'zzlaws_internal_unit_b1.FnCheckHierarchyAgreesWithWalkModel'. -/
def fnCheckHierarchyAgreesWithWalkModelCard : Claim7 := { stood := { row := fnCheckHierarchyAgreesWithWalkModelRow, standIns := [], harness := (true, "429ef2e3bd69ceac0e30963d4187feeb4ac392dc7474b93b0d952406f52e38a1"), looks := false }, kinds := [], alts := [], laidByText := true, laidKinds := [.data, .data, .data], laidTests := true, laidLooks := .later }
def FnCheckHierarchyAgreesWithWalkModelCardSaid : Prop := Claim7.holds Tryd.pinned (.plain (OpenSpec.ofChange fnCheckHierarchyAgreesWithWalkModelSpec)) fnCheckHierarchyAgreesWithWalkModelCard
end Rows
end Go.Proofs.Qxb6612928aDoor
