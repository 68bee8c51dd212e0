/-
  DERIVED. GIVEN WITH THE SEED: THE CARDS: each row of Qxb6613396aFmtRows.lean that lists a variable, with what it lists TIED to the program's text (the seventh form; the later family's looks); each row that meets fmt, with fmt's text TOLD by the authors' own Lean function (tested against real Go, not proved from fmt's source: count such statements apart). THE CARD IS WHAT COUNTS. Prove the row's statement (the work); the ties are given (Qxb6613396aFmtTie.lean); close each card by the builder's one call (the guide's Derived/Test/ToyasCard.lean, 'card_holds'). Laid BY PROGRAM, IN A SANDBOX (cutbox-door.mjs). By AI agents, Wed Nov 11 2026. No macro, syntax, notation, axiom, sorry.
-/
import Derived.Test.Qxb6613396aFmtRows
import GoSem.ClaimSeven
namespace Go.Proofs.Qxb6613396aFmt
namespace Rows

/-- THE TOLD AND TIED CARD OF 'zzlaws_root_b1.FnStatusStringNamesDistinctWords'. -/
def fnStatusStringNamesDistinctWordsCard : Claim7 := { stood := { row := fnStatusStringNamesDistinctWordsRow, standIns := [], harness := (true, "8f9d9dacaecb30d6d31aa0567cbac51306944ce058ad295c38c6a11fb0902424"), looks := false }, told := true, laidByText := true, laidKinds := [.widerDeep], laidTests := true, laidLooks := .later, goes := false }
def FnStatusStringNamesDistinctWordsToldSaid : Prop := Claim7.holds Tryf.pinned (.plain (OpenSpec.ofChange fnStatusStringNamesDistinctWordsSpec)) fnStatusStringNamesDistinctWordsCard
/-- ITS FALSE NEIGHBOUR. Refute it at one input. -/
def FnStatusStringNamesDistinctWordsToldWrongFalsely : Prop := Claim7.holds Tryf.pinned (.plain (OpenSpec.ofChange fnStatusStringNamesDistinctWordsWrong)) fnStatusStringNamesDistinctWordsCard
end Rows
end Go.Proofs.Qxb6613396aFmt
