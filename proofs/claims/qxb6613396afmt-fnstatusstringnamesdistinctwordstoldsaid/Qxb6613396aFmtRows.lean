/-
  NARROWER THAN 'FOR EVERY INPUT', by the rows' own cells (each row's printed sentence says how): FnStatusStringNamesDistinctWords: laid.
  DERIVED. THE GIVEN ROWS OF THIS SEAT. 1 by the template 'for every input the law returns true; each argument reads behind the call as it read before'; 0 by the template 'total and deterministic' (their statements: Qxb6613396aFmtTotals.lean).
  GIVEN WITH THE SEED: the statements are not yours to turn. If you find one false, say at which input.
  Laid BY PROGRAM, IN A SANDBOX (cutbox-rows.mjs): the forced cells as the released guide's own fill.sh prints them over the translation 38de7e8ec763ddac… (all of the seat's roots in one cut). By AI agents, Wed Nov 11 2026. No macro, syntax, notation, axiom, sorry.
-/
import Derived.Test.Qxb6613396aFmtChecked
import GoSem.Claim
import GoSem.ClaimJoined
import GoSem.ClaimMapViews
import Derived.JoinedTies
import Derived.KernelRfl
namespace Go.Proofs.Qxb6613396aFmt
/- THE CELL 'sum', in the pinned program and in every row, IS THE sha256 OF THE DUMP (.gsa) THAT Qxb6613396aFmtProg.lean LOADS. Nothing in Lean hashes anything: it is a label: what it is worth is what the hold of that sum in a sandbox is worth. -/
noncomputable def Tryf.pinned : Pinned := { name := "qxb6613396afmt", sum := "38de7e8ec763ddac94186071950e1e243e723dbe14546f1499556cc29432d1b3", checked := Tryf.checked }
namespace Rows
def none {H : Type} : Left H := { results := [], args := [] }

/- WHAT THE LISTED PACKAGE-LEVEL VARIABLES READ AS WHEN THE CALL BEGINS. Each datum BY PROGRAM (the guide's laid-datum.mjs) off the statement by which the dump's own 'gosem.cut.vars' lays the variable. In a bare row this is a premise. The card (Qxb6613396aFmtCards.lean) ties it to the program's text. -/
def laid_example_com_holdfast_holdfast_statusNames {H : Type} : DataW H := .agg [.lit (.string [110, 111, 32, 116, 114, 97, 110, 115, 97, 99, 116, 105, 111, 110]), .lit (.string [97, 99, 116, 105, 118, 101]), .lit (.string [109, 97, 114, 107, 101, 100, 32, 114, 111, 108, 108, 98, 97, 99, 107]), .lit (.string [112, 114, 101, 112, 97, 114, 105, 110, 103]), .lit (.string [112, 114, 101, 112, 97, 114, 101, 100]), .lit (.string [99, 111, 109, 109, 105, 116, 116, 105, 110, 103]), .lit (.string [114, 111, 108, 108, 105, 110, 103, 32, 98, 97, 99, 107]), .lit (.string [99, 111, 109, 109, 105, 116, 116, 101, 100]), .lit (.string [114, 111, 108, 108, 101, 100, 32, 98, 97, 99, 107])]

/-- 'zzlaws_root_b1.FnStatusStringNamesDistinctWords': WHATEVER THE INPUT: true; the input reads as it did. -/
def fnStatusStringNamesDistinctWordsSpec : ChangeSpec := { name := "fnStatusStringNamesDistinctWords", vars := ["example.com/holdfast/holdfast.statusNames"], fn := fun _ => fun
  | [d1, d2, g1] => { results := [.lit (.bool true)], args := [d1, d2], vars := [g1] }
  | _ => none }
def fnStatusStringNamesDistinctWordsRow : OpenClaim := { program := "qxb6613396afmt", sum := "38de7e8ec763ddac94186071950e1e243e723dbe14546f1499556cc29432d1b3", func := "example.com/holdfast/holdfast/zzlaws_root_b1.FnStatusStringNamesDistinctWords", spec := "fnStatusStringNamesDistinctWords", stops := ["fmt.Sprintf"], inPlace := ["fmt.Sprintf"], named := ["example.com/holdfast/holdfast.statusNames"], apart := false, laid := [("example.com/holdfast/holdfast.statusNames", laid_example_com_holdfast_holdfast_statusNames)] }
/-- NO THEOREM (fmt's text is open here; it may be false): for the released tool's asking of the row's closed facts alone. THE STATEMENT IS 'FnStatusStringNamesDistinctWordsToldSaid' (Qxb6613396aFmtCards.lean). -/
def FnStatusStringNamesDistinctWordsFormAsk : Prop := fnStatusStringNamesDistinctWordsRow.holds Tryf.pinned (OpenSpec.ofChange fnStatusStringNamesDistinctWordsSpec)

/-- ITS FALSE NEIGHBOUR: 'it returns false'. Refute it at one input. -/
def fnStatusStringNamesDistinctWordsWrong : ChangeSpec := { name := "fnStatusStringNamesDistinctWords", vars := ["example.com/holdfast/holdfast.statusNames"], fn := fun _ => fun
  | [d1, d2, g1] => { results := [.lit (.bool false)], args := [d1, d2], vars := [g1] }
  | _ => none }
def FnStatusStringNamesDistinctWordsWrongFormAsk : Prop := fnStatusStringNamesDistinctWordsRow.holds Tryf.pinned (OpenSpec.ofChange fnStatusStringNamesDistinctWordsWrong)

end Rows
end Go.Proofs.Qxb6613396aFmt
