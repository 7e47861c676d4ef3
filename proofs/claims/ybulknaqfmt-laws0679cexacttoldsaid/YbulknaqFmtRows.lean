/-
  NARROWER THAN 'FOR EVERY INPUT', by the rows' own cells (each row's printed sentence says how): LawS0679CExact: laid.
  DERIVED. THE GIVEN ROWS OF THIS SEAT. 1 by the template 'for every input the law returns true; each argument reads behind the call as it read before'; 0 by the template 'total and deterministic' (their statements: YbulknaqFmtTotals.lean).
  GIVEN WITH THE SEED: the statements are not yours to turn. If you find one false, say at which input.
  Laid BY PROGRAM, IN A SANDBOX (cutbox-rows.mjs): the forced cells as the released guide's own fill.sh prints them over the translation ada7f7b43c79acae… (all of the seat's roots in one cut). By AI agents, Wed Nov 11 2026. No macro, syntax, notation, axiom, sorry.
-/
import Derived.Test.YbulknaqFmtChecked
import GoSem.Claim
import GoSem.ClaimJoined
import GoSem.ClaimMapViews
import Derived.JoinedTies
import Derived.KernelRfl
namespace Go.Proofs.YbulknaqFmt
/- THE CELL 'sum', in the pinned program and in every row, IS THE sha256 OF THE DUMP (.gsa) THAT YbulknaqFmtProg.lean LOADS. Nothing in Lean hashes anything: it is a label: what it is worth is what the hold of that sum in a sandbox is worth. -/
noncomputable def Ybaf.pinned : Pinned := { name := "ybulknaqfmt", sum := "ada7f7b43c79acae66b09a2d0e546e878d9c72926a3dbe40614c69238f23e80a", checked := Ybaf.checked }
namespace Rows
def none {H : Type} : Left H := { results := [], args := [] }

/- WHAT THE LISTED PACKAGE-LEVEL VARIABLES READ AS WHEN THE CALL BEGINS. Each datum BY PROGRAM (the guide's laid-datum.mjs) off the statement by which the dump's own 'gosem.cut.vars' lays the variable. In a bare row this is a premise. The card (YbulknaqFmtCards.lean) ties it to the program's text. -/
def laid_example_com_lamina_lamina_spaceNames {H : Type} : DataW H := .agg [.lit (.string [116, 121, 112, 101]), .lit (.string [102, 117, 110, 99, 116, 105, 111, 110]), .lit (.string [116, 97, 98, 108, 101]), .lit (.string [109, 101, 109, 111, 114, 121]), .lit (.string [103, 108, 111, 98, 97, 108]), .lit (.string [101, 108, 101, 109, 32, 115, 101, 103, 109, 101, 110, 116]), .lit (.string [100, 97, 116, 97, 32, 115, 101, 103, 109, 101, 110, 116]), .lit (.string [108, 111, 99, 97, 108]), .lit (.string [108, 97, 98, 101, 108])]

/-- 'lamina.LawS0679CExact': WHATEVER THE INPUT: true; the input reads as it did. -/
def lawS0679CExactSpec : ChangeSpec := { name := "lawS0679CExact", vars := ["example.com/lamina/lamina.spaceNames"], fn := fun _ => fun
  | [d1, d2, d3, d4, d5, g1] => { results := [.lit (.bool true)], args := [d1, d2, d3, d4, d5], vars := [g1] }
  | _ => none }
def lawS0679CExactRow : OpenClaim := { program := "ybulknaqfmt", sum := "ada7f7b43c79acae66b09a2d0e546e878d9c72926a3dbe40614c69238f23e80a", func := "example.com/lamina/lamina.LawS0679CExact", spec := "lawS0679CExact", stops := ["fmt.Sprintf"], inPlace := ["fmt.Sprintf"], named := ["example.com/lamina/lamina.spaceNames"], apart := false, laid := [("example.com/lamina/lamina.spaceNames", laid_example_com_lamina_lamina_spaceNames)] }
/-- NO THEOREM (fmt's text is open here; it may be false): for the released tool's asking of the row's closed facts alone. THE STATEMENT IS 'LawS0679CExactToldSaid' (YbulknaqFmtCards.lean). -/
def LawS0679CExactFormAsk : Prop := lawS0679CExactRow.holds Ybaf.pinned (OpenSpec.ofChange lawS0679CExactSpec)

/-- ITS FALSE NEIGHBOUR: 'it returns false'. Refute it at one input. -/
def lawS0679CExactWrong : ChangeSpec := { name := "lawS0679CExact", vars := ["example.com/lamina/lamina.spaceNames"], fn := fun _ => fun
  | [d1, d2, d3, d4, d5, g1] => { results := [.lit (.bool false)], args := [d1, d2, d3, d4, d5], vars := [g1] }
  | _ => none }
def LawS0679CExactWrongFormAsk : Prop := lawS0679CExactRow.holds Ybaf.pinned (OpenSpec.ofChange lawS0679CExactWrong)

end Rows
end Go.Proofs.YbulknaqFmt
