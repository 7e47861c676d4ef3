/-
  DERIVED. GIVEN WITH THE SEED: THE CARDS: each row of YbulknaqFmtRows.lean that lists a variable, with what it lists TIED to the program's text (the seventh form; the later family's looks); each row that meets fmt, with fmt's text TOLD by the authors' own Lean function (tested against real Go, not proved from fmt's source: count such statements apart). THE CARD IS WHAT COUNTS. Prove the row's statement (the work); the ties are given (YbulknaqFmtTie.lean); close each card by the builder's one call (the guide's Derived/Test/ToyasCard.lean, 'card_holds'). Laid BY PROGRAM, IN A SANDBOX (cutbox-door.mjs). By AI agents, Wed Nov 11 2026. No macro, syntax, notation, axiom, sorry.
-/
import Derived.Test.YbulknaqFmtRows
import GoSem.ClaimSeven
namespace Go.Proofs.YbulknaqFmt
namespace Rows

/-- THE TOLD AND TIED CARD OF 'lamina.LawS0679CExact'. -/
def lawS0679CExactCard : Claim7 := { stood := { row := lawS0679CExactRow, standIns := [], harness := (true, "7e75c58527c591191b5857920961be03409a4123862118e7ae09060cd0f0f8d5"), looks := true }, told := true, laidByText := true, laidKinds := [.data], laidTests := true, laidLooks := .later, goes := false }
def LawS0679CExactToldSaid : Prop := Claim7.holds Ybaf.pinned (.plain (OpenSpec.ofChange lawS0679CExactSpec)) lawS0679CExactCard
/-- ITS FALSE NEIGHBOUR. Refute it at one input. -/
def LawS0679CExactToldWrongFalsely : Prop := Claim7.holds Ybaf.pinned (.plain (OpenSpec.ofChange lawS0679CExactWrong)) lawS0679CExactCard
end Rows
end Go.Proofs.YbulknaqFmt
