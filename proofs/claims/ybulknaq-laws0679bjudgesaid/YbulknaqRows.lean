/-
  No cell of these rows narrows 'for every input' (looked for: loops, veiled, ifaces, maps, wideKeys, modest, calm, conditions, laid).
  DERIVED. THE GIVEN ROWS OF THIS SEAT. 2 by the template 'for every input the law returns true; each argument reads behind the call as it read before'; 0 by the template 'total and deterministic' (their statements: YbulknaqTotals.lean).
  GIVEN WITH THE SEED: the statements are not yours to turn. If you find one false, say at which input.
  Laid BY PROGRAM, IN A SANDBOX (cutbox-rows.mjs): the forced cells as the released guide's own fill.sh prints them over the translation 585d10cffb5d062c… (all of the seat's roots in one cut). By AI agents, Wed Nov 11 2026. No macro, syntax, notation, axiom, sorry.
-/
import Derived.Test.YbulknaqChecked
import GoSem.Claim
import GoSem.ClaimJoined
import GoSem.ClaimMapViews
import Derived.JoinedTies
import Derived.KernelRfl
namespace Go.Proofs.Ybulknaq
/- THE CELL 'sum', in the pinned program and in every row, IS THE sha256 OF THE DUMP (.gsa) THAT YbulknaqProg.lean LOADS. Nothing in Lean hashes anything: it is a label: what it is worth is what the hold of that sum in a sandbox is worth. -/
noncomputable def Yba.pinned : Pinned := { name := "ybulknaq", sum := "585d10cffb5d062c6523d6f54adbe6d488acc9e9a19438c34c1d29a9cebe4f97", checked := Yba.checked }
namespace Rows
def none {H : Type} : Left H := { results := [], args := [] }

/-- 'lamina.LawS0679BJudge': WHATEVER THE INPUT: true; the input reads as it did. -/
def lawS0679BJudgeSpec : ChangeSpec := { name := "lawS0679BJudge", fn := fun _ => fun
  | [d1, d2, d3, d4] => { results := [.lit (.bool true)], args := [d1, d2, d3, d4] }
  | _ => none }
def lawS0679BJudgeRow : OpenClaim := { program := "ybulknaq", sum := "585d10cffb5d062c6523d6f54adbe6d488acc9e9a19438c34c1d29a9cebe4f97", func := "example.com/lamina/lamina.LawS0679BJudge", spec := "lawS0679BJudge", apart := false }
def LawS0679BJudgeSaid : Prop := lawS0679BJudgeRow.holds Yba.pinned (OpenSpec.ofChange lawS0679BJudgeSpec)

/-- ITS FALSE NEIGHBOUR: 'it returns false'. Refute it at one input. -/
def lawS0679BJudgeWrong : ChangeSpec := { name := "lawS0679BJudge", fn := fun _ => fun
  | [d1, d2, d3, d4] => { results := [.lit (.bool false)], args := [d1, d2, d3, d4] }
  | _ => none }
def LawS0679BJudgeWrongFalsely : Prop := lawS0679BJudgeRow.holds Yba.pinned (OpenSpec.ofChange lawS0679BJudgeWrong)

/-- 'lamina.LawS0679BKeepFirst': WHATEVER THE INPUT: true; the input reads as it did. -/
def lawS0679BKeepFirstSpec : ChangeSpec := { name := "lawS0679BKeepFirst", fn := fun _ => fun
  | [d1, d2, d3, d4, d5] => { results := [.lit (.bool true)], args := [d1, d2, d3, d4, d5] }
  | _ => none }
def lawS0679BKeepFirstRow : OpenClaim := { program := "ybulknaq", sum := "585d10cffb5d062c6523d6f54adbe6d488acc9e9a19438c34c1d29a9cebe4f97", func := "example.com/lamina/lamina.LawS0679BKeepFirst", spec := "lawS0679BKeepFirst", apart := false }
def LawS0679BKeepFirstSaid : Prop := lawS0679BKeepFirstRow.holds Yba.pinned (OpenSpec.ofChange lawS0679BKeepFirstSpec)

/-- ITS FALSE NEIGHBOUR: 'it returns false'. Refute it at one input. -/
def lawS0679BKeepFirstWrong : ChangeSpec := { name := "lawS0679BKeepFirst", fn := fun _ => fun
  | [d1, d2, d3, d4, d5] => { results := [.lit (.bool false)], args := [d1, d2, d3, d4, d5] }
  | _ => none }
def LawS0679BKeepFirstWrongFalsely : Prop := lawS0679BKeepFirstRow.holds Yba.pinned (OpenSpec.ofChange lawS0679BKeepFirstWrong)

end Rows
end Go.Proofs.Ybulknaq
