/-
  No cell of these rows narrows 'for every input' (looked for: loops, veiled, ifaces, maps, wideKeys, modest, calm, conditions, laid).
  DERIVED. THE GIVEN ROWS OF THIS SEAT. 4 by the template 'for every input the law returns true; each argument reads behind the call as it read before'; 0 by the template 'total and deterministic' (their statements: YbulknekTotals.lean).
  GIVEN WITH THE SEED: the statements are not yours to turn. If you find one false, say at which input.
  Laid BY PROGRAM, IN A SANDBOX (cutbox-rows.mjs): the forced cells as the released guide's own fill.sh prints them over the translation cd1561b1807aa0cb… (all of the seat's roots in one cut). By AI agents, Wed Nov 11 2026. No macro, syntax, notation, axiom, sorry.
-/
import Derived.Test.YbulknekChecked
import GoSem.Claim
import GoSem.ClaimJoined
import GoSem.ClaimMapViews
import Derived.JoinedTies
import Derived.KernelRfl
namespace Go.Proofs.Ybulknek
/- THE CELL 'sum', in the pinned program and in every row, IS THE sha256 OF THE DUMP (.gsa) THAT YbulknekProg.lean LOADS. Nothing in Lean hashes anything: it is a label: what it is worth is what the hold of that sum in a sandbox is worth. -/
noncomputable def Yba.pinned : Pinned := { name := "ybulknek", sum := "cd1561b1807aa0cb7b4b5af983209bdf36e454f3507c004c2e90d1d3caa16a40", checked := Yba.checked }
namespace Rows
def none {H : Type} : Left H := { results := [], args := [] }

/-- 'solve.LawS0686AStableSort': WHATEVER THE INPUT: true; the input reads as it did. -/
def lawS0686AStableSortSpec : ChangeSpec := { name := "lawS0686AStableSort", fn := fun _ => fun
  | [d] => { results := [.lit (.bool true)], args := [d] }
  | _ => none }
def lawS0686AStableSortRow : OpenClaim := { program := "ybulknek", sum := "cd1561b1807aa0cb7b4b5af983209bdf36e454f3507c004c2e90d1d3caa16a40", func := "example.com/tardigrade-sequencer/tardigrade-sequencer/pkg/solve.LawS0686AStableSort", spec := "lawS0686AStableSort", apart := false }
def LawS0686AStableSortSaid : Prop := lawS0686AStableSortRow.holds Yba.pinned (OpenSpec.ofChange lawS0686AStableSortSpec)

/-- ITS FALSE NEIGHBOUR: 'it returns false'. Refute it at one input. -/
def lawS0686AStableSortWrong : ChangeSpec := { name := "lawS0686AStableSort", fn := fun _ => fun
  | [d] => { results := [.lit (.bool false)], args := [d] }
  | _ => none }
def LawS0686AStableSortWrongFalsely : Prop := lawS0686AStableSortRow.holds Yba.pinned (OpenSpec.ofChange lawS0686AStableSortWrong)

/-- 'solve.LawS0686ASpreadBytes': WHATEVER THE INPUT: true; the input reads as it did. -/
def lawS0686ASpreadBytesSpec : ChangeSpec := { name := "lawS0686ASpreadBytes", fn := fun _ => fun
  | [d1, d2, d3] => { results := [.lit (.bool true)], args := [d1, d2, d3] }
  | _ => none }
def lawS0686ASpreadBytesRow : OpenClaim := { program := "ybulknek", sum := "cd1561b1807aa0cb7b4b5af983209bdf36e454f3507c004c2e90d1d3caa16a40", func := "example.com/tardigrade-sequencer/tardigrade-sequencer/pkg/solve.LawS0686ASpreadBytes", spec := "lawS0686ASpreadBytes", apart := false }
def LawS0686ASpreadBytesSaid : Prop := lawS0686ASpreadBytesRow.holds Yba.pinned (OpenSpec.ofChange lawS0686ASpreadBytesSpec)

/-- ITS FALSE NEIGHBOUR: 'it returns false'. Refute it at one input. -/
def lawS0686ASpreadBytesWrong : ChangeSpec := { name := "lawS0686ASpreadBytes", fn := fun _ => fun
  | [d1, d2, d3] => { results := [.lit (.bool false)], args := [d1, d2, d3] }
  | _ => none }
def LawS0686ASpreadBytesWrongFalsely : Prop := lawS0686ASpreadBytesRow.holds Yba.pinned (OpenSpec.ofChange lawS0686ASpreadBytesWrong)

/-- 'instance.LawS0686CRange': WHATEVER THE INPUT: true; the input reads as it did. -/
def lawS0686CRangeSpec : ChangeSpec := { name := "lawS0686CRange", fn := fun _ => fun
  | [d1, d2, d3] => { results := [.lit (.bool true)], args := [d1, d2, d3] }
  | _ => none }
def lawS0686CRangeRow : OpenClaim := { program := "ybulknek", sum := "cd1561b1807aa0cb7b4b5af983209bdf36e454f3507c004c2e90d1d3caa16a40", func := "example.com/tardigrade-sequencer/tardigrade-sequencer/pkg/instance.LawS0686CRange", spec := "lawS0686CRange", apart := false }
def LawS0686CRangeSaid : Prop := lawS0686CRangeRow.holds Yba.pinned (OpenSpec.ofChange lawS0686CRangeSpec)

/-- ITS FALSE NEIGHBOUR: 'it returns false'. Refute it at one input. -/
def lawS0686CRangeWrong : ChangeSpec := { name := "lawS0686CRange", fn := fun _ => fun
  | [d1, d2, d3] => { results := [.lit (.bool false)], args := [d1, d2, d3] }
  | _ => none }
def LawS0686CRangeWrongFalsely : Prop := lawS0686CRangeRow.holds Yba.pinned (OpenSpec.ofChange lawS0686CRangeWrong)

/-- 'instance.LawS0686CNil': WHATEVER THE INPUT: true; the input reads as it did. -/
def lawS0686CNilSpec : ChangeSpec := { name := "lawS0686CNil", fn := fun _ => fun
  | [d] => { results := [.lit (.bool true)], args := [d] }
  | _ => none }
def lawS0686CNilRow : OpenClaim := { program := "ybulknek", sum := "cd1561b1807aa0cb7b4b5af983209bdf36e454f3507c004c2e90d1d3caa16a40", func := "example.com/tardigrade-sequencer/tardigrade-sequencer/pkg/instance.LawS0686CNil", spec := "lawS0686CNil", apart := false }
def LawS0686CNilSaid : Prop := lawS0686CNilRow.holds Yba.pinned (OpenSpec.ofChange lawS0686CNilSpec)

/-- ITS FALSE NEIGHBOUR: 'it returns false'. Refute it at one input. -/
def lawS0686CNilWrong : ChangeSpec := { name := "lawS0686CNil", fn := fun _ => fun
  | [d] => { results := [.lit (.bool false)], args := [d] }
  | _ => none }
def LawS0686CNilWrongFalsely : Prop := lawS0686CNilRow.holds Yba.pinned (OpenSpec.ofChange lawS0686CNilWrong)

end Rows
end Go.Proofs.Ybulknek
