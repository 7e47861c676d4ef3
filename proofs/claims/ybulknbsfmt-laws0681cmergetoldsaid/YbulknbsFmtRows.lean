/-
  NARROWER THAN 'FOR EVERY INPUT', by the rows' own cells (each row's printed sentence says how): LawS0681ASimple: laid · LawS0681AASPath: laid · LawS0681BModel: maps, laid · LawS0681BFramed: maps, laid.
  DERIVED. THE GIVEN ROWS OF THIS SEAT. 5 by the template 'for every input the law returns true; each argument reads behind the call as it read before'; 0 by the template 'total and deterministic' (their statements: YbulknbsFmtTotals.lean).
  GIVEN WITH THE SEED: the statements are not yours to turn. If you find one false, say at which input.
  Laid BY PROGRAM, IN A SANDBOX (cutbox-rows.mjs): the forced cells as the released guide's own fill.sh prints them over the translation e2360d3a0539a9ea… (all of the seat's roots in one cut). By AI agents, Wed Nov 11 2026. No macro, syntax, notation, axiom, sorry.
-/
import Derived.Test.YbulknbsFmtChecked
import GoSem.Claim
import GoSem.ClaimJoined
import GoSem.ClaimMapViews
import Derived.JoinedTies
import Derived.KernelRfl
namespace Go.Proofs.YbulknbsFmt
/- THE CELL 'sum', in the pinned program and in every row, IS THE sha256 OF THE DUMP (.gsa) THAT YbulknbsFmtProg.lean LOADS. Nothing in Lean hashes anything: it is a label: what it is worth is what the hold of that sum in a sandbox is worth. -/
noncomputable def Ybaf.pinned : Pinned := { name := "ybulknbsfmt", sum := "e2360d3a0539a9ea26ed7a3b814db3993a6593295c63612e49870c5909c9c487", checked := Ybaf.checked }
namespace Rows
def none {H : Type} : Left H := { results := [], args := [] }

/- WHAT THE LISTED PACKAGE-LEVEL VARIABLES READ AS WHEN THE CALL BEGINS. Each datum BY PROGRAM (the guide's laid-datum.mjs) off the statement by which the dump's own 'gosem.cut.vars' lays the variable. In a bare row this is a premise. The card (YbulknbsFmtCards.lean) ties it to the program's text. -/
def laid_math_bits_deBruijn32tab {H : Type} : DataW H := .agg [.lit (.int .u8 0), .lit (.int .u8 1), .lit (.int .u8 28), .lit (.int .u8 2), .lit (.int .u8 29), .lit (.int .u8 14), .lit (.int .u8 24), .lit (.int .u8 3), .lit (.int .u8 30), .lit (.int .u8 22), .lit (.int .u8 20), .lit (.int .u8 15), .lit (.int .u8 25), .lit (.int .u8 17), .lit (.int .u8 4), .lit (.int .u8 8), .lit (.int .u8 31), .lit (.int .u8 27), .lit (.int .u8 13), .lit (.int .u8 23), .lit (.int .u8 21), .lit (.int .u8 19), .lit (.int .u8 16), .lit (.int .u8 7), .lit (.int .u8 26), .lit (.int .u8 12), .lit (.int .u8 18), .lit (.int .u8 6), .lit (.int .u8 11), .lit (.int .u8 5), .lit (.int .u8 10), .lit (.int .u8 9)]
def laid_math_bits_deBruijn64tab {H : Type} : DataW H := .agg [.lit (.int .u8 0), .lit (.int .u8 1), .lit (.int .u8 56), .lit (.int .u8 2), .lit (.int .u8 57), .lit (.int .u8 49), .lit (.int .u8 28), .lit (.int .u8 3), .lit (.int .u8 61), .lit (.int .u8 58), .lit (.int .u8 42), .lit (.int .u8 50), .lit (.int .u8 38), .lit (.int .u8 29), .lit (.int .u8 17), .lit (.int .u8 4), .lit (.int .u8 62), .lit (.int .u8 47), .lit (.int .u8 59), .lit (.int .u8 36), .lit (.int .u8 45), .lit (.int .u8 43), .lit (.int .u8 51), .lit (.int .u8 22), .lit (.int .u8 53), .lit (.int .u8 39), .lit (.int .u8 33), .lit (.int .u8 30), .lit (.int .u8 24), .lit (.int .u8 18), .lit (.int .u8 12), .lit (.int .u8 5), .lit (.int .u8 63), .lit (.int .u8 55), .lit (.int .u8 48), .lit (.int .u8 27), .lit (.int .u8 60), .lit (.int .u8 41), .lit (.int .u8 37), .lit (.int .u8 16), .lit (.int .u8 46), .lit (.int .u8 35), .lit (.int .u8 44), .lit (.int .u8 21), .lit (.int .u8 52), .lit (.int .u8 32), .lit (.int .u8 23), .lit (.int .u8 11), .lit (.int .u8 54), .lit (.int .u8 26), .lit (.int .u8 40), .lit (.int .u8 15), .lit (.int .u8 34), .lit (.int .u8 20), .lit (.int .u8 31), .lit (.int .u8 10), .lit (.int .u8 25), .lit (.int .u8 14), .lit (.int .u8 19), .lit (.int .u8 9), .lit (.int .u8 13), .lit (.int .u8 8), .lit (.int .u8 7), .lit (.int .u8 6)]
def laid_internal_strconv_uint64pow10 {H : Type} : DataW H := .agg [.lit (.int .u64 1), .lit (.int .u64 10), .lit (.int .u64 100), .lit (.int .u64 1000), .lit (.int .u64 10000), .lit (.int .u64 100000), .lit (.int .u64 1000000), .lit (.int .u64 10000000), .lit (.int .u64 100000000), .lit (.int .u64 1000000000), .lit (.int .u64 10000000000), .lit (.int .u64 100000000000), .lit (.int .u64 1000000000000), .lit (.int .u64 10000000000000), .lit (.int .u64 100000000000000), .lit (.int .u64 1000000000000000), .lit (.int .u64 10000000000000000), .lit (.int .u64 100000000000000000), .lit (.int .u64 1000000000000000000), .lit (.int .u64 10000000000000000000)]
def laid_net_netip_z4 {H : Type} : DataW H := .agg [.ptr (.agg [.lit (.bool false), .lit (.string [])])]
def laid_net_netip_z6noz {H : Type} : DataW H := .agg [.ptr (.agg [.lit (.bool true), .lit (.string [])])]
def laid_example_com_ribscope_ribscope_bmp_readable {H : Type} : DataW H := .agg [.agg [.agg [.lit (.int .u16 1), .lit (.int .u8 1)], .lit (.string [105, 112, 118, 52, 45, 117, 110, 105, 99, 97, 115, 116]), .lit (.bool false), .lit (.bool false)], .agg [.agg [.lit (.int .u16 2), .lit (.int .u8 1)], .lit (.string [105, 112, 118, 54, 45, 117, 110, 105, 99, 97, 115, 116]), .lit (.bool false), .lit (.bool false)], .agg [.agg [.lit (.int .u16 1), .lit (.int .u8 4)], .lit (.string [105, 112, 118, 52, 45, 108, 97, 98, 101, 108, 101, 100, 45, 117, 110, 105, 99, 97, 115, 116]), .lit (.bool true), .lit (.bool false)], .agg [.agg [.lit (.int .u16 2), .lit (.int .u8 4)], .lit (.string [105, 112, 118, 54, 45, 108, 97, 98, 101, 108, 101, 100, 45, 117, 110, 105, 99, 97, 115, 116]), .lit (.bool true), .lit (.bool false)], .agg [.agg [.lit (.int .u16 1), .lit (.int .u8 128)], .lit (.string [105, 112, 118, 52, 45, 118, 112, 110]), .lit (.bool true), .lit (.bool true)], .agg [.agg [.lit (.int .u16 2), .lit (.int .u8 128)], .lit (.string [105, 112, 118, 54, 45, 118, 112, 110]), .lit (.bool true), .lit (.bool true)]]
def laid_net_netip_z0 {H : Type} : DataW H := .agg [.nil]
def laid_example_com_ribscope_ribscope_bmp_bgpTypeNames {H : Type} : DataW H := .map [(.int .u8 1, .lit (.string [79, 80, 69, 78])), (.int .u8 2, .lit (.string [85, 80, 68, 65, 84, 69])), (.int .u8 3, .lit (.string [78, 79, 84, 73, 70, 73, 67, 65, 84, 73, 79, 78]))]

/-- 'bmp.LawS0681ASimple': WHATEVER THE INPUT: true; the input reads as it did. -/
def lawS0681ASimpleSpec : ChangeSpec := { name := "lawS0681ASimple", vars := ["example.com/ribscope/ribscope/bmp.readable"], fn := fun _ => fun
  | [d1, d2, g1] => { results := [.lit (.bool true)], args := [d1, d2], vars := [g1] }
  | _ => none }
def lawS0681ASimpleRow : OpenClaim := { program := "ybulknbsfmt", sum := "e2360d3a0539a9ea26ed7a3b814db3993a6593295c63612e49870c5909c9c487", func := "example.com/ribscope/ribscope/bmp.LawS0681ASimple", spec := "lawS0681ASimple", stops := ["fmt.errorf, its operands' methods called", "fmt.Sprintf, its operands' methods called"], inPlace := ["fmt.errorf"], unfollowed := true, recurses := true, named := ["encoding/binary.BigEndian", "net/netip.z4", "example.com/ribscope/ribscope/bmp.readable", "net/netip.z6noz", "net/netip.z0", "internal/strconv.uint64pow10", "math/bits.deBruijn32tab", "math/bits.deBruijn64tab"], apart := false, laid := [("math/bits.deBruijn32tab", laid_math_bits_deBruijn32tab), ("math/bits.deBruijn64tab", laid_math_bits_deBruijn64tab), ("internal/strconv.uint64pow10", laid_internal_strconv_uint64pow10), ("net/netip.z4", laid_net_netip_z4), ("net/netip.z6noz", laid_net_netip_z6noz), ("example.com/ribscope/ribscope/bmp.readable", laid_example_com_ribscope_ribscope_bmp_readable), ("net/netip.z0", laid_net_netip_z0)] }
/-- NO THEOREM (fmt's text is open here; it may be false): for the released tool's asking of the row's closed facts alone. THE STATEMENT IS 'LawS0681ASimpleToldSaid' (YbulknbsFmtCards.lean). -/
def LawS0681ASimpleFormAsk : Prop := lawS0681ASimpleRow.holds Ybaf.pinned (OpenSpec.ofChange lawS0681ASimpleSpec)

/-- ITS FALSE NEIGHBOUR: 'it returns false'. Refute it at one input. -/
def lawS0681ASimpleWrong : ChangeSpec := { name := "lawS0681ASimple", vars := ["example.com/ribscope/ribscope/bmp.readable"], fn := fun _ => fun
  | [d1, d2, g1] => { results := [.lit (.bool false)], args := [d1, d2], vars := [g1] }
  | _ => none }
def LawS0681ASimpleWrongFormAsk : Prop := lawS0681ASimpleRow.holds Ybaf.pinned (OpenSpec.ofChange lawS0681ASimpleWrong)

/-- 'bmp.LawS0681AASPath': WHATEVER THE INPUT: true; the input reads as it did. -/
def lawS0681AASPathSpec : ChangeSpec := { name := "lawS0681AASPath", vars := ["example.com/ribscope/ribscope/bmp.readable"], fn := fun _ => fun
  | [d1, d2, g1] => { results := [.lit (.bool true)], args := [d1, d2], vars := [g1] }
  | _ => none }
def lawS0681AASPathRow : OpenClaim := { program := "ybulknbsfmt", sum := "e2360d3a0539a9ea26ed7a3b814db3993a6593295c63612e49870c5909c9c487", func := "example.com/ribscope/ribscope/bmp.LawS0681AASPath", spec := "lawS0681AASPath", stops := ["fmt.errorf, its operands' methods called", "fmt.Sprintf, its operands' methods called"], inPlace := ["fmt.errorf"], unfollowed := true, recurses := true, named := ["encoding/binary.BigEndian", "net/netip.z4", "example.com/ribscope/ribscope/bmp.readable", "net/netip.z6noz", "net/netip.z0", "internal/strconv.uint64pow10", "math/bits.deBruijn32tab", "math/bits.deBruijn64tab"], apart := false, laid := [("math/bits.deBruijn32tab", laid_math_bits_deBruijn32tab), ("math/bits.deBruijn64tab", laid_math_bits_deBruijn64tab), ("internal/strconv.uint64pow10", laid_internal_strconv_uint64pow10), ("net/netip.z4", laid_net_netip_z4), ("net/netip.z6noz", laid_net_netip_z6noz), ("example.com/ribscope/ribscope/bmp.readable", laid_example_com_ribscope_ribscope_bmp_readable), ("net/netip.z0", laid_net_netip_z0)] }
/-- NO THEOREM (fmt's text is open here; it may be false): for the released tool's asking of the row's closed facts alone. THE STATEMENT IS 'LawS0681AASPathToldSaid' (YbulknbsFmtCards.lean). -/
def LawS0681AASPathFormAsk : Prop := lawS0681AASPathRow.holds Ybaf.pinned (OpenSpec.ofChange lawS0681AASPathSpec)

/-- ITS FALSE NEIGHBOUR: 'it returns false'. Refute it at one input. -/
def lawS0681AASPathWrong : ChangeSpec := { name := "lawS0681AASPath", vars := ["example.com/ribscope/ribscope/bmp.readable"], fn := fun _ => fun
  | [d1, d2, g1] => { results := [.lit (.bool false)], args := [d1, d2], vars := [g1] }
  | _ => none }
def LawS0681AASPathWrongFormAsk : Prop := lawS0681AASPathRow.holds Ybaf.pinned (OpenSpec.ofChange lawS0681AASPathWrong)

/-- 'bmp.LawS0681BModel': WHATEVER THE INPUT: true; the input reads as it did. -/
def lawS0681BModelSpec : ChangeSpec := { name := "lawS0681BModel", vars := ["example.com/ribscope/ribscope/bmp.bgpTypeNames"], fn := fun _ => fun
  | [d1, d2, g1] => { results := [.lit (.bool true)], args := [d1, d2], vars := [g1] }
  | _ => none }
def lawS0681BModelRow : OpenClaim := { program := "ybulknbsfmt", sum := "e2360d3a0539a9ea26ed7a3b814db3993a6593295c63612e49870c5909c9c487", func := "example.com/ribscope/ribscope/bmp.LawS0681BModel", spec := "lawS0681BModel", stops := ["fmt.errorf, its operands' methods called", "fmt.Sprintf, its operands' methods called"], inPlace := ["fmt.errorf"], unfollowed := true, recurses := true, named := ["example.com/ribscope/ribscope/bmp.bgpTypeNames", "encoding/binary.BigEndian"], maps := true, apart := false, laid := [("example.com/ribscope/ribscope/bmp.bgpTypeNames", laid_example_com_ribscope_ribscope_bmp_bgpTypeNames)] }
/-- NO THEOREM (fmt's text is open here; it may be false): for the released tool's asking of the row's closed facts alone. THE STATEMENT IS 'LawS0681BModelToldSaid' (YbulknbsFmtCards.lean). -/
def LawS0681BModelFormAsk : Prop := lawS0681BModelRow.holds Ybaf.pinned (OpenSpec.ofChange lawS0681BModelSpec)

/-- ITS FALSE NEIGHBOUR: 'it returns false'. Refute it at one input. -/
def lawS0681BModelWrong : ChangeSpec := { name := "lawS0681BModel", vars := ["example.com/ribscope/ribscope/bmp.bgpTypeNames"], fn := fun _ => fun
  | [d1, d2, g1] => { results := [.lit (.bool false)], args := [d1, d2], vars := [g1] }
  | _ => none }
def LawS0681BModelWrongFormAsk : Prop := lawS0681BModelRow.holds Ybaf.pinned (OpenSpec.ofChange lawS0681BModelWrong)

/-- 'bmp.LawS0681BFramed': WHATEVER THE INPUT: true; the input reads as it did. -/
def lawS0681BFramedSpec : ChangeSpec := { name := "lawS0681BFramed", vars := ["example.com/ribscope/ribscope/bmp.bgpTypeNames"], fn := fun _ => fun
  | [d1, d2, d3, d4, d5, d6, g1] => { results := [.lit (.bool true)], args := [d1, d2, d3, d4, d5, d6], vars := [g1] }
  | _ => none }
def lawS0681BFramedRow : OpenClaim := { program := "ybulknbsfmt", sum := "e2360d3a0539a9ea26ed7a3b814db3993a6593295c63612e49870c5909c9c487", func := "example.com/ribscope/ribscope/bmp.LawS0681BFramed", spec := "lawS0681BFramed", stops := ["fmt.errorf, its operands' methods called", "fmt.Sprintf, its operands' methods called"], inPlace := ["fmt.errorf"], unfollowed := true, recurses := true, named := ["example.com/ribscope/ribscope/bmp.bgpTypeNames", "encoding/binary.BigEndian"], maps := true, apart := false, laid := [("example.com/ribscope/ribscope/bmp.bgpTypeNames", laid_example_com_ribscope_ribscope_bmp_bgpTypeNames)] }
/-- NO THEOREM (fmt's text is open here; it may be false): for the released tool's asking of the row's closed facts alone. THE STATEMENT IS 'LawS0681BFramedToldSaid' (YbulknbsFmtCards.lean). -/
def LawS0681BFramedFormAsk : Prop := lawS0681BFramedRow.holds Ybaf.pinned (OpenSpec.ofChange lawS0681BFramedSpec)

/-- ITS FALSE NEIGHBOUR: 'it returns false'. Refute it at one input. -/
def lawS0681BFramedWrong : ChangeSpec := { name := "lawS0681BFramed", vars := ["example.com/ribscope/ribscope/bmp.bgpTypeNames"], fn := fun _ => fun
  | [d1, d2, d3, d4, d5, d6, g1] => { results := [.lit (.bool false)], args := [d1, d2, d3, d4, d5, d6], vars := [g1] }
  | _ => none }
def LawS0681BFramedWrongFormAsk : Prop := lawS0681BFramedRow.holds Ybaf.pinned (OpenSpec.ofChange lawS0681BFramedWrong)

/-- 'bmp.LawS0681CMerge': WHATEVER THE INPUT: true; the input reads as it did. -/
def lawS0681CMergeSpec : ChangeSpec := { name := "lawS0681CMerge", fn := fun _ => fun
  | [d1, d2, d3, d4, d5, d6] => { results := [.lit (.bool true)], args := [d1, d2, d3, d4, d5, d6] }
  | _ => none }
def lawS0681CMergeRow : OpenClaim := { program := "ybulknbsfmt", sum := "e2360d3a0539a9ea26ed7a3b814db3993a6593295c63612e49870c5909c9c487", func := "example.com/ribscope/ribscope/bmp.LawS0681CMerge", spec := "lawS0681CMerge", stops := ["fmt.errorf, its operands' methods called", "fmt.Sprintf, its operands' methods called"], inPlace := ["fmt.errorf"], unfollowed := true, recurses := true, named := ["encoding/binary.BigEndian"], apart := false }
/-- NO THEOREM (fmt's text is open here; it may be false): for the released tool's asking of the row's closed facts alone. THE STATEMENT IS 'LawS0681CMergeToldSaid' (YbulknbsFmtCards.lean). -/
def LawS0681CMergeFormAsk : Prop := lawS0681CMergeRow.holds Ybaf.pinned (OpenSpec.ofChange lawS0681CMergeSpec)

/-- ITS FALSE NEIGHBOUR: 'it returns false'. Refute it at one input. -/
def lawS0681CMergeWrong : ChangeSpec := { name := "lawS0681CMerge", fn := fun _ => fun
  | [d1, d2, d3, d4, d5, d6] => { results := [.lit (.bool false)], args := [d1, d2, d3, d4, d5, d6] }
  | _ => none }
def LawS0681CMergeWrongFormAsk : Prop := lawS0681CMergeRow.holds Ybaf.pinned (OpenSpec.ofChange lawS0681CMergeWrong)

end Rows
end Go.Proofs.YbulknbsFmt
