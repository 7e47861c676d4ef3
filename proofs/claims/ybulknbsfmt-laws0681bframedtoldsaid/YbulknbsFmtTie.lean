/-
  DERIVED. GIVEN WITH THE SEED: THE PROGRAM's TIES (one call each: nine closed facts by the kernel) AND EACH ROW's TIE, after the 31st guide's Derived/Test/Toyas{Tie, Card}.lean. No idea stands in it: it is a product of the set-up. Laid BY PROGRAM, IN A SANDBOX (cutbox-door.mjs). By AI agents, Wed Nov 11 2026. No macro, syntax, notation, axiom, sorry.
-/
import Derived.Test.YbulknbsFmtRows
import Derived.LaidByTextLater
import Derived.SevenTiedAt
import Derived.LaidSub
import Derived.LaidOnce
namespace Go.Proofs.YbulknbsFmt
open Go
set_option maxRecDepth 100000
theorem seatTie1 : Ybaf.prog.laidByTextLater [("math/bits.deBruijn32tab", Rows.laid_math_bits_deBruijn32tab), ("math/bits.deBruijn64tab", Rows.laid_math_bits_deBruijn64tab), ("internal/strconv.uint64pow10", Rows.laid_internal_strconv_uint64pow10), ("net/netip.z4", Rows.laid_net_netip_z4), ("net/netip.z6noz", Rows.laid_net_netip_z6noz), ("example.com/ribscope/ribscope/bmp.bgpTypeNames", Rows.laid_example_com_ribscope_ribscope_bmp_bgpTypeNames), ("example.com/ribscope/ribscope/bmp.readable", Rows.laid_example_com_ribscope_ribscope_bmp_readable), ("net/netip.z0", Rows.laid_net_netip_z0)] [.data, .data, .data, .called, .called, .mapped, .widerDeep, .zero] true :=
  Program.laidByTextLater_by_one 108 8 65 (by kernel_rfl) (by kernel_rfl) (by kernel_rfl) (by kernel_rfl) (by kernel_rfl) (by kernel_rfl) (fun _ _ => by kernel_rfl)
theorem noOwnUnsafe : Ybaf.pinned.checked.prog.headLifts.contains "ownunsafe" = false := by kernel_rfl
theorem tie : Ybaf.prog.laidByTextLater [("math/bits.deBruijn32tab", Rows.laid_math_bits_deBruijn32tab), ("math/bits.deBruijn64tab", Rows.laid_math_bits_deBruijn64tab), ("internal/strconv.uint64pow10", Rows.laid_internal_strconv_uint64pow10), ("net/netip.z4", Rows.laid_net_netip_z4), ("net/netip.z6noz", Rows.laid_net_netip_z6noz), ("example.com/ribscope/ribscope/bmp.readable", Rows.laid_example_com_ribscope_ribscope_bmp_readable), ("net/netip.z0", Rows.laid_net_netip_z0)] [.data, .data, .data, .called, .called, .widerDeep, .zero] true :=
  Program.laidByTextLater.sub seatTie1 ["math/bits.deBruijn32tab", "math/bits.deBruijn64tab", "internal/strconv.uint64pow10", "net/netip.z4", "net/netip.z6noz", "example.com/ribscope/ribscope/bmp.readable", "net/netip.z0"] (by kernel_rfl) (by kernel_rfl)
theorem lawS0681ASimple_row_tie : Rows.lawS0681ASimpleRow.laidByTextAt .later Ybaf.pinned [.data, .data, .data, .called, .called, .widerDeep, .zero] true :=
  OpenClaim.laidByTextAt_later rfl rfl tie noOwnUnsafe
theorem lawS0681AASPath_row_tie : Rows.lawS0681AASPathRow.laidByTextAt .later Ybaf.pinned [.data, .data, .data, .called, .called, .widerDeep, .zero] true :=
  OpenClaim.laidByTextAt_later rfl rfl tie noOwnUnsafe
theorem tie2 : Ybaf.prog.laidByTextLater [("example.com/ribscope/ribscope/bmp.bgpTypeNames", Rows.laid_example_com_ribscope_ribscope_bmp_bgpTypeNames)] [.mapped] true :=
  Program.laidByTextLater.sub seatTie1 ["example.com/ribscope/ribscope/bmp.bgpTypeNames"] (by kernel_rfl) (by kernel_rfl)
theorem lawS0681BModel_row_tie : Rows.lawS0681BModelRow.laidByTextAt .later Ybaf.pinned [.mapped] true :=
  OpenClaim.laidByTextAt_later rfl rfl tie2 noOwnUnsafe
theorem lawS0681BFramed_row_tie : Rows.lawS0681BFramedRow.laidByTextAt .later Ybaf.pinned [.mapped] true :=
  OpenClaim.laidByTextAt_later rfl rfl tie2 noOwnUnsafe
end Go.Proofs.YbulknbsFmt
