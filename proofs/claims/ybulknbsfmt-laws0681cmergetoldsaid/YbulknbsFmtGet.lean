/-
  BigEndian.Uint32.
-/
import Derived.Test.YbulknbsFmtPut
import Derived.Lib.EndianBits
namespace Go.Proofs.YbulknbsFmt
open Go.RowKit

set_option maxRecDepth 100000 in
set_option maxHeartbeats 400000 in
theorem uint32_any (g o n c : Nat) (a : Int) (w : World) (ha : 0 ≤ a ∧ a ≤ 4294967295) (hn : 4 ≤ n) (hn2 : n ≤ 1000000) (c0 : w.cell? ⟨g, o, none⟩ = some (.int .u8 (a / 16777216))) (c1 : w.cell? ⟨g, o + 1, none⟩ = some (.int .u8 (a / 65536 % 256))) (c2 : w.cell? ⟨g, o + 2, none⟩ = some (.int .u8 (a / 256 % 256))) (c3 : w.cell? ⟨g, o + 3, none⟩ = some (.int .u8 (a % 256))) :
    Calls Ybaf.prog 24 #[.agg #[], .slice (some ⟨g, o, none⟩) n c] w fun e w' => e = .returned (.int .u32 a) ∧ Below w.heap.size w w' := by
  have hg : g < w.heap.size := World.block_lt_of_cell? _ _ c0
  have h0 : 0 < n := by omega
  have h1 : 1 < n := by omega
  have h2 : 2 < n := by omega
  have h3 : 3 < n := by omega
  obtain ⟨x0, e0⟩ : ∃ x, a / 16777216 = x := ⟨_, rfl⟩
  obtain ⟨x1, e1⟩ : ∃ x, a / 65536 % 256 = x := ⟨_, rfl⟩
  obtain ⟨x2, e2⟩ : ∃ x, a / 256 % 256 = x := ⟨_, rfl⟩
  obtain ⟨x3, e3⟩ : ∃ x, a % 256 = x := ⟨_, rfl⟩
  have b0 : 0 ≤ x0 ∧ x0 ≤ 255 := by omega
  have b1 : 0 ≤ x1 ∧ x1 ≤ 255 := by omega
  have b2 : 0 ≤ x2 ∧ x2 ≤ 255 := by omega
  have b3 : 0 ≤ x3 ∧ x3 ≤ 255 := by omega
  have HA : Hid (a = x3 + x2 * 256 + x1 * 65536 + x0 * 16777216) := by show _ = _; omega
  rw [e0] at c0; rw [e1] at c1; rw [e2] at c2; rw [e3] at c3
  clear e0 e1 e2 e3
  go_enter Ybaf.func24, Ybaf.ntmps24
  go_wp2
  go_quiet (fail)
  go_wp2
  go_ret
  refine ⟨?_, ((Below.refl _ w).alloc (Nat.le_refl _) _).trans ⟨rfl, rfl, rfl, Nat.le_refl _, fun _ _ => rfl⟩⟩
  rw [HA.out]
  simp (disch := omega) only [u32_or8, u32_or16, u32_or24]
  rfl
end Go.Proofs.YbulknbsFmt
