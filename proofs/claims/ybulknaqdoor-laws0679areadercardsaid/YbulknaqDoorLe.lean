/-
  Plain numbers: the little-endian number of the first bytes.
-/
import Derived.WalkKit
import Derived.Lib.EndianBits
namespace Go.Proofs.YbulknaqDoor
open Go.RowKit

/-- the little-endian number of the first j bytes -/
def le (zs : List Int) : Nat → Int
  | 0 => 0
  | j + 1 => le zs j + zs[j]?.getD 0 * 2 ^ (8 * j)

theorem le_bd (zs : List Int) (hz : ∀ j : Nat, 0 ≤ zs[j]?.getD 0 ∧ zs[j]?.getD 0 ≤ 255) : ∀ j, 0 ≤ le zs j ∧ le zs j < 2 ^ (8 * j)
  | 0 => by simp [le]
  | j + 1 => by
    obtain ⟨h0, h1⟩ := le_bd zs hz j
    obtain ⟨z0, z1⟩ := hz j
    have e : (2 : Int) ^ (8 * (j + 1)) = 256 * 2 ^ (8 * j) := by
      rw [show 8 * (j + 1) = 8 * j + 8 from by omega, Int.pow_add]
      omega
    have hp : (0 : Int) < 2 ^ (8 * j) := Int.pow_pos (by decide)
    have hm : zs[j]?.getD 0 * 2 ^ (8 * j) ≤ 255 * 2 ^ (8 * j) := Int.mul_le_mul_of_nonneg_right z1 (by omega)
    have hm0 : 0 ≤ zs[j]?.getD 0 * 2 ^ (8 * j) := Int.mul_nonneg z0 (by omega)
    simp only [le]
    rw [e]
    omega

theorem le_step (zs : List Int) (hz : ∀ j : Nat, 0 ≤ zs[j]?.getD 0 ∧ zs[j]?.getD 0 ≤ 255) (j : Nat) (hj : j < 8) :
    bits .or .u64 (le zs j) (IntKind.u64.wrap (zs[j]?.getD 0 * 2 ^ (8 * j))) = le zs (j + 1) := by
  obtain ⟨h0, h1⟩ := le_bd zs hz j
  obtain ⟨z0, z1⟩ := hz j
  have hp : (0 : Int) < 2 ^ (8 * j) := Int.pow_pos (by decide)
  have hm : zs[j]?.getD 0 * 2 ^ (8 * j) ≤ 255 * 2 ^ (8 * j) := Int.mul_le_mul_of_nonneg_right z1 (by omega)
  have hm0 : 0 ≤ zs[j]?.getD 0 * 2 ^ (8 * j) := Int.mul_nonneg z0 (by omega)
  have hb : (2 : Int) ^ (8 * j) ≤ 2 ^ 56 := by
    have : (2 : Nat) ^ (8 * j) ≤ 2 ^ 56 := Nat.pow_le_pow_right (by decide) (by omega)
    exact_mod_cast this
  have h64 : zs[j]?.getD 0 * 2 ^ (8 * j) < 2 ^ 64 := by omega
  rw [wraps_u64 _ hm0 h64, bits_join_low .u64 64 (by decide) wraps_u64 (8 * j) _ _ h0 h1 (by omega) hm0 (by rw [Int.mul_emod_left]) h64]
  rfl

theorem le_lt64 (zs : List Int) (hz : ∀ j : Nat, 0 ≤ zs[j]?.getD 0 ∧ zs[j]?.getD 0 ≤ 255) (j : Nat) (hj : j ≤ 8) : 0 ≤ le zs j ∧ le zs j < 18446744073709551616 := by
  obtain ⟨h0, h1⟩ := le_bd zs hz j
  have : (2 : Nat) ^ (8 * j) ≤ 2 ^ 64 := Nat.pow_le_pow_right (by decide) (by omega)
  have hb : (2 : Int) ^ (8 * j) ≤ 2 ^ 64 := by exact_mod_cast this
  omega

/-- the eight bytes of which the first n are the data's and the rest nought -/
def pad (zs : List Int) (n j : Nat) : Int := if j < n then zs[j]?.getD 0 else 0
theorem le_pad (zs : List Int) (n : Nat) (hn : n ≤ 8) :
    pad zs n 0 + pad zs n 1 * 256 + pad zs n 2 * 65536 + pad zs n 3 * 16777216 + pad zs n 4 * 4294967296 + pad zs n 5 * 1099511627776 + pad zs n 6 * 281474976710656 + pad zs n 7 * 72057594037927936 = le zs n := by
  have : n = 0 ∨ n = 1 ∨ n = 2 ∨ n = 3 ∨ n = 4 ∨ n = 5 ∨ n = 6 ∨ n = 7 ∨ n = 8 := by omega
  rcases this with rfl | rfl | rfl | rfl | rfl | rfl | rfl | rfl | rfl <;> simp [pad, le]
end Go.Proofs.YbulknaqDoor
