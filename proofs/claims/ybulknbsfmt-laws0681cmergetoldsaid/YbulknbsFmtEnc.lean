/-
  A path's bytes.
-/
import Derived.Test.YbulknbsFmtDelete
import Derived.Test.YbulknbsFmtGet
import Derived.Test.YbulknbsFmtErr0
namespace Go.Proofs.YbulknbsFmt
open Go.RowKit

/-- a path's bytes: type, count, each number's four bytes -/
def nums : List (Int × List Int) → List Int
  | [] => []
  | s :: r => s.2 ++ nums r
def bytes4 : List Int → List Int
  | [] => []
  | x :: r => be4 x ++ bytes4 r
def enc : List (Int × List Int) → List Int
  | [] => []
  | s :: r => s.1 :: (s.2.length : Int) :: (bytes4 s.2 ++ enc r)

theorem bytes4_length (xs : List Int) : (bytes4 xs).length = xs.length * 4 := by
  induction xs with
  | nil => rfl
  | cons x r ih => simp [bytes4, be4, ih]; omega
theorem bytes4_get (xs : List Int) (i : Nat) (hi : i < xs.length) (j : Nat) (hj : j < 4) : (bytes4 xs)[i * 4 + j]? = (be4 (xs.getD i 0))[j]? := by
  induction xs generalizing i with
  | nil => simp at hi
  | cons x r ih =>
    have hl : (be4 x).length = 4 := rfl
    cases i with
    | zero => simp only [bytes4, Nat.zero_mul, Nat.zero_add]; rw [List.getElem?_append_left (by omega)]; simp
    | succ i =>
      simp only [bytes4]
      rw [List.getElem?_append_right (by omega), hl, show (i + 1) * 4 + j - 4 = i * 4 + j by omega, ih i (by simpa using hi)]
      simp
theorem enc_length (ss : List (Int × List Int)) : (nums ss).length * 4 ≤ (enc ss).length := by
  induction ss with
  | nil => simp [nums]
  | cons s r ih => simp [nums, enc, bytes4_length]; omega

/-- what a cut of a slice of numbers reads as -/
theorem NumsAt.drop {k : IntKind} {w : World} {b off c n : Nat} {xs : List Int} (h : NumsAt k w (.slice (some ⟨b, off, none⟩) xs.length c) xs) (hn : n ≤ xs.length) : NumsAt k w (.slice (some ⟨b, off + n, none⟩) (xs.length - n) (c - n)) (xs.drop n) := by
  obtain ⟨a, c', hv, hcc, _, hh⟩ := h
  injection hv with h1 _ h3
  subst h1 h3
  refine ⟨_, _, by rw [List.length_drop], by rw [List.length_drop]; omega, (fun h => by cases h), fun hp => ⟨b, off + n, rfl, fun i hi => ?_⟩⟩
  rw [List.length_drop] at hi hp
  obtain ⟨b', off', e, hx⟩ := hh (by omega)
  cases e
  rw [Nat.add_assoc, hx (n + i) (by omega)]
  simp
end Go.Proofs.YbulknbsFmt
