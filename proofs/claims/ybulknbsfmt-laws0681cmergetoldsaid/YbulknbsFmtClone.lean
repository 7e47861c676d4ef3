/-
  slices.Clone of bytes of any length.
-/
import Derived.Test.YbulknbsFmtNums
namespace Go.Proofs.YbulknbsFmt
open Go.RowKit

set_option maxRecDepth 100000 in
set_option maxHeartbeats 400000 in
theorem clone22b (v : Value) (xs : List Int) (w : World) (h : NumsAt .u8 w v xs) (hx : xs.length ≤ 140737488355328) :
    Calls Ybaf.prog 16 #[v] w fun e w' => ∃ v', e = .returned v' ∧ NumsAt .u8 w' v' xs ∧ Below w.heap.size w w' ∧ ∀ b, v'.ownBlock = some b → w.heap.size ≤ b ∧ b < w'.heap.size := by
  have q22 : ∀ (w : World) (a : Option Addr) (n c n' c' : Nat), (binOp .eql 22 (.slice a n c) (.slice none n' c')).run Ybaf.prog w = .ok (.bool a.isNone) w := fun w a n c n' c' => Lib.run_eql_slice_nil w _ _ a n c n' c' Ybaf.underlying22
  obtain ⟨i0, hi, hz0, hz1, hz2⟩ := info_parts info5q
  obtain ⟨a, c, rfl, hc, hn, hh⟩ := h
  by_cases hp : 0 < xs.length
  · obtain ⟨b, off, rfl, hcell⟩ := hh hp
    have hb : b < w.heap.size := World.block_lt_of_cell? _ _ (hcell 0 hp)
    have HO : Hid ((w.alloc (.cells #[] 5)).ownsRow w.heap.size 5 1 (.slice (some ⟨w.heap.size, 0, none⟩) 0 0) 0 []) :=
      ⟨rfl, .inr ⟨w.heap.size, 0, #[], rfl, Nat.le_refl _, by show (w.heap.push _)[w.heap.size]? = _; simp, Nat.le_refl _, Nat.zero_le _, rfl, rfl⟩⟩
    have HC : Hid (∀ j u, (xs.map (Value.int .u8))[j]? = some u → (w.alloc (.cells #[] 5)).cell? ((⟨b, off, none⟩ : Addr).add j) = some u) :=
      news_of (fun i hi => cell_later (hcell i hi) ((Below.refl _ _).alloc (Nat.le_refl _) _))
    clear hcell hh
    obtain ⟨n, hnn⟩ : ∃ n, xs.length = n := ⟨_, rfl⟩
    have HN : Hid (xs.length = n) := hnn
    rw [hnn] at hc hp hx ⊢
    clear hnn
    go_enter Ybaf.func16, Ybaf.ntmps16
    go_wp2_with (at_builtin; refine wpList_append_lies _ rfl (.tmp 5) (.tmp 6) 22 rfl w.heap.size 5 i0 (.int .u8 0) 1 1 Ybaf.underlying22 hi hz0 hz1 hz2 rfl (by decide) _ 0 [] rfl HO.out ⟨b, off, none⟩ n c (xs.map (Value.int .u8)) rfl (by simp [HN.out]) HC.out (ints_oneCell _ _) (by omega) (by unfold maxLen; omega) (by omega) (by simp) _ rfl ?_; intro d cap w1 hown hgrow hat hlt)
    go_ret
    rw [Nat.zero_add, List.nil_append] at hown
    refine ⟨_, rfl, ?_, ((Below.refl _ _).alloc (Nat.le_refl _) _).grown hgrow (by simp) (fun k hk => by cases hk; exact Nat.le_refl _), hown.lt⟩
    exact nums_of_own hown
  · obtain rfl : xs = [] := List.eq_nil_of_length_eq_zero (by omega)
    simp only [List.length_nil] at *
    clear hh hx hp
    cases a with
    | none =>
      go_enter Ybaf.func16, Ybaf.ntmps16
      go_wp2
      go_ret
      exact ⟨_, rfl, ⟨none, 0, rfl, Nat.le_refl _, (fun _ => rfl), fun h => absurd h (by simp)⟩, Below.refl _ _, fun b hb => by cases hb⟩
    | some ad =>
      have HO : Hid ((w.alloc (.cells #[] 5)).ownsRow w.heap.size 5 1 (.slice (some ⟨w.heap.size, 0, none⟩) 0 0) 0 []) :=
        ⟨rfl, .inr ⟨w.heap.size, 0, #[], rfl, Nat.le_refl _, by show (w.heap.push _)[w.heap.size]? = _; simp, Nat.le_refl _, Nat.zero_le _, rfl, rfl⟩⟩
      go_enter Ybaf.func16, Ybaf.ntmps16
      go_wp2_with (at_builtin; refine wpList_append_fits _ rfl (.tmp 5) (.tmp 6) 22 rfl w.heap.size 5 i0 1 Ybaf.underlying22 hi hz1 w.heap.size 0 0 [] rfl HO.out ad 0 c [] rfl rfl (by intro j u hu; simp at hu) (by intro u hu; simp at hu) (Nat.le_refl _) ?_; intro w1 hown hgrow)
      go_ret
      exact ⟨_, rfl, ⟨_, 0, rfl, Nat.le_refl _, (fun _ => rfl), fun h => absurd h (by simp)⟩, ((Below.refl _ _).alloc (Nat.le_refl _) _).grown hgrow (by simp) (fun k hk => by cases hk; exact Nat.le_refl _), hown.lt⟩
end Go.Proofs.YbulknbsFmt
