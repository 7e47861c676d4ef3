/-
  Paths as they read; pathLength, confed.
-/
import Derived.Test.YbulknbsFmtNums
namespace Go.Proofs.YbulknbsFmt
open Go.RowKit

/-- a path's segments as they read: type and numbers -/
def SegsAt (w : World) (v : Value) (ss : List (Int × List Int)) : Prop :=
  ∃ a c, v = .slice a ss.length c ∧ ss.length ≤ c ∧ (a = none → c = 0) ∧ (0 < ss.length → ∃ b off, a = some ⟨b, off, none⟩ ∧ ∀ i, i < ss.length →
    w.cell? ⟨b, off + i * 2, none⟩ = some (.int .u8 (ss.getD i (0, [])).1) ∧ ∃ a' n' c', w.cell? ⟨b, off + i * 2 + 1, none⟩ = some (.slice a' n' c') ∧ NumsAt .u32 w (.slice a' n' c') (ss.getD i (0, [])).2)

theorem SegsAt.later {w w' : World} {v : Value} {ss : List (Int × List Int)} (h : SegsAt w v ss) (B : Below w.heap.size w w') : SegsAt w' v ss := by
  obtain ⟨a, c, rfl, hc, hn, h⟩ := h
  refine ⟨a, c, rfl, hc, hn, fun hp => ?_⟩
  obtain ⟨b, off, rfl, hh⟩ := h hp
  refine ⟨b, off, rfl, fun i hi => ?_⟩
  obtain ⟨h1, a', n', c', h2, h3⟩ := hh i hi
  exact ⟨cell_later h1 B, a', n', c', cell_later h2 B, h3.later B⟩

/-- the numbers a path counts -/
def one (s : Int × List Int) : Nat := if s.1 = 2 then s.2.length else if s.1 = 1 then 1 else 0
def plen : List (Int × List Int) → Nat
  | [] => 0
  | s :: r => one s + plen r
theorem plen_append (a b : List (Int × List Int)) : plen (a ++ b) = plen a + plen b := by
  induction a with
  | nil => simp [plen]
  | cons x r ih => simp [plen, ih]; omega
theorem plen_take (ss : List (Int × List Int)) (k : Nat) (hk : k < ss.length) : plen (ss.take (k + 1)) = plen (ss.take k) + one (ss.getD k (0, [])) := by
  rw [List.take_add_one, plen_append]
  simp [hk, plen]
theorem plen_le (ss : List (Int × List Int)) (k : Nat) : plen (ss.take k) ≤ plen ss := by
  conv => rhs; rw [← List.take_append_drop k ss]
  rw [plen_append]; omega

set_option maxRecDepth 100000 in
set_option maxHeartbeats 400000 in
theorem confed_any (t : Int) (a : Option Addr) (n c : Nat) (w : World) :
    Calls Ybaf.prog 32 #[.agg #[.int .u8 t, .slice a n c]] w fun e w' => e = .returned (.bool (t == 3 || t == 4)) ∧ Below w.heap.size w w' := by
  by_cases h3 : t = 3
  · subst h3
    go_enter Ybaf.func32, Ybaf.ntmps32
    go_wp2
    go_ret
    exact ⟨rfl, (Below.refl _ _).alloc (Nat.le_refl _) _⟩
  · have q : (t == 3) = false := by simp [h3]
    rw [q]
    clear h3
    go_enter Ybaf.func32, Ybaf.ntmps32
    go_wp2
    go_ret
    exact ⟨by simp, (Below.refl _ _).alloc (Nat.le_refl _) _⟩

set_option maxRecDepth 100000 in
set_option maxHeartbeats 400000 in
theorem pathLength_any (v : Value) (ss : List (Int × List Int)) (w : World) (h : SegsAt w v ss) (hl : ss.length ≤ 100000) (hb : plen ss ≤ 100000) :
    Calls Ybaf.prog 33 #[v] w fun e w' => e = .returned (.int .i64 (plen ss)) ∧ Below w.heap.size w w' := by
  obtain ⟨a, c, rfl, hc, hn, hh⟩ := h
  obtain ⟨n, hnn⟩ : ∃ n, ss.length = n := ⟨_, rfl⟩
  rw [hnn] at hc hh hl ⊢
  have HN : Hid (ss.length = n) := hnn
  have H : Hid (0 < n → ∃ b off, a = some ⟨b, off, none⟩ ∧ ∀ i, i < n → w.cell? ⟨b, off + i * 2, none⟩ = some (.int .u8 (ss.getD i (0, [])).1) ∧ ∃ a' n' c', w.cell? ⟨b, off + i * 2 + 1, none⟩ = some (.slice a' n' c') ∧ NumsAt .u32 w (.slice a' n' c') (ss.getD i (0, [])).2) := hh
  clear hh hnn
  go_enter Ybaf.func33, Ybaf.ntmps33
  go_wp2_with fail
  go_loopw [8, 3] (fun si sn wr => ∃ k : Nat, k ≤ n ∧ si = .int .i64 k ∧ sn = .int .i64 (plen (ss.take k)) ∧ Below w.heap.size w wr) (fun si _ _ => n - (intOf si).toNat)
  case atStart => exact ⟨0, Nat.zero_le _, rfl, rfl, Below.refl _ _⟩
  case round =>
    obtain ⟨k, hk, rfl, rfl, B⟩ := hrel
    by_cases hlt : k < n
    · obtain ⟨b, off, rfl, hx⟩ := H.out (by omega)
      obtain ⟨x1, a', n', c', x2, ⟨a'', c'', hv, _⟩⟩ := hx k hlt
      have hbk : b < w.heap.size := World.block_lt_of_cell? _ _ x1
      have d1 : wr.cell? ⟨b, off + k * 2, none⟩ = some (.int .u8 (ss.getD k (0, [])).1) := (B.cell (p := ⟨b, off + k * 2, none⟩) hbk).trans x1
      have d2 : wr.cell? ⟨b, off + k * 2 + 1, none⟩ = some (.slice a' n' c') := (B.cell (p := ⟨b, off + k * 2 + 1, none⟩) hbk).trans x2
      have hn' : (ss.getD k (0, [])).2.length = n' := by injection hv with _ e _; exact e.symm
      have hstep := plen_take ss k (by rw [HN.out]; exact hlt)
      have hle := plen_le ss (k + 1)
      obtain ⟨t, ht⟩ : ∃ t, (ss.getD k (0, [])).1 = t := ⟨_, rfl⟩
      unfold one at hstep
      rw [ht, hn'] at hstep
      rw [ht] at d1
      obtain ⟨s, hs⟩ : ∃ s, plen (ss.take k) = s := ⟨_, rfl⟩
      rw [hs] at hstep ⊢
      clear hv x1 x2 hx hn' ht
      by_cases h2 : t = 2
      · subst h2
        simp only [if_true] at hstep
        have HS : Hid (plen (ss.take (k + 1)) = s + n') := hstep
        have hbb : s + n' ≤ 100000 := by omega
        clear hstep hle hs
        go_wp2_with fail
        go_roundw
        case rel => exact ⟨k + 1, by omega, by go_num, by rw [HS.out]; push_cast; rfl, B.alloc B.size _⟩
        case measure => simp [intOf]; omega
      · by_cases h1 : t = 1
        · subst h1
          simp only [show ¬ (1 : Int) = 2 by decide, if_false, if_true] at hstep
          have HS : Hid (plen (ss.take (k + 1)) = s + 1) := hstep
          have hbb : s + 1 ≤ 100000 := by omega
          clear hstep hle hs
          go_wp2_with fail
          go_roundw
          case rel => exact ⟨k + 1, by omega, by go_num, by rw [HS.out]; push_cast; rfl, B.alloc B.size _⟩
          case measure => simp [intOf]; omega
        · simp only [h2, h1, if_false, Nat.add_zero] at hstep
          have HS : Hid (plen (ss.take (k + 1)) = s) := hstep
          have q2 : (t == 2) = false := by simp [h2]
          have q1 : (t == 1) = false := by simp [h1]
          clear hstep hle hs h2 h1
          go_wp2_with fail
          go_roundw
          case rel => exact ⟨k + 1, by omega, by go_num, by rw [HS.out], B.alloc B.size _⟩
          case measure => simp [intOf]; omega
    · obtain rfl : k = n := by omega
      go_wp2_with fail
      go_ret
      refine ⟨?_, B⟩
      rw [← HN.out, List.take_length]
      rfl
end Go.Proofs.YbulknbsFmt
