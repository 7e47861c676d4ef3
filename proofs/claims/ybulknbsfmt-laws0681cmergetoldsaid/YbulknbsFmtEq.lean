/-
  zzs0681clen, zzs0681ceq.
-/
import Derived.Test.YbulknbsFmtSegs
namespace Go.Proofs.YbulknbsFmt
open Go.RowKit

set_option maxRecDepth 100000 in
set_option maxHeartbeats 400000 in
theorem clen_any (v : Value) (ss : List (Int × List Int)) (w : World) (h : SegsAt w v ss) (hl : ss.length ≤ 100000) (hb : plen ss ≤ 100000) :
    Calls Ybaf.prog 20 #[v] w fun e w' => e = .returned (.int .i64 (plen ss)) ∧ Below w.heap.size w w' := by
  obtain ⟨a, c, rfl, hc, hn, hh⟩ := h
  obtain ⟨n, hnn⟩ : ∃ n, ss.length = n := ⟨_, rfl⟩
  rw [hnn] at hc hh hl ⊢
  have HN : Hid (ss.length = n) := hnn
  have H : Hid (0 < n → ∃ b off, a = some ⟨b, off, none⟩ ∧ ∀ i, i < n → w.cell? ⟨b, off + i * 2, none⟩ = some (.int .u8 (ss.getD i (0, [])).1) ∧ ∃ a' n' c', w.cell? ⟨b, off + i * 2 + 1, none⟩ = some (.slice a' n' c') ∧ NumsAt .u32 w (.slice a' n' c') (ss.getD i (0, [])).2) := hh
  clear hh hnn
  go_enter Ybaf.func20, Ybaf.ntmps20
  go_wp2_with fail
  go_loopw [8, 3] (fun si sn wr => ∃ k : Nat, k ≤ n ∧ si = .int .i64 k ∧ sn = .int .i64 (plen (ss.take k)) ∧ Below w.heap.size w wr) (fun si _ _ => n - (intOf si).toNat)
  case atStart => exact ⟨0, Nat.zero_le _, rfl, rfl, Below.refl _ _⟩
  case round =>
    obtain ⟨k, hk, rfl, rfl, B⟩ := hrel
    by_cases hlt : k < n
    · obtain ⟨b, off, rfl, hx⟩ := H.out (by omega)
      obtain ⟨x1, a', n', c', x2, ⟨a'', c'', hv, _⟩⟩ := hx k hlt
      have hbk : b < w.heap.size := World.block_lt_of_cell? _ _ x1
      have d1 : wr.cell? ⟨b, off + k * 2, none⟩ = some (.int .u8 (ss.getD k (0, [])).1) := (B.cell (p := ⟨b, off + k * 2, none⟩) hbk).trans x1
      have d2 : wr.cell? ⟨b, off + k * 2 + 1, none⟩ = some (.slice a' n' c') := (B.cell (p := ⟨b, off + k * 2 + 1, none⟩) hbk).trans x2
      have hn' : (ss.getD k (0, [])).2.length = n' := by injection hv with _ e _; exact e.symm
      have hstep := plen_take ss k (by rw [HN.out]; exact hlt)
      have hle := plen_le ss (k + 1)
      obtain ⟨t, ht⟩ : ∃ t, (ss.getD k (0, [])).1 = t := ⟨_, rfl⟩
      unfold one at hstep
      rw [ht, hn'] at hstep
      rw [ht] at d1
      obtain ⟨s, hs⟩ : ∃ s, plen (ss.take k) = s := ⟨_, rfl⟩
      rw [hs] at hstep ⊢
      clear hv x1 x2 hx hn' ht
      by_cases h2 : t = 2
      · subst h2
        simp only [if_true] at hstep
        have HS : Hid (plen (ss.take (k + 1)) = s + n') := hstep
        have hbb : s + n' ≤ 100000 := by omega
        clear hstep hle hs
        go_wp2_with fail
        go_roundw
        case rel => exact ⟨k + 1, by omega, by go_num, by rw [HS.out]; push_cast; rfl, B.alloc B.size _⟩
        case measure => simp [intOf]; omega
      · by_cases h1 : t = 1
        · subst h1
          simp only [show ¬ (1 : Int) = 2 by decide, if_false, if_true] at hstep
          have HS : Hid (plen (ss.take (k + 1)) = s + 1) := hstep
          have hbb : s + 1 ≤ 100000 := by omega
          clear hstep hle hs
          go_wp2_with fail
          go_roundw
          case rel => exact ⟨k + 1, by omega, by go_num, by rw [HS.out]; push_cast; rfl, B.alloc B.size _⟩
          case measure => simp [intOf]; omega
        · simp only [h2, h1, if_false, Nat.add_zero] at hstep
          have HS : Hid (plen (ss.take (k + 1)) = s) := hstep
          have q2 : (t == 2) = false := by simp [h2]
          have q1 : (t == 1) = false := by simp [h1]
          clear hstep hle hs h2 h1
          go_wp2_with fail
          go_roundw
          case rel => exact ⟨k + 1, by omega, by go_num, by rw [HS.out], B.alloc B.size _⟩
          case measure => simp [intOf]; omega
    · obtain rfl : k = n := by omega
      go_wp2_with fail
      go_ret
      refine ⟨?_, B⟩
      rw [← HN.out, List.take_length]
      rfl

theorem below_drewN (w : World) (m : Nat) : Below w.heap.size w (w.drewN m) := ⟨rfl, rfl, rfl, Nat.le_refl _, fun _ _ => rfl⟩

set_option maxRecDepth 100000 in
set_option maxHeartbeats 1000000 in
theorem ceq_same (v1 v2 : Value) (ss : List (Int × List Int)) (w : World) (h1 : SegsAt w v1 ss) (h2 : SegsAt w v2 ss) (hl : ss.length ≤ 100000) (hs : ∀ i, (ss.getD i (0, [])).2.length ≤ 100000) :
    Calls Ybaf.prog 19 #[v1, v2] w fun e w' => e = .returned (.bool true) ∧ Below w.heap.size w w' := by
  obtain ⟨a1, c1, rfl, hc1, _, hh1⟩ := h1
  obtain ⟨a2, c2, rfl, hc2, _, hh2⟩ := h2
  obtain ⟨n, hn⟩ : ∃ n, ss.length = n := ⟨_, rfl⟩
  rw [hn] at hc1 hc2 hh1 hh2 hl ⊢
  have H1 : Hid (0 < n → ∃ b off, a1 = some ⟨b, off, none⟩ ∧ ∀ i, i < n → w.cell? ⟨b, off + i * 2, none⟩ = some (.int .u8 (ss.getD i (0, [])).1) ∧ ∃ a' n' c', w.cell? ⟨b, off + i * 2 + 1, none⟩ = some (.slice a' n' c') ∧ NumsAt .u32 w (.slice a' n' c') (ss.getD i (0, [])).2) := hh1
  have H2 : Hid (0 < n → ∃ b off, a2 = some ⟨b, off, none⟩ ∧ ∀ i, i < n → w.cell? ⟨b, off + i * 2, none⟩ = some (.int .u8 (ss.getD i (0, [])).1) ∧ ∃ a' n' c', w.cell? ⟨b, off + i * 2 + 1, none⟩ = some (.slice a' n' c') ∧ NumsAt .u32 w (.slice a' n' c') (ss.getD i (0, [])).2) := hh2
  have HS : Hid (∀ i, (ss.getD i (0, [])).2.length ≤ 100000) := hs
  clear hh1 hh2 hn hs
  go_enter Ybaf.func19, Ybaf.ntmps19
  go_wp2_with fail
  go_loopw [13] (fun si wr => ∃ k : Nat, k ≤ n ∧ si = .int .i64 k ∧ Below w.heap.size w wr) (fun si _ => n - (intOf si).toNat)
  case atStart => exact ⟨0, Nat.zero_le _, rfl, Below.refl _ _⟩
  case round =>
    obtain ⟨k, hk, rfl, B⟩ := hrel
    by_cases hlt : k < n
    · obtain ⟨b1, o1, rfl, x1⟩ := H1.out (by omega)
      obtain ⟨b2, o2, rfl, x2⟩ := H2.out (by omega)
      obtain ⟨d1, a1', n1', c1', e1, N1⟩ := x1 k hlt
      obtain ⟨d2, a2', n2', c2', e2, N2⟩ := x2 k hlt
      have HE : Hid (∀ m, Calls Ybaf.prog 34 #[.slice a1' n1' c1', .slice a2' n2' c2'] (wr.drewN m) fun e w' => e = .returned (.bool true) ∧ ∃ j, w' = (wr.drewN m).drewN j) :=
        fun m => equal_nums _ _ _ _ ((N1.later B).later (below_drewN wr m)) ((N2.later B).later (below_drewN wr m)) (HS.out k)
      replace d1 := cell_later d1 B
      replace d2 := cell_later d2 B
      replace e1 := cell_later e1 B
      replace e2 := cell_later e2 B
      clear x1 x2 N1 N2
      obtain ⟨t, ht⟩ : ∃ t, (ss.getD k (0, [])).1 = t := ⟨_, rfl⟩
      rw [ht] at d1 d2
      clear ht
      go_wp2_with fail
      go_quiet ((go_at_call 34; exact Calls.quiet_of (HE.out _)))
      go_wp2_with fail
      go_roundw
      case rel => exact ⟨k + 1, by omega, by go_num, B.trans ((below_drewN wr nq).mono B.size)⟩
      case measure => simp [intOf]; omega
    · go_wp2_with fail
      go_ret
      exact ⟨rfl, B⟩
end Go.Proofs.YbulknbsFmt
