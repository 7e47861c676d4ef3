/-
  slices.IndexFunc with the method value confed.
-/
import Derived.Test.YbulknbsFmtPath
namespace Go.Proofs.YbulknbsFmt
open Go.RowKit

/-- a confederation's segment -/
def conf (s : Int × List Int) : Bool := s.1 == 3 || s.1 == 4

set_option maxRecDepth 100000 in
set_option maxHeartbeats 1000000 in
theorem index_any (v : Value) (ss : List (Int × List Int)) (w : World) (h : SegsAt w v ss) (hl : ss.length ≤ 100000) :
    Calls Ybaf.prog 43 #[v, .func (.func 32) #[] #[]] w fun e w' => ((∃ k : Nat, e = .returned (.int .i64 k) ∧ k < ss.length ∧ conf (ss.getD k (0, [])) = true ∧ ∀ i, i < k → conf (ss.getD i (0, [])) = false) ∨ (e = .returned (.int .i64 (-1)) ∧ ∀ i, i < ss.length → conf (ss.getD i (0, [])) = false)) ∧ Below w.heap.size w w' := by
  obtain ⟨a, c, rfl, hc, hn, hh⟩ := h
  obtain ⟨n, hnn⟩ : ∃ n, ss.length = n := ⟨_, rfl⟩
  rw [hnn] at hc hh hl ⊢
  have H : Hid (0 < n → ∃ b off, a = some ⟨b, off, none⟩ ∧ ∀ i, i < n → w.cell? ⟨b, off + i * 2, none⟩ = some (.int .u8 (ss.getD i (0, [])).1) ∧ ∃ a' n' c', w.cell? ⟨b, off + i * 2 + 1, none⟩ = some (.slice a' n' c') ∧ NumsAt .u32 w (.slice a' n' c') (ss.getD i (0, [])).2) := hh
  clear hh hnn
  go_enter Ybaf.func43, Ybaf.ntmps43
  go_wp2_with fail
  go_loopw [8] (fun si wr => ∃ k : Nat, k ≤ n ∧ si = .int .i64 k ∧ Hid (∀ i, i < k → conf (ss.getD i (0, [])) = false) ∧ Below w.heap.size w wr) (fun si _ => n - (intOf si).toNat)
  case atStart => exact ⟨0, Nat.zero_le _, rfl, fun i hi => by omega, Below.refl _ _⟩
  case round =>
    obtain ⟨k, hk, rfl, HC, B⟩ := hrel
    by_cases hlt : k < n
    · obtain ⟨b, off, rfl, hx⟩ := H.out (by omega)
      obtain ⟨d1, a', n', c', d2, _⟩ := hx k hlt
      replace d1 := cell_later d1 B
      replace d2 := cell_later d2 B
      obtain ⟨q, hq⟩ : ∃ q, conf (ss.getD k (0, [])) = q := ⟨_, rfl⟩
      have HQ : Hid (conf (ss.getD k (0, [])) = q) := hq
      have hq2 : ((ss.getD k (0, [])).1 == 3 || (ss.getD k (0, [])).1 == 4) = q := hq
      obtain ⟨t, ht⟩ : ∃ t, (ss.getD k (0, [])).1 = t := ⟨_, rfl⟩
      rw [ht] at d1 hq2
      clear hx hq ht
      go_wp2_with fail
      refine (confed_any t a' n' c' _).mono ?_
      rintro e w2 ⟨rfl, B2⟩
      have B3 : Below w.heap.size w w2 := B.trans (B2.mono B.size)
      rw [hq2]
      clear hq2 B2
      cases q with
      | true =>
        go_wp2_with fail
        go_ret
        exact ⟨Or.inl ⟨k, rfl, hlt, HQ.out, HC.out⟩, B3⟩
      | false =>
        go_wp2_with fail
        go_roundw
        case rel => exact ⟨k + 1, by omega, by go_num, fun i hi => by
          by_cases e : i = k
          · subst e; exact HQ.out
          · exact HC.out i (by omega), B3⟩
        case measure => simp [intOf]; omega
    · go_wp2_with fail
      go_ret
      exact ⟨Or.inr ⟨rfl, fun i hi => HC.out i (by omega)⟩, B⟩
end Go.Proofs.YbulknbsFmt
