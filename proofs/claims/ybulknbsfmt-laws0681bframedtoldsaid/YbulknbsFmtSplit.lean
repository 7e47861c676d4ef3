/-
  splitBGP against the plain rule.
-/
import Derived.Test.YbulknbsFmtModel
namespace Go.Proofs.YbulknbsFmt
open Go.RowKit

set_option maxRecDepth 100000 in
set_option maxHeartbeats 400000 in
theorem model_short (a0 : Option Addr) (len cap : Nat) (want : Int) (w : World) (h19 : len < 19) :
    Calls Ybaf.prog 28 #[.slice a0 len cap, .int .u8 want] w fun e w' => e = .returned (.tuple #[.bool false, .int .i64 0]) ∧ w' = w := by
  go_enter Ybaf.func28, Ybaf.ntmps28
  go_wp2
  go_ret2
  exact ⟨rfl, rfl⟩

set_option maxRecDepth 100000 in
set_option maxHeartbeats 1000000 in
theorem split_short (a0 : Option Addr) (len cap : Nat) (want : Int) (r : Option Nat) (w : World) (h19 : len < 19) (hg : w.cell? ⟨2, 0, none⟩ = some (.map r)) (hm : MapOK w r) :
    Calls Ybaf.prog 27 #[.slice a0 len cap, .int .u8 want] w fun e w' => (∃ g, e = .returned (.tuple #[.slice none 0 0, .slice none 0 0, .iface 119 (.pointer (some g))])) ∧ Below w.heap.size w w' := by
  obtain ⟨s, hlk⟩ := look_any w r want hm
  go_enter Ybaf.func27, Ybaf.ntmps27
  go_wp2_with fail
  refine (errorf1 s len 19 w.heap.size _ (by simp) (by simp) (by simp)).mono ?_
  rintro e w2 ⟨⟨g, rfl⟩, B⟩
  go_wp2_with fail
  go_ret3
  exact ⟨⟨g, rfl⟩, ((Below.refl _ _).alloc (Nat.le_refl _) _).trans (B.mono (by simp))⟩

/-- where 'b[n:]' begins -/
def restAt (b off cap n : Nat) : Option Addr := if cap = n then some ⟨b, off, none⟩ else some ⟨b, off + n, none⟩

set_option maxRecDepth 100000 in
set_option maxHeartbeats 1000000 in
theorem split_any (b off len cap : Nat) (zs : List Int) (want : Int) (r : Option Nat) (w : World) (h19 : 19 ≤ len) (hl : len ≤ 2000000) (hlc : len ≤ cap) (hz : ∀ j : Nat, 0 ≤ zs[j]?.getD 0 ∧ zs[j]?.getD 0 ≤ 255) (hc : ∀ i, i < len → w.cell? ⟨b, off + i, none⟩ = some (.int .u8 (zs.getD i 0)))
    (hg : w.cell? ⟨2, 0, none⟩ = some (.map r)) (hm : MapOK w r) :
    Calls Ybaf.prog 27 #[.slice (some ⟨b, off, none⟩) len cap, .int .u8 want] w fun e w' =>
      ((Good zs len want ∧ e = .returned (.tuple #[.slice (some ⟨b, off, none⟩) (lenOf zs).toNat cap, .slice (restAt b off cap (lenOf zs).toNat) (len - (lenOf zs).toNat) (cap - (lenOf zs).toNat), .nilIface])) ∨
       (¬ Good zs len want ∧ ∃ g, e = .returned (.tuple #[.slice none 0 0, .slice none 0 0, .iface 119 (.pointer (some g))]))) ∧ Below w.heap.size w w' := by
  obtain ⟨s, hlk⟩ := look_any w r want hm
  have hb : b < w.heap.size := World.block_lt_of_cell? _ _ (hc 0 (by omega))
  have HZ : Hid (∀ j : Nat, 0 ≤ zs[j]?.getD 0 ∧ zs[j]?.getD 0 ≤ 255) := hz
  have HC : Hid (∀ i, i < len → w.cell? ⟨b, off + i, none⟩ = some (.int .u8 (zs.getD i 0))) := hc
  have q16 := hz 16
  have q17 := hz 17
  clear hz hc hm
  go_enter Ybaf.func27, Ybaf.ntmps27
  go_wp2_with fail
  go_loop [28] (fun i => ∃ k : Nat, k ≤ 16 ∧ i = .int .i64 k ∧ Hid (∀ j, j < k → zs[j]?.getD 0 = 255)) (fun i => 16 - (intOf i).toNat)
  case atStart => exact ⟨0, Nat.zero_le _, rfl, fun j hj => by omega⟩
  case round =>
    obtain ⟨k, hk, rfl, HK⟩ := hrel
    by_cases hlt : k < 16
    · have hck := HC.out k (by omega)
      by_cases hff : zs[k]?.getD 0 = 255
      · have q : ((zs[k]?.getD 0) != 255) = false := by simp [hff]
        have HF : Hid (zs[k]?.getD 0 = 255) := hff
        clear hff
        go_wp2_with fail
        go_round
        case rel => exact ⟨k + 1, by omega, by go_num, fun j hj => by
            by_cases e : j = k
            · subst e; exact HF.out
            · exact HK.out j (by omega)⟩
        case measure => simp [intOf]; omega
      · have q : ((zs[k]?.getD 0) != 255) = true := by simp [hff]
        have HF : Hid (¬ zs[k]?.getD 0 = 255) := hff
        clear hff
        go_wp2_with fail
        refine (errorf2 s w.heap.size _ (by simp)).mono ?_
        rintro e w2 ⟨⟨g, rfl⟩, B⟩
        go_wp2_with fail
        go_ret3
        exact ⟨Or.inr ⟨fun G => HF.out (G.mark k hlt), g, rfl⟩, ((Below.refl _ _).alloc (Nat.le_refl _) _).trans (B.mono (by simp))⟩
    · have c16 := HC.out 16 (by omega)
      have c17 := HC.out 17 (by omega)
      have c18 := HC.out 18 (by omega)
      have n16 : ¬ cap = 16 := by omega
      have q18 : (18 : Int) ≤ (cap : Int) := by omega
      have HM : Hid (∀ j, j < 16 → zs[j]?.getD 0 = 255) := fun j hj => HK.out j (by omega)
      obtain ⟨n, hn⟩ : ∃ n : Nat, lenOf zs = (n : Int) := ⟨(lenOf zs).toNat, by unfold lenOf; omega⟩
      have HN : Hid (lenOf zs = (n : Int)) := hn
      have hv : zs[17]?.getD 0 + zs[16]?.getD 0 * 256 = (n : Int) := hn
      have hn0 : n ≤ 65535 := by unfold lenOf at hn; omega
      have HNt : Hid ((lenOf zs).toNat = n) := by show _ = _; rw [hn]; rfl
      go_wp2_with fail
      go_region_with (go_at_call 37; refine (uint16_any b (off + 16) (cap - 16) (zs[16]?.getD 0) (zs[17]?.getD 0) w.drew c16 c17 q16 q17).mono ?_; rintro e w2 ⟨rfl, B2⟩; rw [hv])
      all_goals
        have B3 : Below w.heap.size w w2 := (Below.refl _ _).drew.trans (B2.mono (Nat.le_refl _))
        have d18 : w2.cell? ⟨b, off + 18, none⟩ = some (.int .u8 (zs.getD 18 0)) := (B3.cell (p := ⟨b, off + 18, none⟩) hb).trans c18
        have hsz : w.heap.size ≤ w2.heap.size := B3.size
        clear hn hv q16 q17 c16 c17 c18 B2
        by_cases h1 : n < 19
        · go_wp2_with fail
          refine (errorf3 s n len w2.heap.size _ (by simp) (by simp) (by simp)).mono ?_
          rintro e w3 ⟨⟨g, rfl⟩, B⟩
          go_wp2_with fail
          go_ret3
          exact ⟨Or.inr ⟨fun G => by have := G.lo; rw [HN.out] at this; omega, g, rfl⟩, B3.trans (((Below.refl _ _).alloc (Nat.le_refl _) _).trans (B.mono (by simp)) |>.mono hsz)⟩
        · have d1 : decide ((n : Int) < 19) = false := by simp; omega
          by_cases h2 : len < n
          · go_wp2_with fail
            refine (errorf3 s n len w2.heap.size _ (by simp) (by simp) (by simp)).mono ?_
            rintro e w3 ⟨⟨g, rfl⟩, B⟩
            go_wp2_with fail
            go_ret3
            exact ⟨Or.inr ⟨fun G => by have := G.hi; rw [HN.out] at this; omega, g, rfl⟩, B3.trans (((Below.refl _ _).alloc (Nat.le_refl _) _).trans (B.mono (by simp)) |>.mono hsz)⟩
          · have d2 : decide (len < n) = false := by simp; omega
            have hnl : n ≤ len := by omega
            have hnc : (n : Int) ≤ (cap : Int) := by omega
            have hnl' : (n : Int) ≤ (len : Int) := by omega
            by_cases h3 : zs[18]?.getD 0 = want
            · have q : ((zs[18]?.getD 0) != want) = false := by simp [h3]
              have HG : Hid (Good zs len want) := ⟨h19, HM.out, by rw [HN.out]; omega, by rw [HN.out]; omega, h3⟩
              clear h3
              by_cases hcn : cap = n
              · go_wp2_with fail
                go_region
                go_wp2_with fail
                go_ret3
                exact ⟨Or.inl ⟨HG.out, by simp [HNt.out, restAt, hcn]⟩, B3.drew⟩
              · go_wp2_with fail
                go_region
                go_wp2_with fail
                go_ret3
                exact ⟨Or.inl ⟨HG.out, by simp [HNt.out, restAt, hcn]⟩, B3.drew⟩
            · have q : ((zs[18]?.getD 0) != want) = true := by simp [h3]
              have HF : Hid (¬ zs[18]?.getD 0 = want) := h3
              clear h3
              go_wp2_with fail
              refine (errorf4 (zs[18]?.getD 0) s w2.heap.size _ (by simp) (by simp)).mono ?_
              rintro e w3 ⟨⟨g, rfl⟩, B⟩
              go_wp2_with fail
              go_ret3
              exact ⟨Or.inr ⟨fun G => HF.out G.typ, g, rfl⟩, B3.trans (((Below.refl _ _).alloc (Nat.le_refl _) _).trans (B.mono (by simp)) |>.mono hsz)⟩
end Go.Proofs.YbulknbsFmt
