/-
  zzs0681bcheck answers true at every slice whose bytes are known.
-/
import Derived.Test.YbulknbsFmtSplit
import Derived.Deep.QuietTactic
import Derived.BigQuiet
import Derived.LaidEqlPtr
namespace Go.Proofs.YbulknbsFmt
open Go.RowKit

theorem equal_cells (b o m c1 c2 : Nat) (f : Nat → Int) (w : World) (hcell : ∀ i, i < m → w.cell? ⟨b, o + i, none⟩ = some (.int .u8 (f i))) :
    Calls Ybaf.prog 29 #[.slice (some ⟨b, o, none⟩) m c1, .slice (some ⟨b, o, none⟩) m c2] w fun e w' => e = .returned (.bool true) ∧ w' = w := by
  have hlen : ((List.range m).map f).length = m := by simp
  have hc : ∀ i, i < m → w.cell? ⟨b, o + i, none⟩ = some (.int .u8 (((List.range m).map f).getD i 0)) := fun i hi => by rw [hcell i hi]; simp [hi]
  exact equal_same _ _ _ w (run_convert_bytes_arg (P := Ybaf.prog) w 22 5 Ybaf.underlying22 Ybaf.underlying5 b o m c1 _ hlen hc 9 Ybaf.underlying9) (run_convert_bytes_arg (P := Ybaf.prog) w 22 5 Ybaf.underlying22 Ybaf.underlying5 b o m c2 _ hlen hc 9 Ybaf.underlying9)

theorem ptr_same (w : World) (a : Addr) : (binOp .eql 98 (.pointer (some a)) (.pointer (some a))).run Ybaf.prog w = .ok (.bool true) w := by
  obtain ⟨j, hj⟩ := Option.isSome_iff_exists.1 (show (Ybaf.prog.info? 5).isSome = true by kernel_rfl)
  exact run_eql_ptr_same w a Ybaf.underlying98 hj

def Refused (v0 : Value) (want : Int) (w : World) : Prop :=
  Calls Ybaf.prog 27 #[v0, .int .u8 want] w fun e w' => (∃ g, e = .returned (.tuple #[.slice none 0 0, .slice none 0 0, .iface 119 (.pointer (some g))])) ∧ Below w.heap.size w w'
def Not (v0 : Value) (want : Int) (w : World) : Prop :=
  Calls Ybaf.prog 28 #[v0, .int .u8 want] w fun e w' => e = .returned (.tuple #[.bool false, .int .i64 0]) ∧ Below w.heap.size w w'

set_option maxRecDepth 100000 in
set_option maxHeartbeats 400000 in
theorem check_bad (v0 : Value) (want : Int) (w : World) (hs : Refused v0 want w) (hm : ∀ w1, Below w.heap.size w w1 → Not v0 want w1) :
    Calls Ybaf.prog 12 #[v0, .int .u8 want] w fun e w' => e = .returned (.bool true) ∧ Below w.heap.size w w' := by
  have q22 : ∀ (w : World) (a : Option Addr) (n c n' c' : Nat), (binOp .eql 22 (.slice a n c) (.slice none n' c')).run Ybaf.prog w = .ok (.bool a.isNone) w := fun w a n c n' c' => Lib.run_eql_slice_nil w _ _ a n c n' c' Ybaf.underlying22
  have HM : Hid (∀ w1, Below w.heap.size w w1 → Not v0 want w1) := hm
  clear hm
  go_enter Ybaf.func12, Ybaf.ntmps12
  go_wp2_with fail
  refine Calls.mono hs ?_
  rintro e w1 ⟨⟨g, rfl⟩, B1⟩
  go_wp2_with fail
  refine Calls.mono (HM.out w1 B1) ?_
  rintro e w2 ⟨rfl, B2⟩
  have B3 : Below w.heap.size w w2 := B1.trans (B2.mono B1.size)
  clear B1 B2
  go_wp2
  go_ret
  exact ⟨rfl, B3⟩

set_option maxRecDepth 100000 in
set_option maxHeartbeats 1000000 in
theorem check_good (b off len cap n : Nat) (zs : List Int) (want : Int) (r : Option Nat) (w : World) (h19 : 19 ≤ len) (hl : len ≤ 2000000) (hlc : len ≤ cap) (hz : ∀ j : Nat, 0 ≤ zs[j]?.getD 0 ∧ zs[j]?.getD 0 ≤ 255) (hc : ∀ i, i < len → w.cell? ⟨b, off + i, none⟩ = some (.int .u8 (zs.getD i 0)))
    (hg : w.cell? ⟨2, 0, none⟩ = some (.map r)) (hm : MapOK w r) (G : Good zs len want) (hn : lenOf zs = (n : Int)) :
    Calls Ybaf.prog 12 #[.slice (some ⟨b, off, none⟩) len cap, .int .u8 want] w fun e w' => e = .returned (.bool true) ∧ Below w.heap.size w w' := by
  have S := split_any b off len cap zs want r w h19 hl hlc hz hc hg hm
  have hb : b < w.heap.size := World.block_lt_of_cell? _ _ (hc 0 (by omega))
  have hlo := G.lo
  have hhi := G.hi
  have hnt : (lenOf zs).toNat = n := by rw [hn]; rfl
  have HC : Hid (∀ i, i < len → w.cell? ⟨b, off + i, none⟩ = some (.int .u8 (zs.getD i 0))) := hc
  have HZ : Hid (∀ j : Nat, 0 ≤ zs[j]?.getD 0 ∧ zs[j]?.getD 0 ≤ 255) := hz
  have HG : Hid (Good zs len want) := G
  rw [hn] at hlo hhi
  rw [hnt] at S
  have HN : Hid (lenOf zs = (n : Int)) := hn
  have hnl : n ≤ len := by omega
  have hnc : (n : Int) ≤ (cap : Int) := by omega
  have hnl' : (n : Int) ≤ (len : Int) := by omega
  clear hn hnt hc hz hm hg G
  go_enter Ybaf.func12, Ybaf.ntmps12
  go_wp2_with fail
  refine Calls.mono S ?_
  rintro e w1 ⟨⟨-, rfl⟩ | ⟨hF, -⟩, B1⟩
  case inr => exact absurd HG.out hF
  clear S
  have HC1 : Hid (∀ i, i < len → w1.cell? ⟨b, off + i, none⟩ = some (.int .u8 (zs.getD i 0))) := fun i hi => (B1.cell (p := ⟨b, off + i, none⟩) hb).trans (HC.out i hi)
  have hb1 : b < w1.heap.size := Nat.lt_of_lt_of_le hb B1.size
  go_wp2_with fail
  refine Calls.mono (model_any b off len cap zs want w1 h19 hl HZ.out HC1.out) ?_
  rintro e w2 ⟨⟨-, rfl⟩ | ⟨hF, -⟩, B2⟩
  case inr => exact absurd HG.out hF
  have HC2 : Hid (∀ i, i < len → w2.cell? ⟨b, off + i, none⟩ = some (.int .u8 (zs.getD i 0))) := fun i hi => (B2.cell (p := ⟨b, off + i, none⟩) hb1).trans (HC1.out i hi)
  have B3 : Below w.heap.size w w2 := B1.trans (B2.mono B1.size)
  clear B1 B2 HC1 HC
  rw [HN.out]
  go_wp2_with fail
  have p1 : 0 < n := by omega
  have q98 := ptr_same
  have p2 : 0 < len := by omega
  have HE : Hid (∀ (k c1 c2 : Nat), Calls Ybaf.prog 29 #[.slice (some ⟨b, off, none⟩) n c1, .slice (some ⟨b, off, none⟩) n c2] (w2.drewN k) fun e w' => e = .returned (.bool true) ∧ w' = w2.drewN k) :=
    fun k c1 c2 => equal_cells b off n c1 c2 (fun i => zs.getD i 0) _ (fun i hi => by have := HC2.out i (by omega); simpa using this)
  by_cases hcn : cap = n
  · have e1 : restAt b off cap n = some ⟨b, off, none⟩ := by simp [restAt, hcn]
    have e2 : len = n := by omega
    subst hcn
    subst e2
    rw [e1]
    have HE2 : Hid (∀ (k c1 c2 : Nat), Calls Ybaf.prog 29 #[.slice (some ⟨b, off, none⟩) 0 c1, .slice (some ⟨b, off, none⟩) 0 c2] (w2.drewN k) fun e w' => e = .returned (.bool true) ∧ w' = w2.drewN k) :=
      fun k c1 c2 => equal_cells b off 0 c1 c2 (fun i => 0) _ (fun i hi => by omega)
    simp only [Nat.sub_self]
    go_quiet (first | (go_at_call_of 29 (Value.slice (some ⟨b, off, none⟩) 0 0); exact Calls.quiet_of_same (HE2.out _ _ _)) | (go_at_call_of 29 (Value.slice (some ⟨b, off, none⟩) len len); exact Calls.quiet_of_same (HE.out _ _ _)))
    go_wp2
    go_ret
    exact ⟨rfl, B3.trans ⟨rfl, rfl, rfl, Nat.le_refl _, fun _ _ => rfl⟩⟩
  · have e1 : restAt b off cap n = some ⟨b, off + n, none⟩ := by simp [restAt, hcn]
    rw [e1]
    have HE2 : Hid (∀ (k c1 c2 : Nat), Calls Ybaf.prog 29 #[.slice (some ⟨b, off + n, none⟩) (len - n) c1, .slice (some ⟨b, off + n, none⟩) (len - n) c2] (w2.drewN k) fun e w' => e = .returned (.bool true) ∧ w' = w2.drewN k) :=
      fun k c1 c2 => equal_cells b (off + n) (len - n) c1 c2 (fun i => zs.getD (n + i) 0) _ (fun i hi => by have := HC2.out (n + i) (by omega); rw [← Nat.add_assoc] at this; simpa using this)
    go_quiet (first | (go_at_call_of 29 (Value.slice (some ⟨b, off, none⟩) n cap); exact Calls.quiet_of_same (HE.out _ _ _)) | (go_at_call_of 29 (Value.slice (some ⟨b, off + n, none⟩) (len - n) (cap - n)); exact Calls.quiet_of_same (HE2.out _ _ _)))
    go_wp2
    go_ret
    exact ⟨rfl, B3.trans ⟨rfl, rfl, rfl, Nat.le_refl _, fun _ _ => rfl⟩⟩

/-- both at once: a slice shorter than a header, or one whose bytes are known -/
theorem check_any (a0 : Option Addr) (len cap : Nat) (want : Int) (r : Option Nat) (w : World) (hl : len ≤ 2000000) (hlc : len ≤ cap) (hg : w.cell? ⟨2, 0, none⟩ = some (.map r)) (hm : MapOK w r)
    (h : len < 19 ∨ ∃ b off zs, a0 = some ⟨b, off, none⟩ ∧ (∀ j : Nat, 0 ≤ zs[j]?.getD 0 ∧ zs[j]?.getD 0 ≤ 255) ∧ ∀ i, i < len → w.cell? ⟨b, off + i, none⟩ = some (.int .u8 (List.getD zs i 0))) :
    Calls Ybaf.prog 12 #[.slice a0 len cap, .int .u8 want] w fun e w' => e = .returned (.bool true) ∧ Below w.heap.size w w' := by
  by_cases h19 : len < 19
  · exact check_bad _ want w (split_short a0 len cap want r w h19 hg hm) fun w1 _ => Calls.mono (model_short a0 len cap want w1 h19) (by rintro e w' ⟨rfl, rfl⟩; exact ⟨rfl, Below.refl _ _⟩)
  · rcases h with h | ⟨b, off, zs, rfl, hz, hc⟩
    · exact absurd h h19
    · have h19' : 19 ≤ len := by omega
      have hb : b < w.heap.size := World.block_lt_of_cell? _ _ (hc 0 (by omega))
      by_cases G : Good zs len want
      · exact check_good b off len cap (lenOf zs).toNat zs want r w h19' hl hlc hz hc hg hm G (by have := G.lo; omega)
      · refine check_bad _ want w (Calls.mono (split_any b off len cap zs want r w h19' hl hlc hz hc hg hm) ?_) fun w1 B1 => Calls.mono (model_any b off len cap zs want w1 h19' hl hz fun i hi => (B1.cell (p := ⟨b, off + i, none⟩) hb).trans (hc i hi)) ?_
        · rintro e w' ⟨⟨hG, -⟩ | ⟨-, hE⟩, B⟩
          · exact absurd hG G
          · exact ⟨hE, B⟩
        · rintro e w' ⟨⟨hG, -⟩ | ⟨-, hE⟩, B⟩
          · exact absurd hG G
          · exact ⟨hE, B⟩
end Go.Proofs.YbulknbsFmt
