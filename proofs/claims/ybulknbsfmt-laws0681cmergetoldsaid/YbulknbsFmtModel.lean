/-
  A map of names looked up; BigEndian.Uint16; bytes.Equal of equal bytes; the plain rule, and zzs0681bmodel.
-/
import Derived.Test.YbulknbsFmtErrorf
import Derived.Laws.BytesArg
import Derived.Lib.EndianBits
import Derived.Deep.QuietTactic
import Derived.BigQuiet
import Derived.Deep.RegionWith
namespace Go.Proofs.YbulknbsFmt
open Go.RowKit

/-- a map[uint8]string that can be read: nil, or entries of a byte and a string -/
def MapOK (w : World) (r : Option Nat) : Prop := ∀ b, r = some b → ∃ es clock, w.heap[b]? = some (.map es clock) ∧ ∀ e ∈ es.toList, (∃ k, e.key = .int .u8 k) ∧ ∃ s, e.val = .string s

theorem MapOK.later {w w' : World} {r : Option Nat} (h : MapOK w r) (b : Below w.heap.size w w') : MapOK w' r := fun x hx => by
  obtain ⟨es, clock, h1, h2⟩ := h x hx
  have hlt : x < w.heap.size := by
    rcases Nat.lt_or_ge x w.heap.size with hh | hh
    · exact hh
    · rw [Array.getElem?_eq_none hh] at h1; cases h1
  exact ⟨es, clock, by rw [b.block x hlt]; exact h1, h2⟩

theorem findNow_any (k : Int) : ∀ (es : List MapEntry) (i : Nat), (∀ e ∈ es, (∃ k, e.key = .int .u8 k) ∧ ∃ s, e.val = .string s) →
    Instr.findNow (.int .u8) (.int .u8 k) es i = some none ∨ ∃ j s, Instr.findNow (.int .u8) (.int .u8 k) es i = some (some (j, .string s))
  | [], _, _ => Or.inl rfl
  | e :: es, i, h => by
    obtain ⟨⟨k', hk⟩, s, hs⟩ := h e (by simp)
    unfold Instr.findNow
    rw [hk]
    simp only [Instr.sameNow, if_true]
    cases hb : (k == k') with
    | true => exact Or.inr ⟨i, s, by rw [hs]⟩
    | false => exact findNow_any k es (i + 1) (fun x hx => h x (by simp [hx]))

theorem look_any (w : World) (r : Option Nat) (k : Int) (h : MapOK w r) : ∃ s, (Instr.lookup 117 (.map r) (.int .u8 k) false).run Ybaf.prog w = .ok (.string s) w := by
  have hck : ∀ b : Bool, (Instr.checkKey b 10000 5 (.int .u8 k)).run Ybaf.prog w = .ok () w := by
    intro b
    unfold Instr.checkKey
    simp [run_underlying Ybaf.underlying5]
  cases r with
  | none => exact ⟨⟨#[]⟩, by simp [Instr.lookup, run_underlying Ybaf.underlying117, hck, Instr.findKey, run_underlying Ybaf.underlying5, Instr.findNow]⟩
  | some b =>
    obtain ⟨es, clock, h1, h2⟩ := h b rfl
    have hg : (getObj b).run Ybaf.prog w = .ok (.map es clock) w := by simp [getObj, Sem.run, h1]
    rcases findNow_any k es.toList 0 h2 with hf | ⟨j, s, hf⟩
    · exact ⟨⟨#[]⟩, by simp [Instr.lookup, run_underlying Ybaf.underlying117, hg, hck, Instr.findKey, run_underlying Ybaf.underlying5, hf]⟩
    · exact ⟨s, by simp [Instr.lookup, run_underlying Ybaf.underlying117, hg, hck, Instr.findKey, run_underlying Ybaf.underlying5, hf]⟩

set_option maxRecDepth 100000 in
set_option maxHeartbeats 400000 in
theorem uint16_any (g o c : Nat) (x y : Int) (w : World) (c0 : w.cell? ⟨g, o, none⟩ = some (.int .u8 x)) (c1 : w.cell? ⟨g, o + 1, none⟩ = some (.int .u8 y)) (hx : 0 ≤ x ∧ x ≤ 255) (hy : 0 ≤ y ∧ y ≤ 255) :
    Calls Ybaf.prog 37 #[.agg #[], .slice (some ⟨g, o, none⟩) 2 c] w fun e w' => e = .returned (.int .u16 (y + x * 256)) ∧ Below w.heap.size w w' := by
  have hg : g < w.heap.size := World.block_lt_of_cell? _ _ c0
  go_enter Ybaf.func37, Ybaf.ntmps37
  go_wp2
  go_quiet (fail)
  go_wp2
  go_ret
  refine ⟨?_, ((Below.refl _ w).alloc (Nat.le_refl _) _).trans ⟨rfl, rfl, rfl, Nat.le_refl _, fun _ _ => rfl⟩⟩
  simp (disch := omega) only [u16_or8]
  rfl

set_option maxRecDepth 100000 in
set_option maxHeartbeats 400000 in
theorem equal_same (v1 v2 : Value) (s : ByteArray) (w : World) (h1 : (convert 22 9 v1).run Ybaf.prog w = .ok (.string s) w) (h2 : (convert 22 9 v2).run Ybaf.prog w = .ok (.string s) w) :
    Calls Ybaf.prog 29 #[v1, v2] w fun e w' => e = .returned (.bool true) ∧ w' = w := by
  go_enter Ybaf.func29, Ybaf.ntmps29
  go_wp2
  go_ret
  exact ⟨by simp, rfl⟩

theorem or_i64 (x y : Int) (hx : 0 ≤ x ∧ x ≤ 255) (hy : 0 ≤ y ∧ y ≤ 255) : bits .or .i64 (x * 256) y = y + x * 256 := by
  have := bits_join .i64 63 (by decide) (fun n h0 h1 => by rw [IntKind.wrap_i64]; omega) 8 (x * 256) y (by omega) (by omega) (by omega) (by omega) (by omega) (by omega)
  omega

/-- the rule: a header of 19 bytes, a marker of 16 ones, the length n, the type -/
def lenOf (zs : List Int) : Int := zs[17]?.getD 0 + zs[16]?.getD 0 * 256
structure Good (zs : List Int) (len : Nat) (want : Int) : Prop where
  h19 : 19 ≤ len
  mark : ∀ i, i < 16 → zs[i]?.getD 0 = 255
  lo : 19 ≤ lenOf zs
  hi : lenOf zs ≤ len
  typ : zs[18]?.getD 0 = want

set_option maxRecDepth 100000 in
set_option maxHeartbeats 1000000 in
theorem model_any (b off len cap : Nat) (zs : List Int) (want : Int) (w : World) (h19 : 19 ≤ len) (hl : len ≤ 2000000) (hz : ∀ j : Nat, 0 ≤ zs[j]?.getD 0 ∧ zs[j]?.getD 0 ≤ 255) (hc : ∀ i, i < len → w.cell? ⟨b, off + i, none⟩ = some (.int .u8 (zs.getD i 0))) :
    Calls Ybaf.prog 28 #[.slice (some ⟨b, off, none⟩) len cap, .int .u8 want] w fun e w' => ((Good zs len want ∧ e = .returned (.tuple #[.bool true, .int .i64 (lenOf zs)])) ∨ (¬ Good zs len want ∧ e = .returned (.tuple #[.bool false, .int .i64 0]))) ∧ Below w.heap.size w w' := by
  have HZ : Hid (∀ j : Nat, 0 ≤ zs[j]?.getD 0 ∧ zs[j]?.getD 0 ≤ 255) := hz
  have HC : Hid (∀ i, i < len → w.cell? ⟨b, off + i, none⟩ = some (.int .u8 (zs.getD i 0))) := hc
  have q16 := hz 16
  have q17 := hz 17
  clear hz hc
  go_enter Ybaf.func28, Ybaf.ntmps28
  go_wp2
  go_loop [6] (fun i => ∃ k : Nat, k ≤ 16 ∧ i = .int .i64 k ∧ Hid (∀ j, j < k → zs[j]?.getD 0 = 255)) (fun i => 16 - (intOf i).toNat)
  case atStart => exact ⟨0, Nat.zero_le _, rfl, fun j hj => by omega⟩
  case round =>
    obtain ⟨k, hk, rfl, HK⟩ := hrel
    by_cases hlt : k < 16
    · have hck := HC.out k (by omega)
      by_cases hff : zs[k]?.getD 0 = 255
      · have q : ((zs[k]?.getD 0) != 255) = false := by simp [hff]
        have HF : Hid (zs[k]?.getD 0 = 255) := hff
        clear hff
        go_wp2
        go_round
        case rel => exact ⟨k + 1, by omega, by go_num, fun j hj => by
            by_cases e : j = k
            · subst e; exact HF.out
            · exact HK.out j (by omega)⟩
        case measure => simp [intOf]; omega
      · have q : ((zs[k]?.getD 0) != 255) = true := by simp [hff]
        have HF : Hid (¬ zs[k]?.getD 0 = 255) := hff
        clear hff
        go_wp2
        go_ret2
        exact ⟨Or.inr ⟨fun G => HF.out (G.mark k hlt), rfl⟩, Below.refl _ _⟩
    · have c16 := HC.out 16 (by omega)
      have c17 := HC.out 17 (by omega)
      have c18 := HC.out 18 (by omega)
      have HM : Hid (∀ j, j < 16 → zs[j]?.getD 0 = 255) := fun j hj => HK.out j (by omega)
      obtain ⟨n, hn⟩ : ∃ n, lenOf zs = n := ⟨_, rfl⟩
      have HN : Hid (lenOf zs = n) := hn
      have hor : bits .or .i64 (zs[16]?.getD 0 * 256) (zs[17]?.getD 0) = n := by rw [or_i64 _ _ q16 q17, ← hn]; rfl
      have hn0 : 0 ≤ n ∧ n ≤ 65535 := by rw [← hn]; unfold lenOf; omega
      go_wp2
      go_region
      clear hn hor q16 q17 c16 c17
      by_cases h1 : n < 19
      · go_wp2
        go_ret2
        exact ⟨Or.inr ⟨fun G => by have := G.lo; rw [HN.out] at this; omega, rfl⟩, (Below.refl _ _).drew⟩
      · by_cases h2 : (len : Int) < n
        · have d1 : decide (n < 19) = false := by simpa using h1
          go_wp2
          go_ret2
          exact ⟨Or.inr ⟨fun G => by have := G.hi; rw [HN.out] at this; omega, rfl⟩, (Below.refl _ _).drew⟩
        · have d1 : decide (n < 19) = false := by simpa using h1
          have d2 : decide ((len : Int) < n) = false := by simpa using h2
          by_cases h3 : zs[18]?.getD 0 = want
          · have q : ((zs[18]?.getD 0) != want) = false := by simp [h3]
            have HF : Hid (zs[18]?.getD 0 = want) := h3
            clear h3
            go_wp2
            go_ret2
            exact ⟨Or.inl ⟨⟨h19, HM.out, by rw [HN.out]; omega, by rw [HN.out]; omega, HF.out⟩, by rw [HN.out]; rfl⟩, (Below.refl _ _).drew⟩
          · have q : ((zs[18]?.getD 0) != want) = true := by simp [h3]
            have HF : Hid (¬ zs[18]?.getD 0 = want) := h3
            clear h3
            go_wp2
            go_ret2
            exact ⟨Or.inr ⟨fun G => HF.out G.typ, rfl⟩, (Below.refl _ _).drew⟩
end Go.Proofs.YbulknbsFmt
