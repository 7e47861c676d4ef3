/-
  Slices of numbers: slices.Clone, slices.Equal; the segment's type.
-/
import Derived.Test.YbulknbsFmtErrorf
import Derived.OwnWalk
import Derived.Deep.AppendLies
import Derived.Deep.QuietTactic
import Derived.BigQuiet
import Derived.RowKit3
namespace Go.Proofs.YbulknbsFmt
open Go.RowKit

/-- a slice of numbers of one kind, as it reads -/
def NumsAt (k : IntKind) (w : World) (v : Value) (xs : List Int) : Prop :=
  ∃ a c, v = .slice a xs.length c ∧ xs.length ≤ c ∧ (a = none → c = 0) ∧ (0 < xs.length → ∃ b off, a = some ⟨b, off, none⟩ ∧ ∀ i, i < xs.length → w.cell? ⟨b, off + i, none⟩ = some (.int k (xs.getD i 0)))

theorem cell_later {w w' : World} {b o : Nat} {v : Value} (h : w.cell? ⟨b, o, none⟩ = some v) (B : Below w.heap.size w w') : w'.cell? ⟨b, o, none⟩ = some v :=
  (B.cell (p := ⟨b, o, none⟩) (World.block_lt_of_cell? _ _ h)).trans h

theorem NumsAt.later {k : IntKind} {w w' : World} {v : Value} {xs : List Int} (h : NumsAt k w v xs) (B : Below w.heap.size w w') : NumsAt k w' v xs := by
  obtain ⟨a, c, rfl, hc, hn, h⟩ := h
  refine ⟨a, c, rfl, hc, hn, fun hp => ?_⟩
  obtain ⟨b, off, rfl, hh⟩ := h hp
  exact ⟨b, off, rfl, fun i hi => cell_later (hh i hi) B⟩

theorem info42p : (Ybaf.prog.info? 42).map (fun i => (i.zero, i.size, i.bytes)) = some (some (.int .u32 0), 1, 4) := by kernel_rfl
theorem info5q : (Ybaf.prog.info? 5).map (fun i => (i.zero, i.size, i.bytes)) = some (some (.int .u8 0), 1, 1) := by kernel_rfl

set_option maxRecDepth 100000 in
set_option maxHeartbeats 400000 in
theorem cty_any (t : Nat) (ht : t ≤ 255) (w : World) : Calls Ybaf.prog 13 #[.int .u8 t] w fun e w' => e = .returned (.int .u8 ((t % 4 + 1 : Nat) : Int)) ∧ w' = w := by
  go_enter Ybaf.func13, Ybaf.ntmps13
  go_wp2
  go_ret
  refine ⟨?_, rfl⟩
  simp

theorem news_of {k : IntKind} {w : World} {b off : Nat} {xs : List Int} (h : ∀ i, i < xs.length → w.cell? ⟨b, off + i, none⟩ = some (.int k (xs.getD i 0))) : ∀ j u, (xs.map (Value.int k))[j]? = some u → w.cell? ((⟨b, off, none⟩ : Addr).add j) = some u := fun j u hu => by
  by_cases hj : j < xs.length
  · have hadd : (⟨b, off, none⟩ : Addr).add j = ⟨b, off + j, none⟩ := by unfold Addr.add; split <;> simp_all
    rw [hadd, h j hj]
    simpa [hj] using hu
  · rw [List.getElem?_eq_none (by simp; omega)] at hu; cases hu

theorem nums_of_own {k : IntKind} {w : World} {base g n cap : Nat} {e : TypeId} {xs : List Int} (h : w.ownsRow base e 1 (.slice (some ⟨g, 0, none⟩) n cap) n (xs.map (Value.int k))) : NumsAt k w (.slice (some ⟨g, 0, none⟩) n cap) xs := by
  have hl : xs.length = n := by have := h.1; simpa using this
  subst hl
  have hc : xs.length ≤ cap := by
    rcases h.2 with ⟨h0, _⟩ | ⟨g', cap', cur, hv, _, _, hnc, _⟩
    · cases h0
    · cases hv; exact hnc
  exact ⟨_, cap, rfl, hc, (fun h => by cases h), fun _ => ⟨g, 0, rfl, fun i hi => by rw [Nat.zero_add, h.cellAt i (by omega)]; simp [hi]⟩⟩

set_option maxRecDepth 100000 in
set_option maxHeartbeats 400000 in
theorem clone58 (v : Value) (xs : List Int) (w : World) (h : NumsAt .u32 w v xs) (hx : xs.length ≤ 100000) :
    Calls Ybaf.prog 15 #[v] w fun e w' => ∃ v', e = .returned v' ∧ NumsAt .u32 w' v' xs ∧ Below w.heap.size w w' ∧ ∀ b, v'.ownBlock = some b → w.heap.size ≤ b ∧ b < w'.heap.size := by
  have q58 : ∀ (w : World) (a : Option Addr) (n c n' c' : Nat), (binOp .eql 58 (.slice a n c) (.slice none n' c')).run Ybaf.prog w = .ok (.bool a.isNone) w := fun w a n c n' c' => Lib.run_eql_slice_nil w _ _ a n c n' c' Ybaf.underlying58
  obtain ⟨i0, hi, hz0, hz1, hz2⟩ := info_parts info42p
  obtain ⟨a, c, rfl, hc, hn, hh⟩ := h
  by_cases hp : 0 < xs.length
  · obtain ⟨b, off, rfl, hcell⟩ := hh hp
    have hb : b < w.heap.size := World.block_lt_of_cell? _ _ (hcell 0 hp)
    have HO : Hid ((w.alloc (.cells #[] 42)).ownsRow w.heap.size 42 1 (.slice (some ⟨w.heap.size, 0, none⟩) 0 0) 0 []) :=
      ⟨rfl, .inr ⟨w.heap.size, 0, #[], rfl, Nat.le_refl _, by show (w.heap.push _)[w.heap.size]? = _; simp, Nat.le_refl _, Nat.zero_le _, rfl, rfl⟩⟩
    have HC : Hid (∀ j u, (xs.map (Value.int .u32))[j]? = some u → (w.alloc (.cells #[] 42)).cell? ((⟨b, off, none⟩ : Addr).add j) = some u) :=
      news_of (fun i hi => cell_later (hcell i hi) ((Below.refl _ _).alloc (Nat.le_refl _) _))
    clear hcell hh
    obtain ⟨n, hnn⟩ : ∃ n, xs.length = n := ⟨_, rfl⟩
    have HN : Hid (xs.length = n) := hnn
    rw [hnn] at hc hp hx ⊢
    clear hnn
    go_enter Ybaf.func15, Ybaf.ntmps15
    go_wp2_with (at_builtin; refine wpList_append_lies _ rfl (.tmp 5) (.tmp 6) 58 rfl w.heap.size 42 i0 (.int .u32 0) 1 4 Ybaf.underlying58 hi hz0 hz1 hz2 rfl (by decide) _ 0 [] rfl HO.out ⟨b, off, none⟩ n c (xs.map (Value.int .u32)) rfl (by simp [HN.out]) HC.out (ints_oneCell _ _) (by omega) (by unfold maxLen; omega) (by omega) (by simp) _ rfl ?_; intro d cap w1 hown hgrow hat hlt)
    go_ret
    rw [Nat.zero_add, List.nil_append] at hown
    refine ⟨_, rfl, ?_, ((Below.refl _ _).alloc (Nat.le_refl _) _).grown hgrow (by simp) (fun k hk => by cases hk; exact Nat.le_refl _), hown.lt⟩
    exact nums_of_own hown
  · obtain rfl : xs = [] := List.eq_nil_of_length_eq_zero (by omega)
    simp only [List.length_nil] at *
    clear hh hx hp
    cases a with
    | none =>
      go_enter Ybaf.func15, Ybaf.ntmps15
      go_wp2
      go_ret
      exact ⟨_, rfl, ⟨none, 0, rfl, Nat.le_refl _, (fun _ => rfl), fun h => absurd h (by simp)⟩, Below.refl _ _, fun b hb => by cases hb⟩
    | some ad =>
      have HO : Hid ((w.alloc (.cells #[] 42)).ownsRow w.heap.size 42 1 (.slice (some ⟨w.heap.size, 0, none⟩) 0 0) 0 []) :=
        ⟨rfl, .inr ⟨w.heap.size, 0, #[], rfl, Nat.le_refl _, by show (w.heap.push _)[w.heap.size]? = _; simp, Nat.le_refl _, Nat.zero_le _, rfl, rfl⟩⟩
      go_enter Ybaf.func15, Ybaf.ntmps15
      go_wp2_with (at_builtin; refine wpList_append_fits _ rfl (.tmp 5) (.tmp 6) 58 rfl w.heap.size 42 i0 1 Ybaf.underlying58 hi hz1 w.heap.size 0 0 [] rfl HO.out ad 0 c [] rfl rfl (by intro j u hu; simp at hu) (by intro u hu; simp at hu) (Nat.le_refl _) ?_; intro w1 hown hgrow)
      go_ret
      exact ⟨_, rfl, ⟨_, 0, rfl, Nat.le_refl _, (fun _ => rfl), fun h => absurd h (by simp)⟩, ((Below.refl _ _).alloc (Nat.le_refl _) _).grown hgrow (by simp) (fun k hk => by cases hk; exact Nat.le_refl _), hown.lt⟩
set_option maxRecDepth 100000 in
set_option maxHeartbeats 400000 in
theorem clone22 (v : Value) (xs : List Int) (w : World) (h : NumsAt .u8 w v xs) (hx : xs.length ≤ 100000) :
    Calls Ybaf.prog 16 #[v] w fun e w' => ∃ v', e = .returned v' ∧ NumsAt .u8 w' v' xs ∧ Below w.heap.size w w' ∧ ∀ b, v'.ownBlock = some b → w.heap.size ≤ b ∧ b < w'.heap.size := by
  have q22 : ∀ (w : World) (a : Option Addr) (n c n' c' : Nat), (binOp .eql 22 (.slice a n c) (.slice none n' c')).run Ybaf.prog w = .ok (.bool a.isNone) w := fun w a n c n' c' => Lib.run_eql_slice_nil w _ _ a n c n' c' Ybaf.underlying22
  obtain ⟨i0, hi, hz0, hz1, hz2⟩ := info_parts info5q
  obtain ⟨a, c, rfl, hc, hn, hh⟩ := h
  by_cases hp : 0 < xs.length
  · obtain ⟨b, off, rfl, hcell⟩ := hh hp
    have hb : b < w.heap.size := World.block_lt_of_cell? _ _ (hcell 0 hp)
    have HO : Hid ((w.alloc (.cells #[] 5)).ownsRow w.heap.size 5 1 (.slice (some ⟨w.heap.size, 0, none⟩) 0 0) 0 []) :=
      ⟨rfl, .inr ⟨w.heap.size, 0, #[], rfl, Nat.le_refl _, by show (w.heap.push _)[w.heap.size]? = _; simp, Nat.le_refl _, Nat.zero_le _, rfl, rfl⟩⟩
    have HC : Hid (∀ j u, (xs.map (Value.int .u8))[j]? = some u → (w.alloc (.cells #[] 5)).cell? ((⟨b, off, none⟩ : Addr).add j) = some u) :=
      news_of (fun i hi => cell_later (hcell i hi) ((Below.refl _ _).alloc (Nat.le_refl _) _))
    clear hcell hh
    obtain ⟨n, hnn⟩ : ∃ n, xs.length = n := ⟨_, rfl⟩
    have HN : Hid (xs.length = n) := hnn
    rw [hnn] at hc hp hx ⊢
    clear hnn
    go_enter Ybaf.func16, Ybaf.ntmps16
    go_wp2_with (at_builtin; refine wpList_append_lies _ rfl (.tmp 5) (.tmp 6) 22 rfl w.heap.size 5 i0 (.int .u8 0) 1 1 Ybaf.underlying22 hi hz0 hz1 hz2 rfl (by decide) _ 0 [] rfl HO.out ⟨b, off, none⟩ n c (xs.map (Value.int .u8)) rfl (by simp [HN.out]) HC.out (ints_oneCell _ _) (by omega) (by unfold maxLen; omega) (by omega) (by simp) _ rfl ?_; intro d cap w1 hown hgrow hat hlt)
    go_ret
    rw [Nat.zero_add, List.nil_append] at hown
    refine ⟨_, rfl, ?_, ((Below.refl _ _).alloc (Nat.le_refl _) _).grown hgrow (by simp) (fun k hk => by cases hk; exact Nat.le_refl _), hown.lt⟩
    exact nums_of_own hown
  · obtain rfl : xs = [] := List.eq_nil_of_length_eq_zero (by omega)
    simp only [List.length_nil] at *
    clear hh hx hp
    cases a with
    | none =>
      go_enter Ybaf.func16, Ybaf.ntmps16
      go_wp2
      go_ret
      exact ⟨_, rfl, ⟨none, 0, rfl, Nat.le_refl _, (fun _ => rfl), fun h => absurd h (by simp)⟩, Below.refl _ _, fun b hb => by cases hb⟩
    | some ad =>
      have HO : Hid ((w.alloc (.cells #[] 5)).ownsRow w.heap.size 5 1 (.slice (some ⟨w.heap.size, 0, none⟩) 0 0) 0 []) :=
        ⟨rfl, .inr ⟨w.heap.size, 0, #[], rfl, Nat.le_refl _, by show (w.heap.push _)[w.heap.size]? = _; simp, Nat.le_refl _, Nat.zero_le _, rfl, rfl⟩⟩
      go_enter Ybaf.func16, Ybaf.ntmps16
      go_wp2_with (at_builtin; refine wpList_append_fits _ rfl (.tmp 5) (.tmp 6) 22 rfl w.heap.size 5 i0 1 Ybaf.underlying22 hi hz1 w.heap.size 0 0 [] rfl HO.out ad 0 c [] rfl rfl (by intro j u hu; simp at hu) (by intro u hu; simp at hu) (Nat.le_refl _) ?_; intro w1 hown hgrow)
      go_ret
      exact ⟨_, rfl, ⟨_, 0, rfl, Nat.le_refl _, (fun _ => rfl), fun h => absurd h (by simp)⟩, ((Below.refl _ _).alloc (Nat.le_refl _) _).grown hgrow (by simp) (fun k hk => by cases hk; exact Nat.le_refl _), hown.lt⟩

set_option maxRecDepth 100000 in
set_option maxHeartbeats 400000 in
theorem equal_nums (v1 v2 : Value) (xs : List Int) (w : World) (h1 : NumsAt .u32 w v1 xs) (h2 : NumsAt .u32 w v2 xs) (hx : xs.length ≤ 100000) :
    Calls Ybaf.prog 34 #[v1, v2] w fun e w' => e = .returned (.bool true) ∧ ∃ m, w' = w.drewN m := by
  obtain ⟨a1, c1, rfl, hc1, _, hh1⟩ := h1
  obtain ⟨a2, c2, rfl, hc2, _, hh2⟩ := h2
  obtain ⟨n, hn⟩ : ∃ n, xs.length = n := ⟨_, rfl⟩
  rw [hn] at hc1 hc2 hh1 hh2 hx ⊢
  have H1 : Hid (0 < n → ∃ b off, a1 = some ⟨b, off, none⟩ ∧ ∀ i, i < n → w.cell? ⟨b, off + i, none⟩ = some (.int .u32 (xs.getD i 0))) := hh1
  have H2 : Hid (0 < n → ∃ b off, a2 = some ⟨b, off, none⟩ ∧ ∀ i, i < n → w.cell? ⟨b, off + i, none⟩ = some (.int .u32 (xs.getD i 0))) := hh2
  clear hh1 hh2 hn
  go_enter Ybaf.func34, Ybaf.ntmps34
  go_wp2_with fail
  go_loopw [13] (fun si wr => ∃ k m : Nat, k ≤ n ∧ si = .int .i64 k ∧ wr = w.drewN m) (fun si _ => n - (intOf si).toNat)
  case atStart => exact ⟨0, 0, Nat.zero_le _, rfl, rfl⟩
  case round =>
    obtain ⟨k, m, hk, rfl, rfl⟩ := hrel
    by_cases hlt : k < n
    · obtain ⟨b1, o1, rfl, x1⟩ := H1.out (by omega)
      obtain ⟨b2, o2, rfl, x2⟩ := H2.out (by omega)
      have d1 := x1 k hlt
      have d2 := x2 k hlt
      clear x1 x2
      go_wp2_with fail
      go_quiet (fail)
      go_wp2_with fail
      go_roundw
      case rel => exact ⟨k + 1, m + nq, by omega, by go_num, by simp⟩
      case measure => simp [intOf]; omega
    · go_wp2_with fail
      go_ret
      exact ⟨rfl, m, rfl⟩
end Go.Proofs.YbulknbsFmt
