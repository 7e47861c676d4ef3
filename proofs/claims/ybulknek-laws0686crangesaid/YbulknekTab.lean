/-
  make, build and slices.Clone as tableOf meets them; the lines as they lie.
-/
import Derived.Test.YbulknekBase
import Derived.BigRegion
import Derived.RowKit3
import Derived.Laws.NewBlocks
import Derived.Deep.AppendLies
import Derived.Lib.SliceRun
namespace Go.Proofs.Ybulknek
open Go.RowKit

theorem info3 : (Yba.prog.info? 3).map (fun i => (i.zero, i.size, i.bytes)) = some (some (.int .i64 0), 1, 8) := by kernel_rfl
theorem info2 : (Yba.prog.info? 2).map (fun i => (i.zero, i.size, i.bytes)) = some (some (.int .i64 0), 1, 8) := by kernel_rfl
theorem info21 : (Yba.prog.info? 21).map (fun i => (i.zero, i.size, i.bytes)) = some (some (.int .i32 0), 1, 4) := by kernel_rfl
theorem info34 : (Yba.prog.info? 34).map (fun i => (i.zero, i.size, i.bytes)) = some (some (.agg #[.int .i32 0, .int .i32 0, .int .i64 0, .int .i64 0]), 4, 24) := by kernel_rfl

/-- a new row -/
def mkz (z : Value) (n : Nat) : Array Value := madeCells z.cells n
theorem run35 (n : Nat) (hn : n ≤ 2000) (w : World) : (Instr.makeSlice 35 (.int .i64 (n:Int)) (.int .i64 (n:Int))).run Yba.prog w = .ok (.slice (some ⟨w.heap.size,0,none⟩) n n) (w.alloc (.cells (mkz (.int .i64 0) n) 3)) := by
  obtain ⟨i0, hi, hz0, hz1, hz2⟩ := info_parts info3
  have := run_make (P := Yba.prog) w 35 3 i0 _ Yba.underlying35 hi hz0 .i64 .i64 n n (by omega) (by omega) (by rw [hz2]; omega) (by omega)
  rw [this, hz1, Nat.mul_one]
  rfl
theorem run36 (n : Nat) (hn : n ≤ 2000) (w : World) : (Instr.makeSlice 36 (.int .i64 (n:Int)) (.int .i64 (n:Int))).run Yba.prog w = .ok (.slice (some ⟨w.heap.size,0,none⟩) n n) (w.alloc (.cells (mkz (.int .i32 0) n) 21)) := by
  obtain ⟨i0, hi, hz0, hz1, hz2⟩ := info_parts info21
  have := run_make (P := Yba.prog) w 36 21 i0 _ Yba.underlying36 hi hz0 .i64 .i64 n n (by omega) (by omega) (by rw [hz2]; omega) (by omega)
  rw [this, hz1, Nat.mul_one]
  rfl
theorem run37 (n : Nat) (hn : n ≤ 2000) (w : World) : (Instr.makeSlice 37 (.int .i64 (n:Int)) (.int .i64 (n:Int))).run Yba.prog w = .ok (.slice (some ⟨w.heap.size,0,none⟩) n n) (w.alloc (.cells (mkz (.int .i64 0) n) 2)) := by
  obtain ⟨i0, hi, hz0, hz1, hz2⟩ := info_parts info2
  have := run_make (P := Yba.prog) w 37 2 i0 _ Yba.underlying37 hi hz0 .i64 .i64 n n (by omega) (by omega) (by rw [hz2]; omega) (by omega)
  rw [this, hz1, Nat.mul_one]
  rfl
theorem run30 (n : Nat) (hn : n ≤ 2000) (w : World) : (Instr.makeSlice 30 (.int .i64 (n:Int)) (.int .i64 (n:Int))).run Yba.prog w = .ok (.slice (some ⟨w.heap.size,0,none⟩) n n) (w.alloc (.cells (mkz (.agg #[.int .i32 0, .int .i32 0, .int .i64 0, .int .i64 0]) (n * 4)) 34)) := by
  obtain ⟨i0, hi, hz0, hz1, hz2⟩ := info_parts info34
  have := run_make (P := Yba.prog) w 30 34 i0 _ Yba.underlying30 hi hz0 .i64 .i64 n n (by omega) (by omega) (by rw [hz2]; omega) (by omega)
  rw [this, hz1]
  rfl

theorem build39 (a : Option Addr) (n c : Nat) (w : World) : (Instr.build 39 #[(0, .slice a n c)]).run Yba.prog w = .ok (.agg #[.slice a n c, .slice none 0 0, .slice none 0 0]) w := by kernel_rfl
theorem build34 (a b c d : Int) (w : World) : (Instr.build 34 #[(0, .int .i32 a), (1, .int .i32 b), (2, .int .i64 c), (3, .int .i64 d)]).run Yba.prog w = .ok (.agg #[.int .i32 a, .int .i32 b, .int .i64 c, .int .i64 d]) w := by kernel_rfl
theorem mkz_get (z : Value) (n j : Nat) (hz : z.cells = #[z]) (hj : j < n) : (mkz z n)[j]? = some z := by
  simp [mkz, madeCells, hz, hj, Nat.mod_one]
theorem mkz_size (z : Value) (n : Nat) : (mkz z n).size = n := size_madeCells _ _

/-- the table's three slices while only 'start' is made -/
def tb (S m : Nat) : Nat → Value
  | 0 => .slice (some ⟨S, 0, none⟩) m m
  | _ => .slice none 0 0

/-- the lines as they lie -/
structure Lines (w : World) (L n : Nat) (f : Nat → Nat) (to s : Nat → Int) : Prop where
  c0 : ∀ k, k < n → w.cell? ⟨L, k * 4, none⟩ = some (.int .i32 (f k))
  c1 : ∀ k, k < n → w.cell? ⟨L, k * 4 + 1, none⟩ = some (.int .i32 (to k))
  c2 : ∀ k, k < n → w.cell? ⟨L, k * 4 + 2, none⟩ = some (.int .i64 (s k))

/-- what stands in 'start' while the first k lines are counted -/
def st1 (f : Nat → Nat) (s : Nat → Int) (k j : Nat) : Nat := if j = 0 then 0 else ce f s (j - 1) k
theorem st1_le (f : Nat → Nat) (s : Nat → Int) (k j : Nat) : st1 f s k j ≤ k := by
  unfold st1; split
  · omega
  · exact ce_le f s _ k
theorem st1_hit (f : Nat → Nat) (s : Nat → Int) (k : Nat) (h : 0 < s k) : st1 f s (k + 1) (f k + 1) = st1 f s k (f k + 1) + 1 := by
  simp [st1, ce_hit f s h]
theorem st1_miss (f : Nat → Nat) (s : Nat → Int) (k j : Nat) (h : ¬ (0 < s k ∧ j = f k + 1)) : st1 f s (k + 1) j = st1 f s k j := by
  unfold st1
  split
  · rfl
  · simp only [ce]
    rw [if_neg (by intro hh; exact h ⟨hh.1, by omega⟩)]; rfl

theorem frozen_out (w : World) (b o : Nat) (h : w.heap.size ≤ b) : w.frozen? ⟨b, o, none⟩ = false := by simp [World.frozen?, Array.getElem?_eq_none h]

theorem Row.drew {w : World} {b n : Nat} {f : Nat → Value} (h : Row w b n f) : Row w.drew b n f := h.of_heap rfl
theorem size_setCell (w : World) (p : Addr) (v : Value) : (w.setCell p v).heap.size = w.heap.size := by simp [World.setCell]
theorem Row.congr {w : World} {b n : Nat} {f g : Nat → Value} (h : Row w b n f) (e : ∀ j, j < n → g j = f j) : Row w b n g := by
  obtain ⟨cs, t, hb, h1, h2⟩ := h
  exact ⟨cs, t, hb, h1, fun j hj => by rw [e j hj]; exact h2 j hj⟩

set_option maxRecDepth 100000 in
set_option maxHeartbeats 400000 in
theorem clone_any (b n c : Nat) (g : Nat → Int) (w : World) (hn : 1 ≤ n ∧ n ≤ 2000) (R : Row w b n (fun j => .int .i64 (g j))) :
    Calls Yba.prog 12 #[.slice (some ⟨b, 0, none⟩) n c] w fun e w' => ∃ d cap, e = .returned (.slice (some ⟨d, 0, none⟩) n cap) ∧ w.heap.size ≤ d ∧ Row w' d n (fun j => .int .i64 (g j)) ∧ Below w.heap.size w w' := by
  have q35 : ∀ (w : World) (a : Option Addr) (n c n' c' : Nat), (binOp .eql 35 (.slice a n c) (.slice none n' c')).run Yba.prog w = .ok (.bool a.isNone) w := fun w a n c n' c' => Lib.run_eql_slice_nil w _ _ a n c n' c' Yba.underlying35
  obtain ⟨i0, hi, hz0, hz1, hz2⟩ := info_parts info3
  have HR : Hid (Row w b n (fun j => .int .i64 (g j))) := R
  have hb := R.lt
  have own : (w.alloc (.cells #[] 3)).ownsRow w.heap.size 3 1 (.slice (some ⟨w.heap.size, 0, none⟩) 0 0) 0 [] :=
    ⟨rfl, .inr ⟨w.heap.size, 0, #[], rfl, Nat.le_refl _, by show (w.heap.push _)[w.heap.size]? = _; simp, Nat.le_refl _, Nat.zero_le _, rfl, rfl⟩⟩
  have hc : ∀ j u, (((List.range n).map fun j => Value.int .i64 (g j)))[j]? = some u → (w.alloc (.cells #[] 3)).cell? ((⟨b, 0, none⟩ : Addr).add j) = some u := fun j u hu => by
    by_cases hj : j < n
    · have hadd : (⟨b, 0, none⟩ : Addr).add j = ⟨b, j, none⟩ := by unfold Addr.add; split <;> simp_all
      rw [hadd, (HR.out.alloc _).cell j hj]
      simpa [hj] using hu
    · rw [List.getElem?_eq_none (by simp; omega)] at hu; cases hu
  have HC : Hid (∀ j u, (((List.range n).map fun j => Value.int .i64 (g j)))[j]? = some u → (w.alloc (.cells #[] 3)).cell? ((⟨b, 0, none⟩ : Addr).add j) = some u) := hc
  have HO : Hid ((w.alloc (.cells #[] 3)).ownsRow w.heap.size 3 1 (.slice (some ⟨w.heap.size, 0, none⟩) 0 0) 0 []) := own
  clear R hc own
  go_enter Yba.func12, Yba.ntmps12
  go_wp2_with (at_builtin; refine wpList_append_lies _ rfl (.tmp 5) (.tmp 6) 35 rfl w.heap.size 3 i0 (.int .i64 0) 1 8 Yba.underlying35 hi hz0 hz1 hz2 rfl (by decide) _ 0 [] rfl HO.out ⟨b, 0, none⟩ n c _ rfl (by simp) HC.out (by intro u hu; obtain ⟨j, _, rfl⟩ := List.mem_map.1 hu; rfl) (by omega) (by unfold maxLen; omega) (by omega) (by simp) _ rfl ?_; intro d cap w1 hown hgrow hat hlt)
  go_ret
  refine ⟨d, cap, by simp, (hown.lt d rfl).1, ?_, ((Below.refl _ _).alloc (Nat.le_refl _) _).grown hgrow (by simp) (fun k hk => by cases hk; exact Nat.le_refl _)⟩
  rcases hown.2 with ⟨_, h0⟩ | ⟨g', cap', cur, hv, hbg, hg, hnc, hcm, hcs, htake⟩
  · omega
  · cases hv
    refine ⟨cur, 3, hg, by omega, fun j hj => ?_⟩
    have := congrArg (·[j]?) htake
    simp [hj] at this
    simpa using this
end Go.Proofs.Ybulknek
