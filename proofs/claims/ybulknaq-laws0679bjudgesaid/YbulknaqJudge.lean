import Derived.Test.YbulknaqBuild
namespace Go.Proofs.Ybulknaq
open Go.RowKit

/-- what 'checkElementTable' asks of the decoder in block D whose tables lie in block T -/
structure Chk (w : World) (D T len idx : Nat) (z : Int) : Prop where
  tabs : w.cell? ⟨D, 3, none⟩ = some (.slice (some ⟨T, 0, none⟩) len len)
  fault : w.cell? ⟨D, 23, none⟩ = some (.pointer none)
  free : w.frozen? ⟨D, 23, none⟩ = false
  elem : w.cell? ⟨T, idx * 4, none⟩ = some (.int .u8 z)
  lt : idx < len

/-- the text of the fault: 'type mismatch' -/
def tm : ByteArray := ⟨#[116, 121, 112, 101, 32, 109, 105, 115, 109, 97, 116, 99, 104]⟩

set_option maxRecDepth 100000 in
set_option maxHeartbeats 400000 in
theorem check_same (w : World) (D T len idx : Nat) (z off : Int) (h : Chk w D T len idx z) (_hl : len ≤ 1024) :
    Calls Yba.prog 6 #[.pointer (some ⟨D, 0, none⟩), .int .i64 off, .agg #[.int .u8 0, .int .u32 idx, .int .u16 0, .int .u64 0, .int .u64 0, .int .u8 z, .slice none 0 0, .slice none 0 0]] w
      fun e w' => e = .returned (.tuple #[]) ∧ Below w.heap.size w w' := by
  obtain ⟨h1, h2, h3, h4, h5⟩ := h
  have b1 : D < w.heap.size := World.block_lt_of_cell? _ _ h1
  have b2 : T < w.heap.size := World.block_lt_of_cell? _ _ h4
  go_enter Yba.func6, Yba.ntmps6
  go_wp2
  go_region
  go_wp2
  go_end0
  exact ⟨rfl, ((Below.refl _ _).alloc (Nat.le_refl _) _).drew⟩

set_option maxRecDepth 100000 in
set_option maxHeartbeats 400000 in
theorem check_diff (w : World) (D T len idx : Nat) (z s off : Int) (h : Chk w D T len idx z) (_hl : len ≤ 1024) (hne : (z == s) = false) :
    Calls Yba.prog 6 #[.pointer (some ⟨D, 0, none⟩), .int .i64 off, .agg #[.int .u8 0, .int .u32 idx, .int .u16 0, .int .u64 0, .int .u64 0, .int .u8 s, .slice none 0 0, .slice none 0 0]] w
      fun e w' => e = .returned (.tuple #[]) ∧ Below D w w' ∧ ∃ g, w'.cell? ⟨D, 23, none⟩ = some (.pointer (some ⟨g, 0, none⟩)) ∧ w'.cell? ⟨g, 0, none⟩ = some (.int .i64 off) ∧ w'.cell? ⟨g, 1, none⟩ = some (.int .u8 2) ∧ w'.cell? ⟨g, 2, none⟩ = some (.string tm) := by
  obtain ⟨h1, h2, h3, h4, h5⟩ := h
  have b1 : D < w.heap.size := World.block_lt_of_cell? _ _ h1
  have b2 : T < w.heap.size := World.block_lt_of_cell? _ _ h4
  have hne' : (z != s) = true := by simp [bne, hne]
  go_enter Yba.func6, Yba.ntmps6
  go_wp2
  go_region
  go_wp2
  go_end0
  go_wp2
  go_end0
  refine ⟨rfl, ((((Below.refl D w).setCell (p := ⟨D, 23, none⟩) (Nat.le_refl _) _).alloc (by simp only [World.size_setCell]; omega) _).alloc (by simp only [World.size_alloc, World.size_setCell]; omega) _).drew, w.heap.size + 1, ?_, ?_, ?_, ?_⟩
  · rw [World.cell?_drew, World.cell?_alloc_lt, World.cell?_alloc_lt]
    · exact World.cell?_setCell_same _ _ _ h2
    · simp only [World.size_setCell]; omega
    · simp only [World.size_alloc, World.size_setCell]; omega
  · rw [World.cell?_drew, World.cell?_alloc_at _ _ _ _ (by simp)]; rfl
  · rw [World.cell?_drew, World.cell?_alloc_at _ _ _ _ (by simp)]; rfl
  · rw [World.cell?_drew, World.cell?_alloc_at _ _ _ _ (by simp)]; rfl

theorem Blt.chk {w w1 : World} {len : Nat} {zs : List Int} (h : Blt w w1 len zs len) {m : Nat} (hm : m < len) (o : Obj) : Chk (w1.alloc o) w.heap.size (w.heap.size + 1) len m (zs.getD m 0) := by
  have hs := h.size
  constructor
  · rw [World.cell?_alloc_lt _ _ _ (by rw [hs]; simp)]; exact h.tabs
  · rw [World.cell?_alloc_lt _ _ _ (by rw [hs]; simp)]; exact h.fault
  · rw [World.frozen?_alloc_past _ _ _ (by rw [hs]; simp)]; exact h.free _
  · rw [World.cell?_alloc_lt _ _ _ (by rw [hs]; simp)]; exact h.done m hm
  · exact hm

set_option maxRecDepth 100000 in
set_option maxHeartbeats 400000 in
theorem judge_mid (b off len cap : Nat) (zs : List Int) (n : Nat) (s o : Int) (w : World) (hc : ∀ i, i < len → w.cell? ⟨b, off + i, none⟩ = some (.int .u8 (zs.getD i 0))) (hb : b < w.heap.size) (hl : len ≤ 1024) (h1 : 1 ≤ len) (hn : n < 4294967296) :
    Calls Yba.prog 3 #[.slice (some ⟨b, off, none⟩) len cap, .int .u32 n, .int .u8 s, .int .i64 o] w fun e w' => e = .returned (.bool true) ∧ Below w.heap.size w w' := by
  have g1 : ¬ ((1024 : Int) < (len : Int)) := by omega
  have g2 : ((len : Int) == 0) = false := by simp; omega
  go_enter Yba.func3, Yba.ntmps3
  go_wp2_with (go_at_call 5; refine (build_any b off len cap zs _ hc hb hl h1).mono ?_; rintro e w1 ⟨rfl, B⟩)
  have em : ((n : Int) % (len : Int)) = ((n % len : Nat) : Int) := by simp
  have hm : n % len < len := Nat.mod_lt _ (by omega)
  rw [em]
  generalize n % len = m at hm ⊢
  have ck : Chk (w1.alloc (Obj.cells
      #[Value.int IntKind.u8 0, Value.int IntKind.u32 m, Value.int IntKind.u16 0, Value.int IntKind.u64 0,
        Value.int IntKind.u64 0, Value.int IntKind.u8 s, Value.slice none 0 0, Value.slice none 0 0] 36)) w.heap.size (w.heap.size + 1) len m (zs.getD m 0) := B.chk hm _
  have hbel : Below w.heap.size w (w1.alloc (Obj.cells
      #[Value.int IntKind.u8 0, Value.int IntKind.u32 m, Value.int IntKind.u16 0, Value.int IntKind.u64 0,
        Value.int IntKind.u64 0, Value.int IntKind.u8 s, Value.slice none 0 0, Value.slice none 0 0] 36)) := B.below.alloc (by rw [B.size]; omega) _
  have hsz := B.size
  have hcm := hc m hm
  by_cases hs : zs.getD m 0 = s
  · subst hs
    refine (check_same _ _ _ _ _ _ _ ck hl).mono ?_
    rintro e w2 ⟨rfl, b2⟩
    have hf := (b2.cell (p := ⟨w.heap.size, 23, none⟩) (by simp [hsz]; omega)).trans ck.fault
    have b3 := hbel.trans (b2.mono (by simp [hsz]; omega))
    have hcx : w2.cell? ⟨b, off + m, none⟩ = some (.int .u8 (zs.getD m 0)) := (b3.cell (by exact hb)).trans hcm
    clear hc ck hbel b2 B
    go_wp2
    go_ret
    exact ⟨rfl, b3⟩
  · have hne : (zs.getD m 0 == s) = false := by simpa using hs
    refine (check_diff _ _ _ _ _ _ _ _ ck hl hne).mono ?_
    rintro e w2 ⟨rfl, b2, g, q0, q1, q2, q3⟩
    have b3 := hbel.trans b2
    have hcx : w2.cell? ⟨b, off + m, none⟩ = some (.int .u8 (zs.getD m 0)) := (b3.cell (by exact hb)).trans hcm
    have hne2 : (zs[m]?.getD 0 == s) = false := by simpa using hs
    have ht : (tm.toList == [116, 121, 112, 101, 32, 109, 105, 115, 109, 97, 116, 99, 104]) = true := by kernel_rfl
    clear hc ck hbel b2 B hs hne
    go_wp2
    go_ret
    exact ⟨rfl, b3⟩
end Go.Proofs.Ybulknaq
