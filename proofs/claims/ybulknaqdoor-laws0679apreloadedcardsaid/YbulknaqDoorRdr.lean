/-
  'LawS0679AReader', walked.
-/
import Derived.Test.YbulknaqDoorPre
namespace Go.Proofs.YbulknaqDoor
open Go.RowKit

def bz16 : Array Value := #[.int .u8 0, .int .u8 0, .int .u8 0, .int .u8 0, .int .u8 0, .int .u8 0, .int .u8 0, .int .u8 0, .int .u8 0, .int .u8 0, .int .u8 0, .int .u8 0, .int .u8 0, .int .u8 0, .int .u8 0, .int .u8 0]
theorem run_mk16 (w : World) : (Instr.makeSlice 22 (.int .i64 0) (.int .i64 16)).run Ybad.prog w = .ok (.slice (some ⟨w.heap.size, 0, none⟩) 0 16) (w.alloc (.cells bz16 5)) := by kernel_rfl

/-- the cells of the reader and of its input -/
def rC (D len : Nat) (c : Int) : Array Value := #[.slice (some ⟨D, 0, none⟩) len len, .int .i64 0, .int .i64 c, .int .i64 0]
def inC2 (R Bf : Nat) : Array Value := #[.iface 24 (.pointer (some ⟨R, 0, none⟩)), .nilIface, .slice (some ⟨Bf, 0, none⟩) 0 16, .bool false, .int .i64 0, .int .i64 0, .bool false]

theorem rdr_St {w w1 : World} {zs : List Int} {len : Nat} (h : Dat w w1 zs len) (a : Addr) (hl : len ≤ 1024) (c : Nat) (hc1 : 1 ≤ c) (hc4 : c ≤ 4) (o : Obj) :
    St w ((((w1.alloc (.cells (rC w.heap.size len c) 26)).alloc (.cells bz16 5)).alloc (.cells (inC2 (w.heap.size + 1) (w.heap.size + 1 + 1)) 32)).alloc o) (w.heap.size + 1 + 1 + 1) (w.heap.size + 1 + 1) (w.heap.size + 1) w.heap.size len 0 0 16 0 0 c zs a false true (fun _ _ _ => False) := by
  have hs := h.size
  have cN : ∀ i, ((((w1.alloc (.cells (rC w.heap.size len c) 26)).alloc (.cells bz16 5)).alloc (.cells (inC2 (w.heap.size + 1) (w.heap.size + 1 + 1)) 32)).alloc o).cell? ⟨w.heap.size + 1 + 1 + 1, i, none⟩ = (inC2 (w.heap.size + 1) (w.heap.size + 1 + 1))[i]? := fun i => by
    rw [World.cell?_alloc_past _ _ _ (by simp only [World.size_alloc]; omega), World.cell?_alloc_at _ _ _ _ (by simp only [World.size_alloc]; omega)]
  have cB : ∀ i, ((((w1.alloc (.cells (rC w.heap.size len c) 26)).alloc (.cells bz16 5)).alloc (.cells (inC2 (w.heap.size + 1) (w.heap.size + 1 + 1)) 32)).alloc o).cell? ⟨w.heap.size + 1 + 1, i, none⟩ = bz16[i]? := fun i => by
    rw [World.cell?_alloc_past _ _ _ (by simp only [World.size_alloc]; omega), World.cell?_alloc_past _ _ _ (by simp only [World.size_alloc]; omega), World.cell?_alloc_at _ _ _ _ (by simp only [World.size_alloc]; omega)]
  have cR : ∀ i, ((((w1.alloc (.cells (rC w.heap.size len c) 26)).alloc (.cells bz16 5)).alloc (.cells (inC2 (w.heap.size + 1) (w.heap.size + 1 + 1)) 32)).alloc o).cell? ⟨w.heap.size + 1, i, none⟩ = (rC w.heap.size len c)[i]? := fun i => by
    rw [World.cell?_alloc_past _ _ _ (by simp only [World.size_alloc]; omega), World.cell?_alloc_past _ _ _ (by simp only [World.size_alloc]; omega), World.cell?_alloc_past _ _ _ (by simp only [World.size_alloc]; omega), World.cell?_alloc_at _ _ _ _ (by omega)]
  have cD : ∀ i, i < len → ((((w1.alloc (.cells (rC w.heap.size len c) 26)).alloc (.cells bz16 5)).alloc (.cells (inC2 (w.heap.size + 1) (w.heap.size + 1 + 1)) 32)).alloc o).cell? ⟨w.heap.size, i, none⟩ = some (.int .u8 (zs.getD i 0)) := fun i hi => by
    rw [World.cell?_alloc_past _ _ _ (by simp only [World.size_alloc]; omega), World.cell?_alloc_past _ _ _ (by simp only [World.size_alloc]; omega), World.cell?_alloc_past _ _ _ (by simp only [World.size_alloc]; omega), World.cell?_alloc_past _ _ _ (by omega)]
    exact h.dat i hi
  refine ⟨⟨by rw [cN]; rfl, by rw [cN]; rfl, by rw [cN]; rfl, by rw [cN]; rfl, by rw [cN]; rfl, Nat.le_refl _, Nat.zero_le _, by omega, by omega⟩, fun j => ?_, fun i hi => by omega, by rw [cR]; rfl, ?_, by omega, by omega, by omega, by omega, by omega, by omega, by omega, by omega, hl, by omega, (fun x => by cases x),
    fun _ => ⟨by rw [cN]; rfl, ⟨by rw [cR]; rfl, by rw [cR]; rfl, by rw [cR]; rfl, by rw [cR]; rfl, fun j => ?_, cD, by omega, hl, hc1, hc4, by omega⟩, rfl, fun j hj => ?_, fun j => ?_, by omega⟩, (fun _ x => by rcases x with x | x; cases x; omega), (fun _ _ _ x => x.elim)⟩
  · rw [World.frozen?_alloc_past _ _ _ (by simp only [World.size_alloc]; omega), World.frozen?_alloc_at _ _ _ _ (by simp only [World.size_alloc]; omega)]
  · exact (((h.below.alloc (by omega) _).alloc (by simp only [World.size_alloc]; omega) _).alloc (by simp only [World.size_alloc]; omega) _).alloc (by simp only [World.size_alloc]; omega) _
  · rw [World.frozen?_alloc_past _ _ _ (by simp only [World.size_alloc]; omega), World.frozen?_alloc_past _ _ _ (by simp only [World.size_alloc]; omega), World.frozen?_alloc_past _ _ _ (by simp only [World.size_alloc]; omega), World.frozen?_alloc_at _ _ _ _ (by omega)]
  · rw [cB]
    exact ⟨_, Array.getElem?_eq_getElem (by exact hj)⟩
  · rw [World.frozen?_alloc_past _ _ _ (by simp only [World.size_alloc]; omega), World.frozen?_alloc_past _ _ _ (by simp only [World.size_alloc]; omega), World.frozen?_alloc_at _ _ _ _ (by simp only [World.size_alloc]; omega)]

set_option maxRecDepth 100000 in
set_option maxHeartbeats 1000000 in
theorem reader_any (a0 : Option Addr) (len cap n ch : Nat) (zs : List Int) (en : Int) (a : Addr) (w : World) (hl : len ≤ 1024) (hlc : len ≤ cap) (hz : ∀ j : Nat, 0 ≤ zs[j]?.getD 0 ∧ zs[j]?.getD 0 ≤ 255) (hn : n ≤ 255) (hch : ch ≤ 255) (hE : w.cell? ⟨0, 0, none⟩ = some (.iface 78 (.pointer (some a)))) (hd : DataAt w a0 len zs) :
    Calls Ybad.prog 4 #[.slice a0 len cap, .int .u8 n, .int .u8 ch, .int .i64 en] w fun e w' => e = .returned (.bool true) ∧ Below w.heap.size w w' := by
  have h00 : 0 < w.heap.size := World.block_lt_of_cell? _ _ hE
  have hmk := run_mk len hl
  have hmk16 := run_mk16
  have g1 : ¬ ((1024 : Int) < (len : Int)) := by omega
  have C1 : Hid ((chunk zs 0 len).length = Nat.min len len) := by show _ = _; rw [chunk_len]; exact (Nat.min_self _).symm
  have C2 : Hid (0 < (chunk zs 0 len).length → ∃ ad, a0 = some ad ∧ ∀ j v, (chunk zs 0 len)[j]? = some v → (w.alloc (.cells (bz len) 5)).cell? (ad.add j) = some v) := by
    intro hpos
    rw [chunk_len] at hpos
    obtain ⟨b, off, rfl, hc⟩ := hd hpos
    refine ⟨_, rfl, fun j v hj => ?_⟩
    obtain ⟨hjc, rfl⟩ := chunk_at _ _ _ _ _ hj
    rw [addr_add, World.cell?_alloc_lt _ _ _ (World.block_lt_of_cell? _ _ (hc j hjc)), Nat.zero_add]
    exact hc j hjc
  have C3 : Hid (∀ j, j < (chunk zs 0 len).length → ((w.alloc (.cells (bz len) 5)).cell? ⟨w.heap.size, 0 + j, none⟩).isSome = true) := by
    intro j hj
    rw [chunk_len] at hj
    rw [World.cell?_alloc_new, Array.getElem?_eq_getElem (by rw [bz_size]; omega)]; rfl
  have C4 : Hid (∀ j, j < (chunk zs 0 len).length → (w.alloc (.cells (bz len) 5)).frozen? ⟨w.heap.size, 0 + j, none⟩ = false) := by
    intro j _
    rw [World.frozen?_alloc_new]
  go_enter Ybad.func4, Ybad.ntmps4
  go_wp2_with (refine wpList_copy_cells rfl (.tmp 25) (.tmp 26) 22 22 rfl 5 Ybad.underlying22 size5 w.heap.size 0 len len a0 len cap rfl rfl (chunk zs 0 len) C1.out C2.out C3.out C4.out (chunk_one zs 0 len) ?_; intro w1 hw1; have DA : Hid (Dat w w1 zs len) := dat_of hw1.out; have hsz : w1.heap.size = w.heap.size + 1 := DA.out.size; have hE1 : w1.cell? ⟨0, 0, none⟩ = some (.iface 78 (.pointer (some a))) := (DA.out.below.cell (p := ⟨0, 0, none⟩) h00).trans hE; have h01 : 0 < w1.heap.size := (by omega))
  have em : ((n : Int) % 9) = ((n % 9 : Nat) : Int) := by omega
  have hk : n % 9 ≤ 8 := by omega
  have ec : (1 + (ch : Int) % 4) = ((1 + ch % 4 : Nat) : Int) := by omega
  have hc1 : 1 ≤ 1 + ch % 4 := by omega
  have hc4 : 1 + ch % 4 ≤ 4 := by omega
  rw [em, ec]
  generalize n % 9 = k at hk ⊢
  generalize 1 + ch % 4 = c at hc1 hc4 ⊢
  clear em ec C1 C2 C3 C4 hw1
  refine (fixed_any (rdr_St DA.out a hl c hc1 hc4 _) (by simp only [World.size_alloc]; omega) hE k hk en hz).mono ?_
  have HD : Hid (DataAt w a0 len zs) := hd
  have HZ : Hid (∀ j : Nat, 0 ≤ zs[j]?.getD 0 ∧ zs[j]?.getD 0 ≤ 255) := hz
  clear hd hz DA hE hE1
  rintro e w2 hfix
  obtain ⟨v, err, off, he, F, hw⟩ : ∃ (v err : Value) (off : Nat), e = .returned (.tuple #[v, err]) ∧ Fin w w2 (w.heap.size + 1 + 1 + 1) (w.heap.size + 1) k off true ∧
      ((len < k ∧ v = .int .u64 0 ∧ off = len ∧ ∃ g, err = .iface 49 (.pointer (some ⟨g, 0, none⟩)) ∧ Mal w2 g len unEnd) ∨
      (k ≤ len ∧ (k : Int) ≤ en ∧ v = .int .u64 (le zs k) ∧ off = k ∧ err = .nilIface) ∨
      (k ≤ len ∧ en < (k : Int) ∧ v = .int .u64 (le zs k) ∧ off = k ∧ ∃ g, err = .iface 49 (.pointer (some ⟨g, 0, none⟩)) ∧ Mal w2 g en secEnd)) := by
    rcases hfix with ⟨h1, g, rfl, M, F⟩ | ⟨h1, h2, rfl, F⟩ | ⟨h1, h2, g, rfl, M, F⟩
    · exact ⟨_, _, len, rfl, F, Or.inl ⟨h1, rfl, rfl, g, rfl, M⟩⟩
    · exact ⟨_, _, k, rfl, F, Or.inr (Or.inl ⟨h1, h2, rfl, rfl, rfl⟩)⟩
    · exact ⟨_, _, k, rfl, F, Or.inr (Or.inr ⟨h1, h2, rfl, rfl, g, rfl, M⟩)⟩
  subst he
  have ho := F.off
  obtain ⟨calls, hcl, hcl1⟩ := F.calls
  have hcl2 : 0 < k → 1 ≤ calls := hcl1 rfl
  have HF : Hid (Fin w w2 (w.heap.size + 1 + 1 + 1) (w.heap.size + 1) k off true) := F
  have HW : Hid ((len < k ∧ v = .int .u64 0 ∧ off = len ∧ ∃ g, err = .iface 49 (.pointer (some ⟨g, 0, none⟩)) ∧ Mal w2 g len unEnd) ∨
      (k ≤ len ∧ (k : Int) ≤ en ∧ v = .int .u64 (le zs k) ∧ off = k ∧ err = .nilIface) ∨
      (k ≤ len ∧ en < (k : Int) ∧ v = .int .u64 (le zs k) ∧ off = k ∧ ∃ g, err = .iface 49 (.pointer (some ⟨g, 0, none⟩)) ∧ Mal w2 g en secEnd)) := hw
  clear F hw hfix hcl1
  by_cases hk0 : 0 < k
  · have q1 : ((calls : Int) == 0) = false := by have := hcl2 hk0; simp; omega
    have q2 : decide ((0 : Int) < (k : Int)) = true := by simpa using hk0
    clear hcl2
    go_wp2_with (go_at_call 6; refine (check_fixed HD.out hl hlc hk HZ.out v err off HF.out HW.out).mono ?_; rintro e w3 ⟨rfl, B⟩)
    go_ret
    exact ⟨rfl, B⟩
  · have q2 : decide (0 < k) = false := by simpa using hk0
    clear hcl2 hk0
    go_wp2_with (go_at_call 6; refine (check_fixed HD.out hl hlc hk HZ.out v err off HF.out HW.out).mono ?_; rintro e w3 ⟨rfl, B⟩)
    go_ret
    exact ⟨rfl, B⟩
end Go.Proofs.YbulknaqDoor
