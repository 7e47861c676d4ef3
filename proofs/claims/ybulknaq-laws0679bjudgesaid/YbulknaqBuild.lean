/-
  THE WALK of 'zzs0679bbuild' (function 5): a decoder whose tables bear the given element types; no fault kept.
-/
import Derived.Test.YbulknaqRows
import Derived.WalkKit
import Derived.WalkSpells
import Derived.WalkLawsBesides
import Derived.BigRegion
namespace Go.Proofs.Ybulknaq
open Go.RowKit

theorem info87 : (Yba.prog.info? 87).map (fun i => (i.zero, i.size, i.bytes)) = some (some (.agg #[.int .u8 0, .int .u32 0, .int .u32 0, .bool false]), 4, 16) := by kernel_rfl

def tb0 (len : Nat) : Array Value := madeCells #[.int .u8 0, .int .u32 0, .int .u32 0, .bool false] (len * 4)
theorem tb0_size (len : Nat) : (tb0 len).size = len * 4 := size_madeCells _ _

theorem run_mk (len : Nat) (hl : len ≤ 1024) (w : World) : (Instr.makeSlice 40 (.int .i64 (len:Int)) (.int .i64 (len:Int))).run Yba.prog w = .ok (.slice (some ⟨w.heap.size,0,none⟩) len len) (w.alloc (.cells (tb0 len) 87)) := by
  obtain ⟨i0, hi, hz0, hz1, hz2⟩ := info_parts info87
  have := run_make (P := Yba.prog) w 40 87 i0 _ Yba.underlying40 hi hz0 .i64 .i64 len len (by omega) (by omega) (by rw [hz2]; omega) (by omega)
  rw [this, hz1]
  rfl


/-- what is known of the world while 'build' fills the tables: k of them are filled -/
structure Blt (w wr : World) (len : Nat) (zs : List Int) (k : Nat) : Prop where
  size : wr.heap.size = w.heap.size + 2
  below : Below w.heap.size w wr
  tabs : wr.cell? ⟨w.heap.size, 3, none⟩ = some (.slice (some ⟨w.heap.size + 1, 0, none⟩) len len)
  fault : wr.cell? ⟨w.heap.size, 23, none⟩ = some (.pointer none)
  free : ∀ j, wr.frozen? ⟨w.heap.size, j, none⟩ = false
  there : ∀ j, j < len * 4 → ∃ v, wr.cell? ⟨w.heap.size + 1, j, none⟩ = some v
  freeT : ∀ j, wr.frozen? ⟨w.heap.size + 1, j, none⟩ = false
  done : ∀ j, j < k → wr.cell? ⟨w.heap.size + 1, j * 4, none⟩ = some (.int .u8 (zs.getD j 0))

theorem addr_ne {b o b' o' : Nat} (h : b ≠ b' ∨ o ≠ o') : (⟨b, o, none⟩ : Addr) ≠ ⟨b', o', none⟩ := by
  intro e
  simp only [Addr.mk.injEq] at e
  omega

/-- one round of 'build' -/
theorem Blt.next {w wr : World} {len : Nat} {zs : List Int} {k : Nat} (h : Blt w wr len zs k) (hk : k < len) (x y z : Value) :
    Blt w ((((wr.setCell ⟨w.heap.size + 1, k * 4, none⟩ (.int .u8 (zs[k]?.getD 0))).setCell ⟨w.heap.size + 1, k * 4 + 1, none⟩ x).setCell ⟨w.heap.size + 1, k * 4 + 2, none⟩ y).setCell ⟨w.heap.size + 1, k * 4 + 3, none⟩ z).drew len zs (k + 1) := by
  have one : ∀ (wx : World) (o : Nat) (v : Value), (∀ j, j < len * 4 → ∃ u, wx.cell? ⟨w.heap.size + 1, j, none⟩ = some u) → (∀ j, j < len * 4 → ∃ u, (wx.setCell ⟨w.heap.size + 1, o, none⟩ v).cell? ⟨w.heap.size + 1, j, none⟩ = some u) := by
    intro wx o v hx j hj
    by_cases e : o = j
    · subst e
      obtain ⟨u, hu⟩ := hx o hj
      exact ⟨v, World.cell?_setCell_same _ _ _ hu⟩
    · rw [World.cell?_setCell_other _ _ _ _ (addr_ne (Or.inr e))]
      exact hx j hj
  constructor
  · simp [h.size]
  · exact ((((h.below.setCell (by simp) _).setCell (by simp) _).setCell (by simp) _).setCell (by simp) _).drew
  · rw [World.cell?_drew, World.cell?_setCell_other _ _ _ _ (addr_ne (Or.inl (by omega))), World.cell?_setCell_other _ _ _ _ (addr_ne (Or.inl (by omega))), World.cell?_setCell_other _ _ _ _ (addr_ne (Or.inl (by omega))), World.cell?_setCell_other _ _ _ _ (addr_ne (Or.inl (by omega)))]
    exact h.tabs
  · rw [World.cell?_drew, World.cell?_setCell_other _ _ _ _ (addr_ne (Or.inl (by omega))), World.cell?_setCell_other _ _ _ _ (addr_ne (Or.inl (by omega))), World.cell?_setCell_other _ _ _ _ (addr_ne (Or.inl (by omega))), World.cell?_setCell_other _ _ _ _ (addr_ne (Or.inl (by omega)))]
    exact h.fault
  · intro j; simp [h.free]
  · intro j hj
    rw [World.cell?_drew]
    exact one _ _ _ (one _ _ _ (one _ _ _ (one _ _ _ h.there))) j hj
  · intro j; simp [h.freeT]
  · intro j hj
    rw [World.cell?_drew, World.cell?_setCell_other _ _ _ _ (addr_ne (Or.inr (by omega))), World.cell?_setCell_other _ _ _ _ (addr_ne (Or.inr (by omega))), World.cell?_setCell_other _ _ _ _ (addr_ne (Or.inr (by omega)))]
    by_cases e : j = k
    · subst e
      obtain ⟨u, hu⟩ := h.there (j * 4) (by omega)
      rw [World.cell?_setCell_same _ _ _ hu]
      simp
    · rw [World.cell?_setCell_other _ _ _ _ (addr_ne (Or.inr (by omega)))]
      exact h.done j (by omega)

theorem Blt.start (w : World) (len : Nat) (zs : List Int) (C : Array Value) (h3 : C[3]? = some (.slice (some ⟨w.heap.size + 1, 0, none⟩) len len)) (h23 : C[23]? = some (.pointer none)) :
    Blt w ((w.alloc (.cells C 79)).alloc (.cells (tb0 len) 87)) len zs 0 := by
  constructor
  · simp
  · exact ((Below.refl _ _).alloc (Nat.le_refl _) _).alloc (by simp) _
  · rw [World.cell?_alloc2_first]; exact h3
  · rw [World.cell?_alloc2_first]; exact h23
  · intro j; simp
  · intro j hj
    rw [World.cell?_alloc2_new]
    exact ⟨_, Array.getElem?_eq_getElem (by rw [tb0_size]; exact hj)⟩
  · intro j; simp
  · intro j hj; omega

set_option maxRecDepth 100000 in
set_option maxHeartbeats 400000 in
theorem build_any (b off len cap : Nat) (zs : List Int) (w : World) (hc : ∀ i, i < len → w.cell? ⟨b, off + i, none⟩ = some (.int .u8 (zs.getD i 0))) (hb : b < w.heap.size) (hl : len ≤ 1024) (h1 : 1 ≤ len) :
    Calls Yba.prog 5 #[.slice (some ⟨b, off, none⟩) len cap] w fun e w' => e = .returned (.pointer (some ⟨w.heap.size, 0, none⟩)) ∧ Blt w w' len zs len := by
  have hmk := run_mk len hl
  go_enter Yba.func5, Yba.ntmps5
  go_wp2
  clear hmk
  go_loopw [4] (fun i wr => ∃ k : Nat, k ≤ len ∧ i = .int .i64 k ∧ Blt w wr len zs k) (fun i _ => len - (intOf i).toNat)
  case atStart =>
    exact ⟨0, Nat.zero_le _, rfl, Blt.start w len zs _ rfl rfl⟩
  case round =>
    obtain ⟨k, hk, rfl, B⟩ := hrel
    by_cases hlt : k < len
    · have hcx : wr.cell? ⟨b, off + k, none⟩ = some (.int .u8 (zs.getD k 0)) := (B.below.cell (by exact hb)).trans (hc k (by omega))
      have t0 := B.tabs
      obtain ⟨v0, c0⟩ := B.there (k * 4) (by omega)
      obtain ⟨v1, c1⟩ := B.there (k * 4 + 1) (by omega)
      obtain ⟨v2, c2⟩ := B.there (k * 4 + 2) (by omega)
      obtain ⟨v3, c3⟩ := B.there (k * 4 + 3) (by omega)
      have f := B.freeT
      go_wp2
      go_region
      go_wp2
      go_roundw
      case rel => exact ⟨k + 1, by omega, by go_num, B.next hlt _ _ _⟩
      case measure => simp [intOf]; omega
    · go_wp2
      go_ret
      have : k = len := by omega
      subst this
      exact ⟨rfl, B⟩
end Go.Proofs.Ybulknaq
