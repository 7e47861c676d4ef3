/-
  'LawS0679APreloaded', walked.
-/
import Derived.Test.YbulknaqDoorCheck
namespace Go.Proofs.YbulknaqDoor
open Go.RowKit

/-- copy into a slice that lies somewhere, from a slice that may be empty: the very world -/
theorem wpList_copy_cells {P : Program} {w : World} {ops : Array Oper} {rest : List Oper} {o : Oper} {a : Act} {Q : Exit → Act → World → Prop} (hgd : o.guard = none) (d s : Operand) (dT sT : TypeId)
    (ho : o.op = .call { callee := .builtin .copy, args := #[d, s], argTypes := #[dT, sT] }) (elem : TypeId) (hu : P.underlying dT = some (.slice elem)) (hsz : (P.info? elem).map (·.size) = some 1)
    (b off dLen dCap : Nat) (sp : Option Addr) (sLen sCap : Nat) (hd : a.eval d = .slice (some ⟨b, off, none⟩) dLen dCap) (hs : a.eval s = .slice sp sLen sCap)
    (cs : List Value) (hn : cs.length = Nat.min sLen dLen) (hpos : 0 < cs.length → ∃ ad, sp = some ad ∧ ∀ j v, cs[j]? = some v → w.cell? (ad.add j) = some v)
    (hc : ∀ j, j < cs.length → (w.cell? ⟨b, off + j, none⟩).isSome = true) (hf : ∀ j, j < cs.length → w.frozen? ⟨b, off + j, none⟩ = false) (h1 : ∀ v ∈ cs, v.oneCell' = true)
    (h : ∀ w', Hid (w.setCells b off cs = w') → wpList P ops Q rest (a.put o.dst (goInt cs.length)) w') : wpList P ops Q (o :: rest) a w := by
  by_cases h0 : cs.length = 0
  · obtain rfl : cs = [] := List.eq_nil_of_length_eq_zero h0
    exact wpList_copy_nothing hgd d s dT sT ho elem hu hsz _ _ _ _ _ _ hd hs (by simpa using hn.symm) (h _ rfl)
  · obtain ⟨ad, rfl, hsrc⟩ := hpos (by omega)
    refine wpList_plain hgd fun K hK => ?_
    have hrun := run_copy_cells (P := P) w dT sT o.type elem b off dLen dCap ad sLen sCap cs hu hsz hn hsrc hc hf h1
    unfold Oper.wp
    simp [execOp, ho, resolve, invoke, builtin, hd, hs, hrun, Result.andThen]
    exact hK _ _ (h _ rfl)

theorem info5 : (Ybad.prog.info? 5).map (fun i => (i.zero, i.size, i.bytes)) = some (some (.int .u8 0), 1, 1) := by kernel_rfl
/-- new bytes, all nought -/
def bz (len : Nat) : Array Value := madeCells #[.int .u8 0] (len * 1)
theorem bz_size (len : Nat) : (bz len).size = len := by rw [bz, size_madeCells]; omega
theorem run_mk (len : Nat) (hl : len ≤ 1024) (w : World) : (Instr.makeSlice 22 (.int .i64 (len:Int)) (.int .i64 (len:Int))).run Ybad.prog w = .ok (.slice (some ⟨w.heap.size,0,none⟩) len len) (w.alloc (.cells (bz len) 5)) := by
  obtain ⟨i0, hi, hz0, hz1, hz2⟩ := info_parts info5
  have := run_make (P := Ybad.prog) w 22 5 i0 _ Ybad.underlying22 hi hz0 .i64 .i64 len len (by omega) (by omega) (by rw [hz2]; omega) (by omega)
  rw [this, hz1]
  rfl

/-- the data as the law gets it: nil, or its cells -/
def DataAt (w : World) (a0 : Option Addr) (len : Nat) (zs : List Int) : Prop := 0 < len → ∃ b off, a0 = some ⟨b, off, none⟩ ∧ ∀ i, i < len → w.cell? ⟨b, off + i, none⟩ = some (.int .u8 (zs.getD i 0))

/-- the world behind 'd := make(..); copy(d, data)' -/
structure Dat (w w1 : World) (zs : List Int) (len : Nat) : Prop where
  size : w1.heap.size = w.heap.size + 1
  below : Below w.heap.size w w1
  dat : ∀ i, i < len → w1.cell? ⟨w.heap.size, i, none⟩ = some (.int .u8 (zs.getD i 0))

theorem size_setCells (b : Nat) : ∀ (vs : List Value) (o : Nat) (w : World), (w.setCells b o vs).heap.size = w.heap.size
  | [], _, _ => rfl
  | v :: r, o, w => by rw [World.setCells, size_setCells b r, World.size_setCell]

theorem dat_of {w w1 : World} {zs : List Int} {len : Nat} (h : (w.alloc (.cells (bz len) 5)).setCells w.heap.size 0 (chunk zs 0 len) = w1) : Dat w w1 zs len := by
  subst h
  refine ⟨by rw [size_setCells, World.size_alloc], below_setCells _ (Nat.le_refl _) _ _ _ ((Below.refl _ _).alloc (Nat.le_refl _) _), fun i hi => ?_⟩
  have hl : i < (chunk zs 0 len).length := by rw [chunk_len]; exact hi
  have := World.cell?_setCells_in w.heap.size (chunk zs 0 len) 0 (w.alloc (.cells (bz len) 5)) (fun j hj => by rw [chunk_len] at hj; rw [World.cell?_alloc_new, Array.getElem?_eq_getElem (by rw [bz_size]; omega)]; rfl) i hl
  rw [Nat.zero_add] at this
  rw [this, (chunk_at zs 0 len i _ (List.getElem?_eq_getElem hl)).2]
  simp

/-- the cells of a zero reader, of the preloaded input, of a span -/
def rz : Array Value := #[.slice none 0 0, .int .i64 0, .int .i64 0, .int .i64 0]
def inC (R Bf len : Nat) (a : Addr) : Array Value := #[.iface 24 (.pointer (some ⟨R, 0, none⟩)), .iface 78 (.pointer (some a)), .slice (some ⟨Bf, 0, none⟩) len len, .bool false, .int .i64 0, .int .i64 0, .bool false]

theorem pre_St {w w1 : World} {zs : List Int} {len : Nat} (h : Dat w w1 zs len) (a : Addr) (hl : len ≤ 1024) (o : Obj) :
    St w (((w1.alloc (.cells rz 26)).alloc (.cells (inC (w.heap.size + 1) w.heap.size len a) 32)).alloc o) (w.heap.size + 1 + 1) w.heap.size (w.heap.size + 1) w.heap.size len 0 len len 0 0 1 zs a true false (fun _ _ _ => False) := by
  have hs := h.size
  have cN : ∀ i, (((w1.alloc (.cells rz 26)).alloc (.cells (inC (w.heap.size + 1) w.heap.size len a) 32)).alloc o).cell? ⟨w.heap.size + 1 + 1, i, none⟩ = (inC (w.heap.size + 1) w.heap.size len a)[i]? := fun i => by
    rw [World.cell?_alloc_past _ _ _ (by simp only [World.size_alloc]; omega), World.cell?_alloc_at _ _ _ _ (by simp only [World.size_alloc]; omega)]
  have cR : ∀ i, (((w1.alloc (.cells rz 26)).alloc (.cells (inC (w.heap.size + 1) w.heap.size len a) 32)).alloc o).cell? ⟨w.heap.size + 1, i, none⟩ = rz[i]? := fun i => by
    rw [World.cell?_alloc_past _ _ _ (by simp only [World.size_alloc]; omega), World.cell?_alloc_past _ _ _ (by simp only [World.size_alloc]; omega), World.cell?_alloc_at _ _ _ _ (by omega)]
  refine ⟨⟨by rw [cN]; rfl, by rw [cN]; rfl, by rw [cN]; rfl, by rw [cN]; rfl, by rw [cN]; rfl, Nat.le_refl _, Nat.zero_le _, Nat.le_refl _, by omega⟩, fun j => ?_, fun i hi => ?_, by rw [cR]; rfl, ?_, by omega, Nat.le_refl _, by omega, by omega, by omega, by omega, by omega, by omega, hl, by omega, fun _ => by omega, (fun x => by cases x), (fun x => by cases x), (fun _ _ _ x => x.elim)⟩
  · rw [World.frozen?_alloc_past _ _ _ (by simp only [World.size_alloc]; omega), World.frozen?_alloc_at _ _ _ _ (by simp only [World.size_alloc]; omega)]
  · rw [World.cell?_alloc_past _ _ _ (by simp only [World.size_alloc]; omega), World.cell?_alloc_past _ _ _ (by simp only [World.size_alloc]; omega), World.cell?_alloc_past _ _ _ (by omega), Nat.zero_add]
    exact h.dat i hi
  · exact ((h.below.alloc (by omega) _).alloc (by simp only [World.size_alloc]; omega) _).alloc (by simp only [World.size_alloc]; omega) _

/-- what the law asks of 'zzs0679acheck', whatever 'fixed' gave -/
theorem check_fixed {w0 w : World} {a0 : Option Addr} {len cap k N R : Nat} {zs : List Int} {en : Int} {rl : Bool} (hd : DataAt w0 a0 len zs) (hl : len ≤ 1024) (hlc : len ≤ cap) (hk : k ≤ 8) (hz : ∀ j : Nat, 0 ≤ zs[j]?.getD 0 ∧ zs[j]?.getD 0 ≤ 255) (v err : Value) (off : Nat) (F : Fin w0 w N R k off rl)
    (h : (len < k ∧ v = .int .u64 0 ∧ off = len ∧ ∃ g, err = .iface 49 (.pointer (some ⟨g, 0, none⟩)) ∧ Mal w g len unEnd) ∨
      (k ≤ len ∧ (k : Int) ≤ en ∧ v = .int .u64 (le zs k) ∧ off = k ∧ err = .nilIface) ∨
      (k ≤ len ∧ en < (k : Int) ∧ v = .int .u64 (le zs k) ∧ off = k ∧ ∃ g, err = .iface 49 (.pointer (some ⟨g, 0, none⟩)) ∧ Mal w g en secEnd)) :
    Calls Ybad.prog 6 #[.slice a0 len cap, .int .i64 k, .int .i64 en, v, err, .int .i64 off] w fun e w' => e = .returned (.bool true) ∧ Below w0.heap.size w0 w' := by
  have fin : ∀ {e : Ending} {w' : World}, e = .returned (.bool true) ∧ Below w.heap.size w w' → e = .returned (.bool true) ∧ Below w0.heap.size w0 w' := fun ⟨x, y⟩ => ⟨x, F.below.trans (y.mono F.below.size)⟩
  have hdat : 0 < len → ∃ b o, a0 = some ⟨b, o, none⟩ ∧ ∀ i, i < len → w.cell? ⟨b, o + i, none⟩ = some (.int .u8 (zs.getD i 0)) := fun hp => by
    obtain ⟨b, o, rfl, hc⟩ := hd hp
    exact ⟨b, o, rfl, fun i hi => cell_later F.below (hc i hi)⟩
  rcases h with ⟨h1, rfl, rfl, g, rfl, M⟩ | ⟨h1, h2, rfl, rfl, rfl⟩ | ⟨h1, h2, rfl, rfl, g, rfl, M⟩
  · exact (check_short a0 off cap k g en w h1 hk M).mono fun e w' ⟨x, y⟩ => ⟨x, by subst y; exact F.below⟩
  · by_cases h0 : off = 0
    · subst h0
      exact (check_zero_nil a0 len cap zs en w hlc hl h2 hz).mono fun e w' x => fin x
    · obtain ⟨b, o, rfl, hc⟩ := hdat (by omega)
      exact (check_long_nil b o len cap off zs en w h1 hk (by omega) hl hlc h2 hz hc).mono fun e w' x => fin x
  · by_cases h0 : off = 0
    · subst h0
      exact (check_zero_past a0 len cap zs en w hlc hl h2 g M hz).mono fun e w' x => fin x
    · obtain ⟨b, o, rfl, hc⟩ := hdat (by omega)
      exact (check_long_past b o len cap off zs en w h1 hk (by omega) hl hlc h2 g M hz hc).mono fun e w' x => fin x

set_option maxRecDepth 100000 in
set_option maxHeartbeats 1000000 in
theorem preloaded_any (a0 : Option Addr) (len cap n : Nat) (zs : List Int) (en : Int) (a : Addr) (w : World) (hl : len ≤ 1024) (hlc : len ≤ cap) (hz : ∀ j : Nat, 0 ≤ zs[j]?.getD 0 ∧ zs[j]?.getD 0 ≤ 255) (hn : n ≤ 255) (hE : w.cell? ⟨0, 0, none⟩ = some (.iface 78 (.pointer (some a)))) (hd : DataAt w a0 len zs) :
    Calls Ybad.prog 3 #[.slice a0 len cap, .int .u8 n, .int .i64 en] w fun e w' => e = .returned (.bool true) ∧ Below w.heap.size w w' := by
  have h00 : 0 < w.heap.size := World.block_lt_of_cell? _ _ hE
  have hmk := run_mk len hl
  have g1 : ¬ ((1024 : Int) < (len : Int)) := by omega
  have C1 : Hid ((chunk zs 0 len).length = Nat.min len len) := by show _ = _; rw [chunk_len]; exact (Nat.min_self _).symm
  have C2 : Hid (0 < (chunk zs 0 len).length → ∃ ad, a0 = some ad ∧ ∀ j v, (chunk zs 0 len)[j]? = some v → (w.alloc (.cells (bz len) 5)).cell? (ad.add j) = some v) := by
    intro hpos
    rw [chunk_len] at hpos
    obtain ⟨b, off, rfl, hc⟩ := hd hpos
    refine ⟨_, rfl, fun j v hj => ?_⟩
    obtain ⟨hjc, rfl⟩ := chunk_at _ _ _ _ _ hj
    rw [addr_add, World.cell?_alloc_lt _ _ _ (World.block_lt_of_cell? _ _ (hc j hjc)), Nat.zero_add]
    exact hc j hjc
  have C3 : Hid (∀ j, j < (chunk zs 0 len).length → ((w.alloc (.cells (bz len) 5)).cell? ⟨w.heap.size, 0 + j, none⟩).isSome = true) := by
    intro j hj
    rw [chunk_len] at hj
    rw [World.cell?_alloc_new, Array.getElem?_eq_getElem (by rw [bz_size]; omega)]; rfl
  have C4 : Hid (∀ j, j < (chunk zs 0 len).length → (w.alloc (.cells (bz len) 5)).frozen? ⟨w.heap.size, 0 + j, none⟩ = false) := by
    intro j _
    rw [World.frozen?_alloc_new]
  go_enter Ybad.func3, Ybad.ntmps3
  go_wp2_with (refine wpList_copy_cells rfl (.tmp 22) (.tmp 23) 22 22 rfl 5 Ybad.underlying22 size5 w.heap.size 0 len len a0 len cap rfl rfl (chunk zs 0 len) C1.out C2.out C3.out C4.out (chunk_one zs 0 len) ?_; intro w1 hw1; have DA : Hid (Dat w w1 zs len) := dat_of hw1.out; have hsz : w1.heap.size = w.heap.size + 1 := DA.out.size; have hE1 : w1.cell? ⟨0, 0, none⟩ = some (.iface 78 (.pointer (some a))) := (DA.out.below.cell (p := ⟨0, 0, none⟩) h00).trans hE; have h01 : 0 < w1.heap.size := (by omega))
  have em : ((n : Int) % 9) = ((n % 9 : Nat) : Int) := by omega
  have hk : n % 9 ≤ 8 := by omega
  rw [em]
  generalize n % 9 = k at hk ⊢
  clear em C1 C2 C3 C4 hw1
  refine (fixed_any (pre_St DA.out a hl _) (by simp only [World.size_alloc]; omega) hE k hk en hz).mono ?_
  have HD : Hid (DataAt w a0 len zs) := hd
  have HZ : Hid (∀ j : Nat, 0 ≤ zs[j]?.getD 0 ∧ zs[j]?.getD 0 ≤ 255) := hz
  clear hd hz DA hE hE1
  rintro e w2 (⟨h1, g, rfl, M, F⟩ | ⟨h1, h2, rfl, F⟩ | ⟨h1, h2, g, rfl, M, F⟩)
  · have ho := F.off
    have HF : Hid (Fin w w2 (w.heap.size + 1 + 1) (w.heap.size + 1) k len false) := F
    have HM : Hid (Mal w2 g len unEnd) := M
    clear F M
    go_wp2_with (go_at_call 6; refine (check_fixed HD.out hl hlc hk HZ.out _ _ len HF.out (Or.inl ⟨h1, rfl, rfl, g, rfl, HM.out⟩)).mono ?_; rintro e w3 ⟨rfl, B⟩)
    go_ret
    exact ⟨rfl, B⟩
  · have ho := F.off
    have HF : Hid (Fin w w2 (w.heap.size + 1 + 1) (w.heap.size + 1) k k false) := F
    clear F
    go_wp2_with (go_at_call 6; refine (check_fixed HD.out hl hlc hk HZ.out _ _ k HF.out (Or.inr (Or.inl ⟨h1, h2, rfl, rfl, rfl⟩))).mono ?_; rintro e w3 ⟨rfl, B⟩)
    go_ret
    exact ⟨rfl, B⟩
  · have ho := F.off
    have HF : Hid (Fin w w2 (w.heap.size + 1 + 1) (w.heap.size + 1) k k false) := F
    have HM : Hid (Mal w2 g en secEnd) := M
    clear F M
    go_wp2_with (go_at_call 6; refine (check_fixed HD.out hl hlc hk HZ.out _ _ k HF.out (Or.inr (Or.inr ⟨h1, h2, rfl, rfl, g, rfl, HM.out⟩))).mono ?_; rintro e w3 ⟨rfl, B⟩)
    go_ret
    exact ⟨rfl, B⟩
end Go.Proofs.YbulknaqDoor
