/-
  The test reader: one Read at its end, and one that gives bytes.
-/
import Derived.Test.YbulknaqDoorLeaf
import Derived.Laws.CopyOwn
import Derived.Deep.RegionLaw
namespace Go.Proofs.YbulknaqDoor
open Go.RowKit

/-- w' is w but for the blocks of S, and for new blocks -/
structure Kept (S : List Nat) (w w' : World) : Prop where
  os : w'.os = w.os
  tape : w'.tape = w.tape
  output : w'.output = w.output
  size : w.heap.size ≤ w'.heap.size
  block : ∀ b, b < w.heap.size → b ∉ S → w'.heap[b]? = w.heap[b]?

theorem Kept.refl (S : List Nat) (w : World) : Kept S w w := ⟨rfl, rfl, rfl, Nat.le_refl _, fun _ _ _ => rfl⟩
theorem Kept.trans {S : List Nat} {a b c : World} (h : Kept S a b) (k : Kept S b c) : Kept S a c :=
  ⟨k.os.trans h.os, k.tape.trans h.tape, k.output.trans h.output, Nat.le_trans h.size k.size, fun i hi hn => (k.block i (Nat.lt_of_lt_of_le hi h.size) hn).trans (h.block i hi hn)⟩
theorem Kept.drew {S : List Nat} {a w : World} (h : Kept S a w) : Kept S a w.drew := ⟨h.os, h.tape, h.output, h.size, h.block⟩
theorem Kept.alloc {S : List Nat} {a w : World} (h : Kept S a w) (o : Obj) : Kept S a (w.alloc o) :=
  h.trans ⟨rfl, rfl, rfl, by simp, fun k hk _ => Below.heap_alloc _ _ _ hk⟩
theorem Kept.setCell {S : List Nat} {a w : World} (h : Kept S a w) {p : Addr} (hp : p.block ∈ S) (u : Value) : Kept S a (w.setCell p u) :=
  h.trans ⟨rfl, rfl, rfl, by simp [World.setCell], fun k _ hn => Below.heap_setCell _ _ _ _ (fun e => hn (e ▸ hp))⟩
theorem Kept.cell {S : List Nat} {w w' : World} (h : Kept S w w') {b o : Nat} (hb : b < w.heap.size) (hn : b ∉ S) : w'.cell? ⟨b, o, none⟩ = w.cell? ⟨b, o, none⟩ := World.cell?_of_block (w := w) (h.block b hb hn)
theorem Kept.frozen {S : List Nat} {w w' : World} (h : Kept S w w') {b o : Nat} (hb : b < w.heap.size) (hn : b ∉ S) : w'.frozen? ⟨b, o, none⟩ = w.frozen? ⟨b, o, none⟩ := World.frozen?_of_block (w := w) (h.block b hb hn)
theorem Kept.below {S : List Nat} {B : Nat} {w0 w w' : World} (h : Kept S w w') (b : Below B w0 w) (hB : B ≤ w.heap.size) (hS : ∀ x ∈ S, B ≤ x) : Below B w0 w' :=
  b.trans ⟨h.os, h.tape, h.output, h.size, fun k hk => h.block k (by omega) (fun hm => by have := hS k hm; omega)⟩

/-- a reader over the data in block D: 'k' bytes given, 'c' at most at a time, 'calls' calls so far -/
structure Rdr (w : World) (R D len k c calls : Nat) (zs : List Int) : Prop where
  r0 : w.cell? ⟨R, 0, none⟩ = some (.slice (some ⟨D, 0, none⟩) len len)
  r1 : w.cell? ⟨R, 1, none⟩ = some (.int .i64 k)
  r2 : w.cell? ⟨R, 2, none⟩ = some (.int .i64 c)
  r3 : w.cell? ⟨R, 3, none⟩ = some (.int .i64 calls)
  fr : ∀ j, w.frozen? ⟨R, j, none⟩ = false
  dat : ∀ i, i < len → w.cell? ⟨D, i, none⟩ = some (.int .u8 (zs.getD i 0))
  hk : k ≤ len
  hl : len ≤ 1024
  c1 : 1 ≤ c
  c4 : c ≤ 4
  hc : calls ≤ k

set_option maxRecDepth 100000 in
set_option maxHeartbeats 400000 in
theorem read_end (w : World) (R D len c calls Bf : Nat) (zs : List Int) (EOFv : Value) (h : Rdr w R D len len c calls zs) (hE : w.cell? ⟨0, 0, none⟩ = some EOFv) :
    Calls Ybad.prog 36 #[.pointer (some ⟨R, 0, none⟩), .slice (some ⟨Bf, 0, none⟩) 16 16] w fun e w' => e = .returned (.tuple #[.int .i64 0, EOFv]) ∧ w' = (w.setCell ⟨R, 3, none⟩ (.int .i64 ((calls : Int) + 1))).drew.drew := by
  obtain ⟨r0, r1, r2, r3, fr, dat, hk, hl, c1, c4, hc⟩ := h
  have f3 := fr 3
  clear dat fr
  go_enter Ybad.func36, Ybad.ntmps36
  go_wp2
  go_region
  go_wp2
  go_region
  go_wp2
  go_ret2
  exact ⟨rfl, rfl⟩

/-- copy between two slices that lie somewhere, as one step of a region that draws its order: the very world -/
theorem step_copy_exact {P : Program} {ops : Array Oper} {o : Oper} {a : Act} {w : World} {K : Act → World → Prop} {Q : Exit → Act → World → Prop} {E : Prop} (hgd : o.guard = none) (d s : Operand) (dT sT : TypeId)
    (ho : o.op = .call { callee := .builtin .copy, args := #[d, s], argTypes := #[dT, sT] }) (elem : TypeId) (hu : P.underlying dT = some (.slice elem)) (hsz : (P.info? elem).map (·.size) = some 1)
    (b off dLen dCap : Nat) (ad : Addr) (sLen sCap : Nat) (hd : a.eval d = .slice (some ⟨b, off, none⟩) dLen dCap) (hs : a.eval s = .slice (some ad) sLen sCap)
    (cs : List Value) (hn : cs.length = Nat.min sLen dLen) (hsrc : ∀ j v, cs[j]? = some v → w.cell? (ad.add j) = some v)
    (hc : ∀ j, j < cs.length → (w.cell? ⟨b, off + j, none⟩).isSome = true) (hf : ∀ j, j < cs.length → w.frozen? ⟨b, off + j, none⟩ = false) (h1 : ∀ v ∈ cs, v.oneCell' = true)
    (h : K (a.put o.dst (goInt cs.length)) (w.setCells b off cs)) :
    if Region.wanted o (yielded ops a.tmps) = true then Oper.wp P o a w K Q else E := by
  have hw : Region.wanted o (yielded ops a.tmps) = true := by simp [Region.wanted, hgd]
  rw [if_pos hw]
  have hrun := run_copy_cells (P := P) w dT sT o.type elem b off dLen dCap ad sLen sCap cs hu hsz hn hsrc hc hf h1
  unfold Oper.wp
  simp [execOp, ho, resolve, invoke, builtin, hd, hs, hrun, Result.andThen]
  exact h

theorem addr_add (b o j : Nat) : (⟨b, o, none⟩ : Addr).add j = ⟨b, o + j, none⟩ := by unfold Addr.add; split <;> simp_all

/-- c bytes of the data from place k on, as cells -/
def chunk (zs : List Int) (k c : Nat) : List Value := (List.range c).map fun i => .int .u8 (zs.getD (k + i) 0)
theorem chunk_len (zs : List Int) (k c : Nat) : (chunk zs k c).length = c := by simp [chunk]
theorem chunk_at (zs : List Int) (k c j : Nat) (v : Value) (h : (chunk zs k c)[j]? = some v) : j < c ∧ v = .int .u8 (zs.getD (k + j) 0) := by
  have hj : j < c := by
    have := (List.getElem?_eq_some_iff.1 h).1
    rwa [chunk_len] at this
  refine ⟨hj, ?_⟩
  simp only [chunk, List.getElem?_map, List.getElem?_range hj, Option.map_some, Option.some.injEq] at h
  exact h.symm
theorem chunk_one (zs : List Int) (k c : Nat) : ∀ v ∈ chunk zs k c, v.oneCell' = true := by
  intro v hv
  simp only [chunk, List.mem_map] at hv
  obtain ⟨i, _, rfl⟩ := hv
  rfl

theorem size5 : (Ybad.prog.info? 5).map (·.size) = some 1 := by kernel_rfl

set_option maxRecDepth 100000 in
set_option maxHeartbeats 400000 in
theorem read_some1 (w : World) (R D len k c calls Bf : Nat) (zs : List Int) (h : Rdr w R D len k c calls zs) (hlt : k + c ≤ len) (hb : ∀ j, j < 16 → ∃ v, w.cell? ⟨Bf, j, none⟩ = some v) (hf : ∀ j, w.frozen? ⟨Bf, j, none⟩ = false) (hRB : R ≠ Bf) (hRD : R ≠ D) :
    Calls Ybad.prog 36 #[.pointer (some ⟨R, 0, none⟩), .slice (some ⟨Bf, 0, none⟩) 16 16] w fun e w' => e = .returned (.tuple #[.int .i64 c, .nilIface]) ∧ w' = (((w.setCell ⟨R, 3, none⟩ (.int .i64 ((calls : Int) + 1))).drew.drew.drew.setCells Bf 0 (chunk zs k c)).setCell ⟨R, 1, none⟩ (.int .i64 ((k : Int) + c))) := by
  obtain ⟨r0, r1, r2, r3, fr, dat, hk, hl, c1, c4, hc⟩ := h
  have f3 := fr 3
  have f1 := fr 1
  have DAT : Hid (∀ i, i < len → w.cell? ⟨D, i, none⟩ = some (.int .u8 (zs.getD i 0))) := dat
  have n1 : ¬ len = k := by omega
  have w1 : IntKind.i64.wrap ((k : Int) + (c : Int)) = (k : Int) + (c : Int) := by rw [IntKind.wrap_i64]; omega
  have w0 : 0 ≤ (k : Int) + (c : Int) := by omega
  have w2 : (k : Int) + (c : Int) ≤ (len : Int) := by omega
  have w3 : ((k : Int) + (c : Int)).toNat = k + c := by omega
  have S1 : Hid (∀ j v, (chunk zs k c)[j]? = some v → (w.setCell ⟨R, 3, none⟩ (.int .i64 ((calls : Int) + 1))).cell? ((⟨D, k, none⟩ : Addr).add j) = some v) := by
    intro j v hj
    obtain ⟨hjc, rfl⟩ := chunk_at _ _ _ _ _ hj
    rw [addr_add, World.cell?_setCell_other _ _ _ _ (by intro e; simp only [Addr.mk.injEq] at e; omega)]
    exact dat (k + j) (by omega)
  have S2 : Hid (∀ j, j < (chunk zs k c).length → ((w.setCell ⟨R, 3, none⟩ (.int .i64 ((calls : Int) + 1))).cell? ⟨Bf, 0 + j, none⟩).isSome = true) := by
    intro j hj
    rw [chunk_len] at hj
    rw [World.cell?_setCell_other _ _ _ _ (by intro e; simp only [Addr.mk.injEq] at e; omega)]
    obtain ⟨v, hv⟩ := hb (0 + j) (by omega)
    rw [hv]; rfl
  have S3 : Hid (∀ j, j < (chunk zs k c).length → (w.setCell ⟨R, 3, none⟩ (.int .i64 ((calls : Int) + 1))).frozen? ⟨Bf, 0 + j, none⟩ = false) := by
    intro j _
    rw [World.frozen?_setCell]
    exact hf _
  have hmin : Hid ((chunk zs k c).length = Nat.min c 16) := by show _ = _; rw [chunk_len]; exact (Nat.min_eq_left (by omega)).symm
  have T1 : ((w.setCell ⟨R, 3, none⟩ (.int .i64 ((calls : Int) + 1))).drew.drew.drew.setCells Bf 0 (chunk zs k c)).cell? ⟨R, 1, none⟩ = some (.int .i64 k) := by
    rw [World.cell?_setCells_out _ _ _ _ _ (fun e => absurd e hRB), World.cell?_drew, World.cell?_drew, World.cell?_drew, World.cell?_setCell_other _ _ _ _ (by simp)]
    exact r1
  have T2 : ((w.setCell ⟨R, 3, none⟩ (.int .i64 ((calls : Int) + 1))).drew.drew.drew.setCells Bf 0 (chunk zs k c)).frozen? ⟨R, 1, none⟩ = false := by
    rw [World.frozen?_setCells, World.frozen?_drew, World.frozen?_drew, World.frozen?_drew, World.frozen?_setCell]
    exact f1
  clear dat fr hb hf
  go_enter Ybad.func36, Ybad.ntmps36
  go_wp2
  go_region
  go_wp2
  go_region
  go_wp2
  go_region_law (refine step_copy_exact rfl (.tmp 50) (.tmp 65) 22 22 rfl 5 Ybad.underlying22 size5 Bf 0 16 16 ⟨D, k, none⟩ c (len - k) (by simp [Act.eval, Act.put]) (by simp [Act.eval, Act.put]) (chunk zs k c) hmin.out S1.out S2.out S3.out (chunk_one zs k c) ?_)
  all_goals
    clear S1 S2 S3 hmin DAT
    go_wp2
    go_ret2
    exact ⟨rfl, rfl⟩
set_option maxRecDepth 100000 in
set_option maxHeartbeats 400000 in
theorem read_some2 (w : World) (R D len k c calls Bf : Nat) (zs : List Int) (h : Rdr w R D len k c calls zs) (hlt : len < k + c) (hkl : k < len) (hb : ∀ j, j < 16 → ∃ v, w.cell? ⟨Bf, j, none⟩ = some v) (hf : ∀ j, w.frozen? ⟨Bf, j, none⟩ = false) (hRB : R ≠ Bf) (hRD : R ≠ D) :
    Calls Ybad.prog 36 #[.pointer (some ⟨R, 0, none⟩), .slice (some ⟨Bf, 0, none⟩) 16 16] w fun e w' => e = .returned (.tuple #[.int .i64 ((len : Int) - k), .nilIface]) ∧ w' = (((w.setCell ⟨R, 3, none⟩ (.int .i64 ((calls : Int) + 1))).drew.drew.drew.setCells Bf 0 (chunk zs k (len - k))).setCell ⟨R, 1, none⟩ (.int .i64 (len : Int))) := by
  obtain ⟨r0, r1, r2, r3, fr, dat, hk, hl, c1, c4, hc⟩ := h
  have f3 := fr 3
  have f1 := fr 1
  have DAT : Hid (∀ i, i < len → w.cell? ⟨D, i, none⟩ = some (.int .u8 (zs.getD i 0))) := dat
  have n1 : ¬ len = k := by omega
  have w1 : IntKind.i64.wrap ((k : Int) + ((len : Int) - (k : Int))) = (len : Int) := by rw [IntKind.wrap_i64]; omega
  have S1 : Hid (∀ j v, (chunk zs k (len - k))[j]? = some v → (w.setCell ⟨R, 3, none⟩ (.int .i64 ((calls : Int) + 1))).cell? ((⟨D, k, none⟩ : Addr).add j) = some v) := by
    intro j v hj
    obtain ⟨hjc, rfl⟩ := chunk_at _ _ _ _ _ hj
    rw [addr_add, World.cell?_setCell_other _ _ _ _ (by intro e; simp only [Addr.mk.injEq] at e; omega)]
    exact dat (k + j) (by omega)
  have S2 : Hid (∀ j, j < (chunk zs k (len - k)).length → ((w.setCell ⟨R, 3, none⟩ (.int .i64 ((calls : Int) + 1))).cell? ⟨Bf, 0 + j, none⟩).isSome = true) := by
    intro j hj
    rw [chunk_len] at hj
    rw [World.cell?_setCell_other _ _ _ _ (by intro e; simp only [Addr.mk.injEq] at e; omega)]
    obtain ⟨v, hv⟩ := hb (0 + j) (by omega)
    rw [hv]; rfl
  have S3 : Hid (∀ j, j < (chunk zs k (len - k)).length → (w.setCell ⟨R, 3, none⟩ (.int .i64 ((calls : Int) + 1))).frozen? ⟨Bf, 0 + j, none⟩ = false) := by
    intro j _
    rw [World.frozen?_setCell]
    exact hf _
  have hmin : Hid ((chunk zs k (len - k)).length = Nat.min (len - k) 16) := by show _ = _; rw [chunk_len]; exact (Nat.min_eq_left (by omega)).symm
  have T1 : ((w.setCell ⟨R, 3, none⟩ (.int .i64 ((calls : Int) + 1))).drew.drew.drew.setCells Bf 0 (chunk zs k (len - k))).cell? ⟨R, 1, none⟩ = some (.int .i64 k) := by
    rw [World.cell?_setCells_out _ _ _ _ _ (fun e => absurd e hRB), World.cell?_drew, World.cell?_drew, World.cell?_drew, World.cell?_setCell_other _ _ _ _ (by simp)]
    exact r1
  have T2 : ((w.setCell ⟨R, 3, none⟩ (.int .i64 ((calls : Int) + 1))).drew.drew.drew.setCells Bf 0 (chunk zs k (len - k))).frozen? ⟨R, 1, none⟩ = false := by
    rw [World.frozen?_setCells, World.frozen?_drew, World.frozen?_drew, World.frozen?_drew, World.frozen?_setCell]
    exact f1
  clear dat fr hb hf
  go_enter Ybad.func36, Ybad.ntmps36
  go_wp2
  go_region
  go_wp2
  go_region
  go_wp2
  go_region_law (refine step_copy_exact rfl (.tmp 50) (.tmp 65) 22 22 rfl 5 Ybad.underlying22 size5 Bf 0 16 16 ⟨D, k, none⟩ (len - k) (len - k) (by simp [Act.eval, Act.put]) (by simp [Act.eval, Act.put]) (chunk zs k (len - k)) hmin.out S1.out S2.out S3.out (chunk_one zs k (len - k)) ?_)
  all_goals
    clear S1 S2 S3 hmin DAT
    go_wp2
    go_ret2
    exact ⟨rfl, rfl⟩

/-- the world behind a Read that gives m bytes -/
def readW (w : World) (R Bf k calls m : Nat) (zs : List Int) : World :=
  ((w.setCell ⟨R, 3, none⟩ (.int .i64 ((calls : Int) + 1))).drew.drew.drew.setCells Bf 0 (chunk zs k m)).setCell ⟨R, 1, none⟩ (.int .i64 ((k + m : Nat) : Int))

theorem read_some (w : World) (R D len k c calls Bf : Nat) (zs : List Int) (h : Rdr w R D len k c calls zs) (hkl : k < len) (hb : ∀ j, j < 16 → ∃ v, w.cell? ⟨Bf, j, none⟩ = some v) (hf : ∀ j, w.frozen? ⟨Bf, j, none⟩ = false) (hRB : R ≠ Bf) (hRD : R ≠ D) :
    Calls Ybad.prog 36 #[.pointer (some ⟨R, 0, none⟩), .slice (some ⟨Bf, 0, none⟩) 16 16] w fun e w' => ∃ m : Nat, 1 ≤ m ∧ m ≤ 4 ∧ k + m ≤ len ∧ e = .returned (.tuple #[.int .i64 m, .nilIface]) ∧ readW w R Bf k calls m zs = w' := by
  by_cases hlt : k + c ≤ len
  · refine (read_some1 w R D len k c calls Bf zs h hlt hb hf hRB hRD).mono ?_
    rintro e w' ⟨rfl, rfl⟩
    exact ⟨c, h.c1, h.c4, hlt, rfl, by simp [readW]⟩
  · refine (read_some2 w R D len k c calls Bf zs h (by omega) hkl hb hf hRB hRD).mono ?_
    rintro e w' ⟨rfl, rfl⟩
    have h4 := h.c4
    have e1 : ((len : Int) - k) = ((len - k : Nat) : Int) := by omega
    have e2 : ((k + (len - k) : Nat) : Int) = (len : Int) := by omega
    exact ⟨len - k, by omega, by omega, by omega, by rw [e1], by rw [readW, e2]⟩
end Go.Proofs.YbulknaqDoor
