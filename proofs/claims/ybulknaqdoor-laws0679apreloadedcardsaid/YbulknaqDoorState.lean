/-
  The state of an input, and what 'fill' makes of it.
-/
import Derived.Test.YbulknaqDoorFill
namespace Go.Proofs.YbulknaqDoor
open Go.RowKit

/-- the state of an input: 'mode': the end has been met (err holds io.EOF); 'rl': the bytes come through the reader from the start; 'Fr': cells of other blocks, which stay as they are -/
structure St (w0 w : World) (N Bf R D len start blen bcap off calls c : Nat) (zs : List Int) (a : Addr) (mode rl : Bool) (Fr : Nat → Nat → Value → Prop) : Prop where
  inp : Inp w N Bf blen bcap start off (if mode then .iface 78 (.pointer (some a)) else .nilIface)
  frN : ∀ j, w.frozen? ⟨N, j, none⟩ = false
  bytes : ∀ i, i < blen → w.cell? ⟨Bf, i, none⟩ = some (.int .u8 (zs.getD (start + i) 0))
  rcl : w.cell? ⟨R, 3, none⟩ = some (.int .i64 calls)
  below : Below w0.heap.size w0 w
  n0 : w0.heap.size ≤ N
  b0 : w0.heap.size ≤ Bf
  r0 : w0.heap.size ≤ R
  NR : N ≠ R
  NB : N ≠ Bf
  ND : N ≠ D
  RB : R ≠ Bf
  RD : R ≠ D
  hl : len ≤ 1024
  hend : start + blen ≤ len
  hmode : mode = true → start + blen = len
  rd : mode = false → w.cell? ⟨N, 0, none⟩ = some (.iface 24 (.pointer (some ⟨R, 0, none⟩))) ∧ Rdr w R D len (start + blen) c calls zs ∧ bcap = 16 ∧ (∀ j, j < 16 → ∃ v, w.cell? ⟨Bf, j, none⟩ = some v) ∧ (∀ j, w.frozen? ⟨Bf, j, none⟩ = false) ∧ D ≠ Bf
  cl : rl = true → (mode = true ∨ 0 < start + blen) → 1 ≤ calls
  frm : ∀ b o v, Fr b o v → b ≠ N ∧ b ≠ R ∧ b ≠ Bf ∧ w.cell? ⟨b, o, none⟩ = some v

theorem below_setCells {B : Nat} {w0 : World} (b : Nat) (hb : B ≤ b) : ∀ (vs : List Value) (o : Nat) (w : World), Below B w0 w → Below B w0 (w.setCells b o vs)
  | [], _, _, h => h
  | v :: r, o, _, h => below_setCells b hb r (o + 1) _ (h.setCell (p := ⟨b, o, none⟩) hb v)

theorem postW_cell (w : World) (N Bf m : Nat) (err : Value) (b o : Nat) (h : b ≠ N ∨ (o ≠ 1 ∧ o ≠ 2 ∧ o ≠ 3)) : (postW w N Bf m err).cell? ⟨b, o, none⟩ = w.cell? ⟨b, o, none⟩ := by
  have n1 : (⟨N, 1, none⟩ : Addr) ≠ ⟨b, o, none⟩ := by intro e; simp only [Addr.mk.injEq] at e; omega
  have n2 : (⟨N, 2, none⟩ : Addr) ≠ ⟨b, o, none⟩ := by intro e; simp only [Addr.mk.injEq] at e; omega
  have n3 : (⟨N, 3, none⟩ : Addr) ≠ ⟨b, o, none⟩ := by intro e; simp only [Addr.mk.injEq] at e; omega
  rw [postW, World.cell?_setCell_other _ _ _ _ n1, World.cell?_setCell_other _ _ _ _ n3, World.cell?_setCell_other _ _ _ _ n2]
theorem postW_frozen (w : World) (N Bf m : Nat) (err : Value) (x : Addr) : (postW w N Bf m err).frozen? x = w.frozen? x := by
  rw [postW, World.frozen?_setCell, World.frozen?_setCell, World.frozen?_setCell]
theorem postW_one (w : World) (N Bf m : Nat) (err : Value) {v : Value} (h : w.cell? ⟨N, 1, none⟩ = some v) : (postW w N Bf m err).cell? ⟨N, 1, none⟩ = some err :=
  World.cell?_setCell_same (u := v) _ _ _ (by rw [World.cell?_setCell_other _ _ _ _ (by simp), World.cell?_setCell_other _ _ _ _ (by simp)]; exact h)
theorem postW_two (w : World) (N Bf m : Nat) (err : Value) {v : Value} (h : w.cell? ⟨N, 2, none⟩ = some v) : (postW w N Bf m err).cell? ⟨N, 2, none⟩ = some (.slice (some ⟨Bf, 0, none⟩) m 16) := by
  rw [postW, World.cell?_setCell_other _ _ _ _ (by simp), World.cell?_setCell_other _ _ _ _ (by simp)]
  exact World.cell?_setCell_same _ _ _ h
theorem postW_three (w : World) (N Bf m : Nat) (err : Value) {v : Value} (h : w.cell? ⟨N, 3, none⟩ = some v) : (postW w N Bf m err).cell? ⟨N, 3, none⟩ = some (.bool false) := by
  rw [postW, World.cell?_setCell_other _ _ _ _ (by simp)]
  exact World.cell?_setCell_same (u := v) _ _ _ (by rw [World.cell?_setCell_other _ _ _ _ (by simp)]; exact h)
theorem postW_below {B : Nat} {w0 w : World} (h : Below B w0 w) (N Bf m : Nat) (err : Value) (hN : B ≤ N) : Below B w0 (postW w N Bf m err) :=
  ((h.setCell (p := ⟨N, 2, none⟩) hN _).setCell (p := ⟨N, 3, none⟩) hN _).setCell (p := ⟨N, 1, none⟩) hN _
theorem preW_below {B : Nat} {w0 w : World} (h : Below B w0 w) (N Bf k : Nat) (hN : B ≤ N) : Below B w0 (preW w N Bf k) :=
  ((h.setCell (p := ⟨N, 2, none⟩) hN _).setCell (p := ⟨N, 4, none⟩) hN _).drew.drew.drew.drew
theorem readW_below {B : Nat} {w0 w : World} (h : Below B w0 w) (R Bf k calls m : Nat) (zs : List Int) (hR : B ≤ R) (hB : B ≤ Bf) : Below B w0 (readW w R Bf k calls m zs) :=
  (below_setCells Bf hB _ _ _ (h.setCell (p := ⟨R, 3, none⟩) hR _).drew.drew.drew).setCell (p := ⟨R, 1, none⟩) hR _
theorem endW_below {B : Nat} {w0 w : World} (h : Below B w0 w) (R calls : Nat) (hR : B ≤ R) : Below B w0 (endW w R calls) :=
  (h.setCell (p := ⟨R, 3, none⟩) hR _).drew.drew

/-- the reader behind a Read that gives m bytes -/
theorem readW_rdr {w : World} {R D len k c calls Bf m : Nat} {zs : List Int} (h : Rdr w R D len k c calls zs) (hkm : k + m ≤ len) (hm : 1 ≤ m) (hRB : R ≠ Bf) (hRD : R ≠ D) (hDB : D ≠ Bf) :
    Rdr (readW w R Bf k calls m zs) R D len (k + m) c (calls + 1) zs := by
  have hc3 : ∀ o, o ≠ 1 → (readW w R Bf k calls m zs).cell? ⟨R, o, none⟩ = (w.setCell ⟨R, 3, none⟩ (.int .i64 ((calls : Int) + 1))).cell? ⟨R, o, none⟩ := by
    intro o ho
    rw [readW, World.cell?_setCell_other _ _ _ _ (by intro e; simp only [Addr.mk.injEq] at e; omega), World.cell?_setCells_out _ _ _ _ _ (fun e => absurd e hRB), World.cell?_drew, World.cell?_drew, World.cell?_drew]
  refine ⟨?_, ?_, ?_, ?_, fun j => by rw [readW_frozen]; exact h.fr j, fun i hi => by rw [readW_cell _ _ _ _ _ _ _ _ _ (Ne.symm hRD) hDB]; exact h.dat i hi, hkm, h.hl, h.c1, h.c4, by have := h.hc; omega⟩
  · rw [hc3 0 (by decide), World.cell?_setCell_other _ _ _ _ (by simp)]; exact h.r0
  · refine World.cell?_setCell_same (u := .int .i64 k) _ _ _ ?_
    rw [World.cell?_setCells_out _ _ _ _ _ (fun e => absurd e hRB), World.cell?_drew, World.cell?_drew, World.cell?_drew, World.cell?_setCell_other _ _ _ _ (by simp)]
    exact h.r1
  · rw [hc3 2 (by decide), World.cell?_setCell_other _ _ _ _ (by simp)]; exact h.r2
  · rw [hc3 3 (by decide), World.cell?_setCell_same _ _ _ h.r3]; rfl

/-- the buffer behind a Read that gives m bytes -/
theorem readW_buf {w : World} {R Bf k calls m : Nat} {zs : List Int} (hRB : R ≠ Bf) (hm : m ≤ 4) (hb : ∀ j, j < 16 → ∃ v, w.cell? ⟨Bf, j, none⟩ = some v) :
    (∀ i, i < m → (readW w R Bf k calls m zs).cell? ⟨Bf, i, none⟩ = some (.int .u8 (zs.getD (k + i) 0))) ∧ ∀ j, j < 16 → ∃ v, (readW w R Bf k calls m zs).cell? ⟨Bf, j, none⟩ = some v := by
  have hb' : ∀ j, j < 16 → ∃ v, (w.setCell ⟨R, 3, none⟩ (.int .i64 ((calls : Int) + 1))).drew.drew.drew.cell? ⟨Bf, j, none⟩ = some v := fun j hj => by
    rw [World.cell?_drew, World.cell?_drew, World.cell?_drew, World.cell?_setCell_other _ _ _ _ (ne_block hRB)]; exact hb j hj
  have hin : ∀ i, i < m → (readW w R Bf k calls m zs).cell? ⟨Bf, i, none⟩ = some (.int .u8 (zs.getD (k + i) 0)) := by
    intro i hi
    have hl : i < (chunk zs k m).length := by rw [chunk_len]; exact hi
    rw [readW, World.cell?_setCell_other _ _ _ _ (ne_block hRB)]
    have := World.cell?_setCells_in Bf (chunk zs k m) 0 (w.setCell ⟨R, 3, none⟩ (.int .i64 ((calls : Int) + 1))).drew.drew.drew
      (fun j hj => by rw [chunk_len] at hj; obtain ⟨v, hv⟩ := hb' (0 + j) (by omega); rw [hv]; rfl) i hl
    rw [Nat.zero_add] at this
    rw [this]
    congr 1
    exact (chunk_at zs k m i _ (List.getElem?_eq_getElem hl)).2
  refine ⟨hin, fun j hj => ?_⟩
  by_cases hjm : j < m
  · exact ⟨_, hin j hjm⟩
  · rw [readW, World.cell?_setCell_other _ _ _ _ (ne_block hRB), World.cell?_setCells_out _ _ _ _ _ (fun _ _ => Or.inr (by rw [chunk_len]; show 0 + m ≤ j; omega))]
    exact hb' j hj

/-- what 'fill' leaves, the buffer being empty -/
theorem fill_St {w0 w : World} {N Bf R D len start blen bcap off calls c : Nat} {zs : List Int} {a : Addr} {mode rl : Bool} {Fr : Nat → Nat → Value → Prop} (h : St w0 w N Bf R D len start blen bcap off calls c zs a mode rl Fr)
    (hE : w0.cell? ⟨0, 0, none⟩ = some (.iface 78 (.pointer (some a)))) (he : start + blen = off) :
    Calls Ybad.prog 16 #[.pointer (some ⟨N, 0, none⟩)] w fun e w' =>
      (off = len ∧ e = .returned (.iface 78 (.pointer (some a))) ∧ ∃ start' blen' bcap' calls', St w0 w' N Bf R D len start' blen' bcap' off calls' c zs a true rl Fr) ∨
      (off < len ∧ e = .returned .nilIface ∧ ∃ start' blen' bcap' calls', St w0 w' N Bf R D len start' blen' bcap' off calls' c zs a false rl Fr ∧ off < start' + blen') := by
  subst he
  have h00 : 0 < w0.heap.size := World.block_lt_of_cell? _ _ hE
  have hE' : w.cell? ⟨0, 0, none⟩ = some (.iface 78 (.pointer (some a))) := (h.below.cell (p := ⟨0, 0, none⟩) h00).trans hE
  cases mode with
  | true =>
    refine (fill_err w N a h.inp.err).mono ?_
    rintro e w' ⟨rfl, rfl⟩
    exact Or.inl ⟨h.hmode rfl, rfl, _, _, _, _, h⟩
  | false =>
    obtain ⟨g0, hR, rfl, hb, hf, hDB⟩ := h.rd rfl
    by_cases hlt : start + blen < len
    · refine (fill_some w N R D Bf len blen start (start + blen) c calls zs h.inp rfl h.frN g0 hR hlt hb hf h.RB h.RD h.NR h.NB h.ND).mono ?_
      rintro e w' ⟨m, hm1, hm4, hml, rfl, rfl⟩
      have hR1 : Rdr (preW w N Bf (start + blen)) R D len (start + blen) c calls zs := ((((hR.setOther _ h.NR h.ND).setOther _ h.NR h.ND).drew).drew).drew.drew
      have hR2 := readW_rdr (m := m) hR1 hml hm1 h.RB h.RD hDB
      have hb1 : ∀ j, j < 16 → ∃ v, (preW w N Bf (start + blen)).cell? ⟨Bf, j, none⟩ = some v := fun j hj => by rw [preW_cell _ _ _ _ _ _ (Or.inl (Ne.symm h.NB))]; exact hb j hj
      obtain ⟨hbuf, hb2⟩ := readW_buf (k := start + blen) (calls := calls) (zs := zs) h.RB hm4 hb1
      have hN : ∀ o, (readW (preW w N Bf (start + blen)) R Bf (start + blen) calls m zs).cell? ⟨N, o, none⟩ = (preW w N Bf (start + blen)).cell? ⟨N, o, none⟩ := fun o => readW_cell _ _ _ _ _ _ _ _ _ h.NR h.NB
      have hI := h.inp
      have hRp : ∀ o, (postW (readW (preW w N Bf (start + blen)) R Bf (start + blen) calls m zs) N Bf m .nilIface).cell? ⟨R, o, none⟩ = (readW (preW w N Bf (start + blen)) R Bf (start + blen) calls m zs).cell? ⟨R, o, none⟩ := fun o => postW_cell _ _ _ _ _ _ _ (Or.inl (Ne.symm h.NR))
      have hRd : Rdr (postW (readW (preW w N Bf (start + blen)) R Bf (start + blen) calls m zs) N Bf m .nilIface) R D len (start + blen + m) c (calls + 1) zs := ((hR2.setOther _ h.NR h.ND).setOther _ h.NR h.ND).setOther _ h.NR h.ND
      refine Or.inr ⟨hlt, rfl, start + blen, m, 16, calls + 1, ⟨⟨?_, ?_, ?_, ?_, ?_, Nat.le_refl _, by omega, by omega, by have := h.hl; omega⟩, fun j => ?_, fun i hi => ?_, ?_, ?_, h.n0, h.b0, h.r0, h.NR, h.NB, h.ND, h.RB, h.RD, h.hl, hml, (fun x => by cases x), fun _ => ⟨?_, hRd, rfl, fun j hj => ?_, fun j => ?_, hDB⟩, fun _ _ => by omega, fun b o v hv => ?_⟩, by omega⟩
      · exact postW_one _ _ _ _ _ (by rw [hN, preW_cell _ _ _ _ _ _ (Or.inr (by decide))]; exact hI.err)
      · exact postW_two _ _ _ _ _ (by rw [hN]; exact preW_two _ _ _ _ hI.buf)
      · exact postW_three _ _ _ _ _ (by rw [hN, preW_cell _ _ _ _ _ _ (Or.inr (by decide))]; exact hI.full)
      · rw [postW_cell _ _ _ _ _ _ _ (Or.inr (by decide)), hN]; exact preW_four _ _ _ _ hI.startc
      · rw [postW_cell _ _ _ _ _ _ _ (Or.inr (by decide)), hN, preW_cell _ _ _ _ _ _ (Or.inr (by decide))]; exact hI.offc
      · rw [postW_frozen, readW_frozen, preW_frozen]; exact h.frN j
      · rw [postW_cell _ _ _ _ _ _ _ (Or.inl (Ne.symm h.NB))]; exact hbuf i hi
      · exact hRd.r3
      · exact postW_below (readW_below (preW_below h.below _ _ _ h.n0) _ _ _ _ _ _ h.r0 h.b0) _ _ _ _ h.n0
      · rw [postW_cell _ _ _ _ _ _ _ (Or.inr (by decide)), hN, preW_cell _ _ _ _ _ _ (Or.inr (by decide))]; exact g0
      · rw [postW_cell _ _ _ _ _ _ _ (Or.inl (Ne.symm h.NB))]; exact hb2 j hj
      · rw [postW_frozen, readW_frozen, preW_frozen]; exact hf j
      · obtain ⟨x1, x2, x3, x4⟩ := h.frm b o v hv
        exact ⟨x1, x2, x3, by rw [postW_cell _ _ _ _ _ _ _ (Or.inl x1), readW_cell _ _ _ _ _ _ _ _ _ x2 x3, preW_cell _ _ _ _ _ _ (Or.inl x1)]; exact x4⟩
    · have hle : start + blen = len := by have := h.hend; omega
      have hI := h.inp
      rw [hle] at hI hR
      refine (fill_end w N R D Bf len blen start c calls zs a hI hle h.frN g0 hR hE' h.NR h.ND (by have := h.n0; omega)).mono ?_
      rintro e w' ⟨rfl, rfl⟩
      have hN : ∀ o, (endW (preW w N Bf len) R calls).cell? ⟨N, o, none⟩ = (preW w N Bf len).cell? ⟨N, o, none⟩ := fun o => endW_cell _ _ _ _ _ h.NR
      refine Or.inl ⟨hle, rfl, len, 0, 16, calls + 1, ⟨⟨?_, ?_, ?_, ?_, ?_, by omega, by omega, by omega, by have := h.hl; omega⟩, fun j => ?_, fun i hi => by omega, ?_, ?_, h.n0, h.b0, h.r0, h.NR, h.NB, h.ND, h.RB, h.RD, h.hl, by omega, fun _ => by omega, (fun x => by cases x), fun _ _ => by omega, fun b o v hv => ?_⟩⟩
      · exact postW_one _ _ _ _ _ (by rw [hN, preW_cell _ _ _ _ _ _ (Or.inr (by decide))]; exact hI.err)
      · exact postW_two _ _ _ _ _ (by rw [hN]; exact preW_two _ _ _ _ hI.buf)
      · exact postW_three _ _ _ _ _ (by rw [hN, preW_cell _ _ _ _ _ _ (Or.inr (by decide))]; exact hI.full)
      · rw [postW_cell _ _ _ _ _ _ _ (Or.inr (by decide)), hN]; exact preW_four _ _ _ _ hI.startc
      · rw [postW_cell _ _ _ _ _ _ _ (Or.inr (by decide)), hN, preW_cell _ _ _ _ _ _ (Or.inr (by decide)), hI.offc, hle]
      · rw [postW_frozen, endW_frozen, preW_frozen]; exact h.frN j
      · rw [postW_cell _ _ _ _ _ _ _ (Or.inl (Ne.symm h.NR)), endW, World.cell?_drew, World.cell?_drew, World.cell?_setCell_same (u := .int .i64 calls) _ _ _ (by rw [preW_cell _ _ _ _ _ _ (Or.inl (Ne.symm h.NR))]; exact h.rcl)]; rfl
      · exact postW_below (endW_below (preW_below h.below _ _ _ h.n0) _ _ h.r0) _ _ _ _ h.n0
      · obtain ⟨x1, x2, x3, x4⟩ := h.frm b o v hv
        exact ⟨x1, x2, x3, by rw [postW_cell _ _ _ _ _ _ _ (Or.inl x1), endW_cell _ _ _ _ _ x2, preW_cell _ _ _ _ _ _ (Or.inl x1)]; exact x4⟩
end Go.Proofs.YbulknaqDoor
