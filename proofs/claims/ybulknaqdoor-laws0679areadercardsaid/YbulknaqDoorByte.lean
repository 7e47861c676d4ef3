/-
  'fault', 'more' and 'readByte'.
-/
import Derived.Test.YbulknaqDoorPeek
namespace Go.Proofs.YbulknaqDoor
open Go.RowKit

/-- 'unexpected end' -/
def unEnd : ByteArray := ⟨#[117, 110, 101, 120, 112, 101, 99, 116, 101, 100, 32, 101, 110, 100]⟩

set_option maxRecDepth 100000 in
set_option maxHeartbeats 400000 in
theorem fault_any (w : World) (N : Nat) (off : Int) (a : Addr) (hE : w.cell? ⟨0, 0, none⟩ = some (.iface 78 (.pointer (some a)))) (ho : w.cell? ⟨N, 5, none⟩ = some (.int .i64 off)) :
    Calls Ybad.prog 14 #[.pointer (some ⟨N, 0, none⟩), .iface 78 (.pointer (some a))] w fun e w' => ∃ g, e = .returned (.iface 49 (.pointer (some ⟨g, 0, none⟩))) ∧ Mal w' g off unEnd ∧ Below w.heap.size w w' := by
  go_enter Ybad.func14, Ybad.ntmps14
  go_wp2_with (first | (go_at_call 17; refine (is_same a _).mono ?_; rintro e w' ⟨rfl, rfl⟩) | go_in)
  go_ret
  exact ⟨_, rfl, Mal.new _ _ _, (Below.refl _ _).alloc (Nat.le_refl _) _⟩

theorem St.later {w0 w w' : World} {N Bf R D len start blen bcap off calls c : Nat} {zs : List Int} {a : Addr} {rl : Bool} {Fr : Nat → Nat → Value → Prop} (h : St w0 w N Bf R D len start blen bcap off calls c zs a true rl Fr) (b : Below w.heap.size w w') : St w0 w' N Bf R D len start blen bcap off calls c zs a true rl Fr := by
  have hN : N < w.heap.size := World.block_lt_of_cell? _ _ h.inp.err
  have hR : R < w.heap.size := World.block_lt_of_cell? _ _ h.rcl
  have cN : ∀ o, w'.cell? ⟨N, o, none⟩ = w.cell? ⟨N, o, none⟩ := fun o => b.cell (p := ⟨N, o, none⟩) hN
  exact ⟨⟨by rw [cN]; exact h.inp.err, by rw [cN]; exact h.inp.buf, by rw [cN]; exact h.inp.full, by rw [cN]; exact h.inp.startc, by rw [cN]; exact h.inp.offc, h.inp.h1, h.inp.h2, h.inp.h3, h.inp.h4⟩,
    fun j => by rw [b.frozen (p := ⟨N, j, none⟩) hN]; exact h.frN j, fun i hi => cell_later b (h.bytes i hi), cell_later b h.rcl, h.below.trans (b.mono h.below.size), h.n0, h.b0, h.r0, h.NR, h.NB, h.ND, h.RB, h.RD, h.hl, h.hend, h.hmode, (fun x => by cases x), h.cl, fun b' o v hv => by obtain ⟨x1, x2, x3, x4⟩ := h.frm b' o v hv; exact ⟨x1, x2, x3, cell_later b x4⟩⟩

set_option maxRecDepth 100000 in
set_option maxHeartbeats 400000 in
theorem more_any {w0 w : World} {N Bf R D len start blen bcap off calls c : Nat} {zs : List Int} {a : Addr} {mode rl : Bool} {Fr : Nat → Nat → Value → Prop} (h : St w0 w N Bf R D len start blen bcap off calls c zs a mode rl Fr) (hE : w0.cell? ⟨0, 0, none⟩ = some (.iface 78 (.pointer (some a)))) :
    Calls Ybad.prog 11 #[.pointer (some ⟨N, 0, none⟩)] w fun e w' =>
      (off = len ∧ ∃ g, e = .returned (.iface 49 (.pointer (some ⟨g, 0, none⟩))) ∧ Mal w' g off unEnd ∧ ∃ start' blen' bcap' calls', St w0 w' N Bf R D len start' blen' bcap' off calls' c zs a true rl Fr) ∨
      (off < len ∧ e = .returned .nilIface ∧ ∃ start' blen' bcap' calls' mode', St w0 w' N Bf R D len start' blen' bcap' off calls' c zs a mode' rl Fr ∧ off < start' + blen') := by
  have h00 : 0 < w0.heap.size := World.block_lt_of_cell? _ _ hE
  have HE : Hid (w0.cell? ⟨0, 0, none⟩ = some (.iface 78 (.pointer (some a)))) := hE
  have HS : Hid (St w0 w N Bf R D len start blen bcap off calls c zs a mode rl Fr) := h
  clear h hE
  go_enter Ybad.func11, Ybad.ntmps11
  go_wp2_with fail
  refine (peek_any HS.out HE.out).mono ?_
  rintro e w' (⟨hl, ⟨v, rfl⟩, s1, b1, p1, l1, S1⟩ | ⟨hl, ⟨v, rfl⟩, x⟩)
  · have hEw : w'.cell? ⟨0, 0, none⟩ = some (.iface 78 (.pointer (some a))) := (S1.below.cell (p := ⟨0, 0, none⟩) h00).trans HE.out
    have ho := S1.inp.offc
    have HS1 : Hid (St w0 w' N Bf R D len s1 b1 p1 off l1 c zs a true rl Fr) := S1
    have HL : Hid (off = len) := hl
    clear S1 hl
    go_wp2_with (go_at_call 14; refine (fault_any _ N off a hEw ho).mono ?_; rintro e w2 ⟨g, rfl, M, B⟩)
    go_ret
    exact Or.inl ⟨HL.out, g, rfl, M, s1, b1, p1, l1, HS1.out.later B⟩
  · have HX : Hid (∃ start' blen' bcap' calls' mode', St w0 w' N Bf R D len start' blen' bcap' off calls' c zs a mode' rl Fr ∧ off < start' + blen') := x
    clear x
    go_wp2_with fail
    go_ret
    exact Or.inr ⟨hl, rfl, HX.out⟩

/-- a byte is taken -/
theorem St.take {w0 w : World} {N Bf R D len start blen bcap off calls c : Nat} {zs : List Int} {a : Addr} {mode rl : Bool} {Fr : Nat → Nat → Value → Prop} (h : St w0 w N Bf R D len start blen bcap off calls c zs a mode rl Fr) (hlt : off < start + blen) :
    St w0 (w.setCell ⟨N, 5, none⟩ (.int .i64 ((off + 1 : Nat) : Int))) N Bf R D len start blen bcap (off + 1) calls c zs a mode rl Fr := by
  have oth : ∀ b o, b ≠ N → (w.setCell ⟨N, 5, none⟩ (.int .i64 ((off + 1 : Nat) : Int))).cell? ⟨b, o, none⟩ = w.cell? ⟨b, o, none⟩ := fun b o hb => World.cell?_setCell_other _ _ _ _ (ne_block (Ne.symm hb))
  refine ⟨⟨?_, ?_, ?_, ?_, World.cell?_setCell_same _ _ _ h.inp.offc, by have := h.inp.h1; omega, by omega, h.inp.h3, h.inp.h4⟩, fun j => by rw [World.frozen?_setCell]; exact h.frN j, fun i hi => by rw [oth _ _ (Ne.symm h.NB)]; exact h.bytes i hi, by rw [oth _ _ (Ne.symm h.NR)]; exact h.rcl,
    h.below.setCell (p := ⟨N, 5, none⟩) h.n0 _, h.n0, h.b0, h.r0, h.NR, h.NB, h.ND, h.RB, h.RD, h.hl, h.hend, h.hmode, fun e => ?_, h.cl, fun b' o v hv => by obtain ⟨x1, x2, x3, x4⟩ := h.frm b' o v hv; exact ⟨x1, x2, x3, by rw [oth _ _ x1]; exact x4⟩⟩
  · rw [World.cell?_setCell_other _ _ _ _ (by simp)]; exact h.inp.err
  · rw [World.cell?_setCell_other _ _ _ _ (by simp)]; exact h.inp.buf
  · rw [World.cell?_setCell_other _ _ _ _ (by simp)]; exact h.inp.full
  · rw [World.cell?_setCell_other _ _ _ _ (by simp)]; exact h.inp.startc
  · obtain ⟨a1, a2, a3, a4, a5, a6⟩ := h.rd e
    exact ⟨by rw [World.cell?_setCell_other _ _ _ _ (by simp)]; exact a1, a2.setOther _ h.NR h.ND, a3, fun j hj => by rw [oth _ _ (Ne.symm h.NB)]; exact a4 j hj, fun j => by rw [World.frozen?_setCell]; exact a5 j, a6⟩

set_option maxRecDepth 100000 in
set_option maxHeartbeats 400000 in
theorem readByte_any {w0 w : World} {N Bf R D len start blen bcap off calls c : Nat} {zs : List Int} {a : Addr} {mode rl : Bool} {Fr : Nat → Nat → Value → Prop} (h : St w0 w N Bf R D len start blen bcap off calls c zs a mode rl Fr) (hE : w0.cell? ⟨0, 0, none⟩ = some (.iface 78 (.pointer (some a)))) :
    Calls Ybad.prog 7 #[.pointer (some ⟨N, 0, none⟩)] w fun e w' =>
      (off = len ∧ ∃ g, e = .returned (.tuple #[.int .u8 0, .iface 49 (.pointer (some ⟨g, 0, none⟩))]) ∧ Mal w' g off unEnd ∧ ∃ start' blen' bcap' calls', St w0 w' N Bf R D len start' blen' bcap' off calls' c zs a true rl Fr) ∨
      (off < len ∧ e = .returned (.tuple #[.int .u8 (zs.getD off 0), .nilIface]) ∧ ∃ start' blen' bcap' calls' mode', St w0 w' N Bf R D len start' blen' bcap' (off + 1) calls' c zs a mode' rl Fr) := by
  have HE : Hid (w0.cell? ⟨0, 0, none⟩ = some (.iface 78 (.pointer (some a)))) := hE
  have HS : Hid (St w0 w N Bf R D len start blen bcap off calls c zs a mode rl Fr) := h
  clear h hE
  go_enter Ybad.func7, Ybad.ntmps7
  go_wp2_with fail
  refine (more_any HS.out HE.out).mono ?_
  rintro e w' (⟨hl, g, rfl, M, x⟩ | ⟨hl, rfl, s1, b1, p1, l1, m1, S1, hlt⟩)
  · have HX : Hid (off = len ∧ Mal w' g off unEnd ∧ ∃ start' blen' bcap' calls', St w0 w' N Bf R D len start' blen' bcap' off calls' c zs a true rl Fr) := ⟨hl, M, x⟩
    clear x M hl
    go_wp2_with fail
    go_ret2
    exact Or.inl ⟨HX.out.1, g, rfl, HX.out.2.1, HX.out.2.2⟩
  · have HS1 : Hid (St w0 w' N Bf R D len s1 b1 p1 off l1 c zs a m1 rl Fr) := S1
    have HL : Hid (off < len ∧ off < s1 + b1) := ⟨hl, hlt⟩
    obtain ⟨c1, c2, c3, c4, c5, h1, h2, h3, h4⟩ := S1.inp
    have f5 := S1.frN 5
    have hby : w'.cell? ⟨Bf, off - s1, none⟩ = some (.int .u8 (zs.getD off 0)) := by
      have := S1.bytes (off - s1) (by omega)
      rwa [show s1 + (off - s1) = off from by omega] at this
    have hNB := S1.NB
    clear S1 c1 c3
    go_wp2_with fail
    go_region
    go_wp2_with fail
    go_ret2
    exact Or.inr ⟨HL.out.1, by simp, s1, b1, p1, l1, m1, (HS1.out.take HL.out.2).drew⟩
end Go.Proofs.YbulknaqDoor
