/-
  tableOf's walk: the counting sort.
-/
import Derived.Test.YbulknekSteps
import Derived.WalkKit
import Derived.Deep.RegionHeld
namespace Go.Proofs.Ybulknek
open Go.RowKit

theorem heap_drew_setCell (X : World) (a : Addr) (v : Value) : (X.drew.setCell a v).heap = (X.setCell a v).heap := rfl
theorem heap_drew (X : World) : X.drew.heap = X.heap := rfl

theorem cell_set_far (W : World) (b o b' o' : Nat) (v u : Value) (hb : b ≠ b') (h : W.cell? ⟨b', o', none⟩ = some u) : (W.setCell ⟨b, o, none⟩ v).cell? ⟨b', o', none⟩ = some u := by
  rw [World.cell?_setCell_other _ _ _ _ (by intro e; injection e; contradiction)]; exact h

theorem res8 (tmps : Array Value) (W : World) (H : Nat) (a0 a1 a2 : Option Addr) (n0 n1 n2 m0 m1 m2 : Nat) (hp : tmps.getD 4 undef = .pointer (some ⟨H, 0, none⟩)) (c0 : W.cell? ⟨H, 0, none⟩ = some (.slice a0 n0 m0)) (c1 : W.cell? ⟨H, 1, none⟩ = some (.slice a1 n1 m1)) (c2 : W.cell? ⟨H, 2, none⟩ = some (.slice a2 n2 m2)) :
    (results Yba.f8 tmps).run Yba.prog W = .ok (.agg #[.slice a0 n0 m0, .slice a1 n1 m1, .slice a2 n2 m2]) W := by
  have hp' : tmps[4]?.getD undef = .pointer (some ⟨H, 0, none⟩) := by simpa using hp
  simp [results, hp', asAddr]
  go_simp
theorem res_cells (wr : World) (H : Nat) (f : Nat → Value) (R : Row wr H 3 f) (v0 v1 v2 : Value) : Row (((wr.setCell ⟨H, 0, none⟩ v0).setCell ⟨H, 1, none⟩ v1).setCell ⟨H, 2, none⟩ v2) H 3 (fun j => if j = 0 then v0 else if j = 1 then v1 else v2) :=
  Row.set (f := fun j => if j = 0 then v0 else if j = 1 then v1 else f j) (Row.set (f := fun j => if j = 0 then v0 else f j) (Row.set R 0 (by omega) v0 _ (by simp) (fun i _ h => by simp [h])) 1 (by omega) v1 _ (by simp) (fun i _ h => by simp [h])) 2 (by omega) v2 _ (by simp) (fun i hi h => by
    match i, hi, h with
    | 0, _, _ => rfl
    | 1, _, _ => rfl
    | 2, _, h => exact absurd rfl h)

set_option maxRecDepth 100000 in
set_option maxHeartbeats 1000000 in
theorem table_any (L n jobs : Nat) (f : Nat → Nat) (to s : Nat → Int) (w : World) (hn : n ≤ 1024) (hj : 1 ≤ jobs ∧ jobs ≤ 16) (hf : ∀ k, k < n → f k < jobs) (hL : L < w.heap.size) (hl : Lines w L n f to s) :
    Calls Yba.prog 8 #[.slice (some ⟨L, 0, none⟩) n n, .int .i64 jobs] w fun e w' => e = .returned (.agg #[.slice (some ⟨w.heap.size + 1, 0, none⟩) (jobs + 1) (jobs + 1), .slice (some ⟨w.heap.size + 1 + 1 + 1, 0, none⟩) (cl f s jobs n) (cl f s jobs n), .slice (some ⟨w.heap.size + 1 + 1 + 1 + 1, 0, none⟩) (cl f s jobs n) (cl f s jobs n)]) ∧
      Table w' (w.heap.size + 1) (w.heap.size + 1 + 1 + 1) (w.heap.size + 1 + 1 + 1 + 1) f to s jobs n ∧ Below w.heap.size w w' := by
  have r35 := run35 (jobs + 1) (by omega)
  push_cast at r35
  have b39 := build39
  have fa := frozen?_alloc_cells
  have f2 : ∀ o, w.frozen? ⟨w.heap.size + 1 + 1, o, none⟩ = false := fun o => frozen_out w _ o (by omega)
  have HL : Hid (Lines w L n f to s) := hl
  have HF : Hid (∀ k, k < n → f k < jobs) := hf
  clear hl hf
  go_enter Yba.func8, Yba.ntmps8
  go_wp2_with fail
  go_loopw [18] (fun si wr => ∃ k : Nat, k ≤ n ∧ si = .int .i64 k ∧ wr.heap.size = w.heap.size + 1 + 1 + 1 ∧ Below w.heap.size w wr ∧
      Row wr w.heap.size 3 (fun _ => .slice none 0 0) ∧ Row wr (w.heap.size + 1) (jobs + 1) (fun j => .int .i64 (st1 f s k j)) ∧
      Row wr (w.heap.size + 1 + 1) 3 (tb (w.heap.size + 1) (jobs + 1)))
    (fun si _ => n - (intOf si).toNat)
  case atStart => exact at1 w jobs f s n
  case round =>
    obtain ⟨k, hk, rfl, hsz, B, R0, R1, R2⟩ := hrel
    by_cases hlt : k < n
    · have d0 : wr.cell? ⟨L, k * 4, none⟩ = some (.int .i32 (f k)) := (B.cell (p := ⟨L, k * 4, none⟩) hL).trans (HL.out.c0 k hlt)
      have d2 : wr.cell? ⟨L, k * 4 + 2, none⟩ = some (.int .i64 (s k)) := (B.cell (p := ⟨L, k * 4 + 2, none⟩) hL).trans (HL.out.c2 k hlt)
      have e0 := R2.cell 0 (by omega)
      simp only [tb] at e0
      have hfk := HF.out k hlt
      obtain ⟨x, hx⟩ : ∃ x : Nat, st1 f s k (f k + 1) = x := ⟨_, rfl⟩
      have hxk : x ≤ 1024 := by have := st1_le f s k (f k + 1); omega
      have e1 := R1.cell (f k + 1) (by omega)
      rw [hx] at e1
      have fr1 := R1.frozen (f k + 1)
      have HS : Hid (st1 f s k (f k + 1) = x) := hx
      obtain ⟨fk, hfk'⟩ : ∃ fk, f k = fk := ⟨_, rfl⟩
      rw [hfk'] at d0 e1 fr1 hfk
      have HFK : Hid (f k = fk) := hfk'
      clear hx hfk'
      by_cases hs : 0 < s k
      · go_wp2_with fail
        go_region
        go_wp2_with fail
        go_roundw
        case rel => exact ⟨k + 1, by omega, by go_num, by show (World.setCell _ _ _).heap.size = _; rw [size_setCell]; exact hsz, (B.setCell (by simp) _).drew, (R0.other _ _ (by simp)).drew,
          (R1.set (fk + 1) (by omega) _ _ (by rw [← HFK.out, st1_hit f s k hs, HFK.out, ← HS.out, HFK.out]; simp) (fun j hj hne => by rw [st1_miss f s k j (by rw [HFK.out]; omega)])).drew, (R2.other _ _ (by simp)).drew⟩
        case measure => simp [intOf]; omega
      · go_wp2_with fail
        go_roundw
        case rel => exact ⟨k + 1, by omega, by go_num, hsz, B, R0, R1.congr (fun j hj => by rw [st1_miss f s k j (fun hh => hs hh.1)]), R2⟩
        case measure => simp [intOf]; omega
    · obtain rfl : k = n := by omega
      clear hlt hk
      go_wp2_with fail
      go_loopw [42] (fun si wr => ∃ i : Nat, i ≤ jobs ∧ si = .int .i64 i ∧ wr.heap.size = w.heap.size + 1 + 1 + 1 ∧ Below w.heap.size w wr ∧
          Row wr w.heap.size 3 (fun _ => .slice none 0 0) ∧ Row wr (w.heap.size + 1) (jobs + 1) (fun j => .int .i64 (st2 f s k i j)) ∧
          Row wr (w.heap.size + 1 + 1) 3 (tb (w.heap.size + 1) (jobs + 1)))
        (fun si _ => jobs - (intOf si).toNat)
      case atStart => exact ⟨0, Nat.zero_le _, rfl, hsz, B, R0, R1.congr (fun j hj => by unfold st1 st2; by_cases h : j = 0 <;> simp [h, cl_zero]), R2⟩
      case round =>
        clear hsz B R0 R1 R2
        obtain ⟨i, hi, rfl, hsz, B, R0, R1, R2⟩ := hrel
        have e0 := R2.cell 0 (by omega)
        simp only [tb] at e0
        by_cases hlt : i < jobs
        · obtain ⟨x, hx⟩ : ∃ x : Nat, cl f s i k = x := ⟨_, rfl⟩
          obtain ⟨y, hy⟩ : ∃ y : Nat, ce f s i k = y := ⟨_, rfl⟩
          have hxk : x ≤ 1024 := by have := cl_le f s i k; omega
          have hyk : y ≤ 1024 := by have := ce_le f s i k; omega
          have e1 := R1.cell i (by omega)
          have e2 := R1.cell (i + 1) (by omega)
          have fr1 := R1.frozen (i + 1)
          simp only [st2, Nat.le_refl, if_true, hx] at e1
          simp only [st2, show ¬ i + 1 ≤ i by omega, if_false, Nat.add_sub_cancel, hy] at e2
          have HX : Hid (cl f s i k = x) := hx
          have HY : Hid (ce f s i k = y) := hy
          clear hx hy
          go_wp2_with fail
          go_region
          go_wp2_with fail
          go_roundw
          case rel => exact ⟨i + 1, by omega, by go_num, by show (World.setCell _ _ _).heap.size = _; rw [size_setCell]; exact hsz, (B.setCell (by simp) _).drew, (R0.other _ _ (by simp)).drew,
            (R1.set (i + 1) (by omega) _ _ (by simp only [st2, Nat.le_refl, if_true, cl_next, HX.out, HY.out]; congr 1; push_cast; omega) (fun j hj hne => by unfold st2; by_cases h : j ≤ i <;> simp [h, show (j ≤ i + 1) = (j ≤ i) by apply propext; omega])).drew, (R2.other _ _ (by simp)).drew⟩
          case measure => simp [intOf]; omega
        · obtain rfl : i = jobs := by omega
          clear hlt hi
          obtain ⟨M, hM⟩ : ∃ M : Nat, cl f s i k = M := ⟨_, rfl⟩
          have hMk : M ≤ 1024 := by have := cl_le f s i k; omega
          have e1 := R1.cell i (by omega)
          simp only [st2, Nat.le_refl, if_true, hM] at e1
          have HM : Hid (cl f s i k = M) := hM
          clear hM
          have fr21 := R2.frozen 1
          have fr22 := R2.frozen 2
          have e21 := R2.cell 1 (by omega)
          have e22 := R2.cell 2 (by omega)
          simp only [tb] at e21 e22
          have r36 := run36 M (by omega)
          have r37 := run37 M (by omega)
          have hsl : (i : Int) ≤ (i : Int) + 1 := by omega
          have RS : Hid (Row ((((wr.setCell ⟨w.heap.size + 1 + 1, 1, none⟩ (.slice (some ⟨w.heap.size + 1 + 1 + 1, 0, none⟩) M M)).setCell ⟨w.heap.size + 1 + 1, 2, none⟩ (.slice (some ⟨w.heap.size + 1 + 1 + 1 + 1, 0, none⟩) M M)).alloc (.cells (mkz (.int .i32 0) M) 21)).alloc (.cells (mkz (.int .i64 0) M) 2)) (w.heap.size + 1) (i + 1) (fun j => .int .i64 (cl f s j k))) :=
            Row.congr (Row.alloc (Row.alloc (Row.other (Row.other R1 _ _ (by simp)) _ _ (by simp)) _) _) (fun j hj => by simp [st2, show j ≤ i by omega])
          go_wp2_with fail
          refine (clone_any (w.heap.size + 1) i (i + 1) (fun j => cl f s j k) _ (by omega) (RS.out.take (by omega))).mono ?_
          rintro e w3 ⟨D, capD, rfl, hd, RD, B3⟩
          have I0 : St3 w.heap.size w w3 f to s i k M D 0 := St3.start hsz B R0 R1 R2 hd RD B3
          clear hsz B R0 R1 R2 hd RD B3 RS e0 e1 fr21 fr22 e21 e22 r36 r37
          go_wp2_with fail
          go_loopw [80] (fun si wr => ∃ q : Nat, q ≤ k ∧ si = .int .i64 q ∧ St3 w.heap.size w wr f to s i k M D q) (fun si _ => k - (intOf si).toNat)
          case atStart => exact ⟨0, Nat.zero_le _, rfl, I0⟩
          case round =>
            clear I0
            obtain ⟨q, hq, rfl, I⟩ := hrel
            have hDD := I.hD
            by_cases hlt : q < k
            · have d0 : wr.cell? ⟨L, q * 4, none⟩ = some (.int .i32 (f q)) := (I.B.cell (p := ⟨L, q * 4, none⟩) hL).trans (HL.out.c0 q hlt)
              have d1 : wr.cell? ⟨L, q * 4 + 1, none⟩ = some (.int .i32 (to q)) := (I.B.cell (p := ⟨L, q * 4 + 1, none⟩) hL).trans (HL.out.c1 q hlt)
              have d2 : wr.cell? ⟨L, q * 4 + 2, none⟩ = some (.int .i64 (s q)) := (I.B.cell (p := ⟨L, q * 4 + 2, none⟩) hL).trans (HL.out.c2 q hlt)
              by_cases hs : 0 < s q
              · have hfk := HF.out q hlt
                obtain ⟨ta, RA, hta⟩ := I.RA
                obtain ⟨tc, RC, htc⟩ := I.RC
                have hpM : pos f s k q < M := by rw [← HM.out]; exact pos_lt' f s hs hlt hfk
                have n0 := I.RD.cell (f q) hfk
                have hpos : cl f s (f q) k + ce f s (f q) q = pos f s k q := rfl
                simp only [hpos] at n0
                obtain ⟨p, hp⟩ : ∃ p, pos f s k q = p := ⟨_, rfl⟩
                obtain ⟨fk, hfk'⟩ : ∃ fk, f q = fk := ⟨_, rfl⟩
                rw [hfk'] at d0 n0 hfk
                rw [hp] at hpM n0
                have cA := RA.cell p hpM
                have cC := RC.cell p hpM
                have frA := RA.frozen p
                have frC := RC.frozen p
                have frD := I.RD.frozen fk
                have t1 := I.R2.cell 1 (by omega)
                have t2 := I.R2.cell 2 (by omega)
                simp only [tb3] at t1 t2
                have l1 : ¬ L = w.heap.size + 1 + 1 + 1 := by omega
                have l2 : ¬ L = w.heap.size + 1 + 1 + 1 + 1 := by omega
                have l3 : ¬ D = w.heap.size + 1 + 1 + 1 := by omega
                have l4 : ¬ D = w.heap.size + 1 + 1 + 1 + 1 := by omega
                have HP : Hid (pos f s k q = p) := hp
                have HFK : Hid (f q = fk) := hfk'
                have HTA : Hid (∀ k', k' < q → 0 < s k' → ta (pos f s k k') = .int .i32 (to k')) := hta
                have HTC : Hid (∀ k', k' < q → 0 < s k' → tc (pos f s k k') = .int .i64 (s k')) := htc
                clear hp hfk' hta htc hpos
                go_wp2_with fail
                go_region_held (fun w' => w'.cell? ⟨w.heap.size + 1 + 1, 1, none⟩ = some (.slice (some ⟨w.heap.size + 1 + 1 + 1, 0, none⟩) M M) ∧ w'.cell? ⟨w.heap.size + 1 + 1, 2, none⟩ = some (.slice (some ⟨w.heap.size + 1 + 1 + 1 + 1, 0, none⟩) M M) ∧ w'.cell? ⟨L, q * 4, none⟩ = some (.int .i32 fk) ∧ w'.cell? ⟨L, q * 4 + 1, none⟩ = some (.int .i32 (to q)) ∧ w'.cell? ⟨L, q * 4 + 2, none⟩ = some (.int .i64 (s q)) ∧ w'.cell? ⟨D, fk, none⟩ = some (.int .i64 p)) (refine ⟨?_, ?_, ?_, ?_, ?_, ?_⟩ <;> ((try simp only [World.cell?_drew]); first | assumption | exact cell_set_far _ _ _ _ _ _ _ (by omega) (by assumption) | exact cell_set_far _ _ _ _ _ _ _ (by omega) (cell_set_far _ _ _ _ _ _ _ (by omega) (by assumption)))) (fail)
                rename_i hheld
                clear hheld
                have HJ : Hid (St3 w.heap.size w (((wr.setCell ⟨w.heap.size + 1 + 1 + 1, p, none⟩ (.int .i32 (to q))).setCell ⟨w.heap.size + 1 + 1 + 1 + 1, p, none⟩ (.int .i64 (s q))).setCell ⟨D, fk, none⟩ (.int .i64 ((p : Int) + 1))) f to s i k M D (q + 1)) := I.step hs hlt HP.out HFK.out hpM hfk
                have n0' : ((wr.setCell ⟨w.heap.size + 1 + 1 + 1, p, none⟩ (.int .i32 (to q))).setCell ⟨w.heap.size + 1 + 1 + 1 + 1, p, none⟩ (.int .i64 (s q))).cell? ⟨D, fk, none⟩ = some (.int .i64 p) := cell_set_far _ _ _ _ _ _ _ (by omega) (cell_set_far _ _ _ _ _ _ _ (by omega) n0)
                have d0' : ((wr.setCell ⟨w.heap.size + 1 + 1 + 1, p, none⟩ (.int .i32 (to q))).setCell ⟨w.heap.size + 1 + 1 + 1 + 1, p, none⟩ (.int .i64 (s q))).cell? ⟨L, q * 4, none⟩ = some (.int .i32 fk) := cell_set_far _ _ _ _ _ _ _ (by omega) (cell_set_far _ _ _ _ _ _ _ (by omega) d0)
                have fr' : ((wr.setCell ⟨w.heap.size + 1 + 1 + 1, p, none⟩ (.int .i32 (to q))).setCell ⟨w.heap.size + 1 + 1 + 1 + 1, p, none⟩ (.int .i64 (s q))).frozen? ⟨D, fk, none⟩ = false := by rw [World.frozen?_setCell, World.frozen?_setCell]; exact frD
                have HB : Hid (Below w.heap.size w ((wr.setCell ⟨w.heap.size + 1 + 1 + 1, p, none⟩ (.int .i32 (to q))).setCell ⟨w.heap.size + 1 + 1 + 1 + 1, p, none⟩ (.int .i64 (s q)))) := (I.B.setCell (by dsimp only; omega) _).setCell (by dsimp only; omega) _
                clear cA cC frA frC t1 t2 d0 d1 d2 n0 RA RC HTA HTC I frD l1 l2 l3 l4 HP HFK
                generalize ((wr.setCell ⟨w.heap.size + 1 + 1 + 1, p, none⟩ (.int .i32 (to q))).setCell ⟨w.heap.size + 1 + 1 + 1 + 1, p, none⟩ (.int .i64 (s q))) = X at HJ n0' d0' fr' HB ⊢
                go_wp2_with fail
                go_roundw
                case rel => exact ⟨q + 1, by omega, by go_num, HJ.out.of_heap (heap_drew_setCell _ _ _) (HB.out.drew.setCell (by dsimp only; omega) _)⟩
                case measure => simp [intOf]; omega
              · go_wp2_with fail
                go_roundw
                case rel => exact ⟨q + 1, by omega, by go_num, I.skip hs⟩
                case measure => simp [intOf]; omega
            · obtain rfl : q = k := by omega
              have t0 := I.R2.cell 0 (by omega)
              have t1 := I.R2.cell 1 (by omega)
              have t2 := I.R2.cell 2 (by omega)
              simp only [tb3] at t0 t1 t2
              have c0 := I.R0.cell 0 (by omega)
              have c1 := I.R0.cell 1 (by omega)
              have c2 := I.R0.cell 2 (by omega)
              have z0 := I.R0.frozen 0
              have z1 := I.R0.frozen 1
              have z2 := I.R0.frozen 2
              have HI : Hid (St3 w.heap.size w wr f to s i q M D q) := I
              clear I
              go_wp2_with fail
              have RR := res_cells wr w.heap.size _ HI.out.R0 (.slice (some ⟨w.heap.size + 1, 0, none⟩) (i + 1) (i + 1)) (.slice (some ⟨w.heap.size + 1 + 1 + 1, 0, none⟩) M M) (.slice (some ⟨w.heap.size + 1 + 1 + 1 + 1, 0, none⟩) M M)
              (try simp only [Exit.inBlock, Exit.then])
              refine bodyPost_ret (res8 _ _ w.heap.size _ _ _ _ _ _ _ _ _ rfl (RR.cell 0 (by omega)) (RR.cell 1 (by omega)) (RR.cell 2 (by omega))) rfl ?_
              rw [HM.out]
              exact ⟨rfl, HI.out.table HF.out HM.out _ _ _, ((HI.out.B.setCell (Nat.le_refl _) _).setCell (Nat.le_refl _) _).setCell (Nat.le_refl _) _⟩
end Go.Proofs.Ybulknek
