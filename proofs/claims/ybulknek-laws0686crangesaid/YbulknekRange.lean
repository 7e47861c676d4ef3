/-
  LawS0686CRange's walk.
-/
import Derived.Test.YbulknekTable
import Derived.Deep.QuietTactic
import Derived.BigQuiet
namespace Go.Proofs.Ybulknek
open Go.RowKit

/-- the cells of the lines, the first k of them laid -/
def lnc (f : Nat → Nat) (to s : Nat → Int) (k j : Nat) : Value :=
  if j / 4 < k then
    (if j % 4 = 0 then .int .i32 (f (j / 4)) else if j % 4 = 1 then .int .i32 (to (j / 4)) else if j % 4 = 2 then .int .i64 (s (j / 4)) else .int .i64 ((j / 4 : Nat) : Int))
  else (if j % 4 = 0 then .int .i32 0 else if j % 4 = 1 then .int .i32 0 else .int .i64 0)

theorem lnc_start (f : Nat → Nat) (to s : Nat → Int) (n j : Nat) (hj : j < n * 4) : (mkz (.agg #[.int .i32 0, .int .i32 0, .int .i64 0, .int .i64 0]) (n * 4))[j]? = some (lnc f to s 0 j) := by
  simp only [mkz, madeCells, Value.cells]
  have h4 : j % 4 < 4 := Nat.mod_lt _ (by omega)
  simp [hj, lnc]
  rcases (by omega : j % 4 = 0 ∨ j % 4 = 1 ∨ j % 4 = 2 ∨ j % 4 = 3) with h | h | h | h <;> simp [h]

theorem lnc_lines {f : Nat → Nat} {to s : Nat → Int} {w : World} {L n : Nat} (R : Row w L (n * 4) (lnc f to s n)) : Lines w L n f to s where
  c0 := fun k hk => by rw [R.cell (k * 4) (by omega)]; simp [lnc, hk, show k * 4 / 4 = k by omega, show k * 4 % 4 = 0 by omega]
  c1 := fun k hk => by rw [R.cell (k * 4 + 1) (by omega)]; simp [lnc, hk, show (k * 4 + 1) / 4 = k by omega, show (k * 4 + 1) % 4 = 1 by omega]
  c2 := fun k hk => by rw [R.cell (k * 4 + 2) (by omega)]; simp [lnc, hk, show (k * 4 + 2) / 4 = k by omega, show (k * 4 + 2) % 4 = 2 by omega]

theorem lnc_step {f : Nat → Nat} {to s : Nat → Int} {w : World} {L n k : Nat} (R : Row w L (n * 4) (lnc f to s k)) (hk : k < n) :
    Row ((((w.setCell ⟨L, k * 4, none⟩ (.int .i32 (f k))).setCell ⟨L, k * 4 + 1, none⟩ (.int .i32 (to k))).setCell ⟨L, k * 4 + 2, none⟩ (.int .i64 (s k))).setCell ⟨L, k * 4 + 3, none⟩ (.int .i64 k)) L (n * 4) (lnc f to s (k + 1)) := by
  have h1 := R.set (k * 4) (by omega) (.int .i32 (f k)) (fun j => if j = k * 4 then .int .i32 (f k) else lnc f to s k j) (by simp) (fun i _ h => by simp [h])
  have h2 := h1.set (k * 4 + 1) (by omega) (.int .i32 (to k)) (fun j => if j = k * 4 + 1 then .int .i32 (to k) else if j = k * 4 then .int .i32 (f k) else lnc f to s k j) (by simp) (fun i _ h => by simp [h])
  have h3 := h2.set (k * 4 + 2) (by omega) (.int .i64 (s k)) (fun j => if j = k * 4 + 2 then .int .i64 (s k) else if j = k * 4 + 1 then .int .i32 (to k) else if j = k * 4 then .int .i32 (f k) else lnc f to s k j) (by simp) (fun i _ h => by simp [h])
  refine h3.set (k * 4 + 3) (by omega) (.int .i64 k) _ ?_ ?_
  · simp [lnc, show (k * 4 + 3) / 4 = k by omega, show (k * 4 + 3) % 4 = 3 by omega]
  · intro j hj hne
    by_cases e2 : j = k * 4 + 2
    · subst e2; simp [lnc, show (k * 4 + 2) / 4 = k by omega, show (k * 4 + 2) % 4 = 2 by omega]
    · by_cases e1 : j = k * 4 + 1
      · subst e1; simp [lnc, show (k * 4 + 1) / 4 = k by omega, show (k * 4 + 1) % 4 = 1 by omega]
      · by_cases e0 : j = k * 4
        · subst e0; simp [lnc, show k * 4 / 4 = k by omega, show k * 4 % 4 = 0 by omega]
        · simp only [e2, e1, e0, if_false]
          unfold lnc
          by_cases h : j / 4 < k
          · rw [if_pos (by omega), if_pos h]
          · rw [if_neg (by omega), if_neg h]

set_option maxRecDepth 100000 in
set_option maxHeartbeats 400000 in
theorem after_any (T S m i lo hi : Nat) (w : World) (c0 : w.cell? ⟨T, 0, none⟩ = some (.slice (some ⟨S, 0, none⟩) m m)) (c1 : w.cell? ⟨S, i, none⟩ = some (.int .i64 lo)) (c2 : w.cell? ⟨S, i + 1, none⟩ = some (.int .i64 hi)) (h : i + 1 < m) (hm : m ≤ 100) :
    Calls Yba.prog 9 #[.pointer (some ⟨T, 0, none⟩), .int .i64 i] w fun e w' => e = .returned (.tuple #[.int .i64 lo, .int .i64 hi]) ∧ Below w.heap.size w w' := by
  have q35 : ∀ (w : World) (a : Option Addr) (n c n' c' : Nat), (binOp .eql 35 (.slice a n c) (.slice none n' c')).run Yba.prog w = .ok (.bool a.isNone) w := fun w a n c n' c' => Lib.run_eql_slice_nil w _ _ a n c n' c' Yba.underlying35
  go_enter Yba.func9, Yba.ntmps9
  go_wp2_with fail
  go_quiet (fail)
  go_wp2
  go_ret2
  exact ⟨rfl, (Below.refl _ _).trans ⟨rfl, rfl, rfl, Nat.le_refl _, fun _ _ => rfl⟩⟩
/-- what the law reads at its end -/
structure Fin (w : World) (L T A C k M : Nat) (f : Nat → Nat) (to s : Nat → Int) : Prop where
  lin : Lines w L k f to s
  t1 : w.cell? ⟨T, 1, none⟩ = some (.slice (some ⟨A, 0, none⟩) M M)
  t2 : w.cell? ⟨T, 2, none⟩ = some (.slice (some ⟨C, 0, none⟩) M M)
  ta : ∀ q, q < k → 0 < s q → w.cell? ⟨A, pos f s k q, none⟩ = some (.int .i32 (to q))
  tc : ∀ q, q < k → 0 < s q → w.cell? ⟨C, pos f s k q, none⟩ = some (.int .i64 (s q))
theorem cell_later {w w' : World} {b o : Nat} {v : Value} (h : w.cell? ⟨b, o, none⟩ = some v) (B : Below w.heap.size w w') : w'.cell? ⟨b, o, none⟩ = some v :=
  (B.cell (p := ⟨b, o, none⟩) (World.block_lt_of_cell? _ _ h)).trans h
theorem Fin.later {w w' : World} {L T A C k M : Nat} {f : Nat → Nat} {to s : Nat → Int} (h : Fin w L T A C k M f to s) (B : Below w.heap.size w w') : Fin w' L T A C k M f to s :=
  ⟨⟨fun k hk => cell_later (h.lin.c0 k hk) B, fun k hk => cell_later (h.lin.c1 k hk) B, fun k hk => cell_later (h.lin.c2 k hk) B⟩, cell_later h.t1 B, cell_later h.t2 B, fun q h1 h2 => cell_later (h.ta q h1 h2) B, fun q h1 h2 => cell_later (h.tc q h1 h2) B⟩
theorem Fin.of {w : World} {L S A C k M jobs : Nat} {f : Nat → Nat} {to s : Nat → Int} (HL : Lines w L k f to s) (HT : Table w S A C f to s jobs k) (v0 : Value) : Fin (w.alloc (.cells #[v0, .slice (some ⟨A, 0, none⟩) M M, .slice (some ⟨C, 0, none⟩) M M] 39)) L w.heap.size A C k M f to s := by
  have B : Below w.heap.size w (w.alloc (.cells #[v0, .slice (some ⟨A, 0, none⟩) M M, .slice (some ⟨C, 0, none⟩) M M] 39)) := (Below.refl _ _).alloc (Nat.le_refl _) _
  exact ⟨⟨fun k hk => cell_later (HL.c0 k hk) B, fun k hk => cell_later (HL.c1 k hk) B, fun k hk => cell_later (HL.c2 k hk) B⟩, World.cell?_alloc_at _ _ _ _ rfl, World.cell?_alloc_at _ _ _ _ rfl, fun q h1 h2 => cell_later (HT.to q h1 h2) B, fun q h1 h2 => cell_later (HT.se q h1 h2) B⟩

set_option maxRecDepth 100000 in
set_option maxHeartbeats 1000000 in
theorem range_any (a0 : Option Addr) (n cap jj sel : Nat) (fr to s : Nat → Int) (w : World) (hn : n ≤ 1024) (hjj : jj ≤ 255) (hsel : sel < 18446744073709551616) (hfr : ∀ k, 0 ≤ fr k ∧ fr k ≤ 255) (hto : ∀ k, -2147483648 ≤ to k ∧ to k ≤ 2147483647)
    (hd : 0 < n → ∃ b off, a0 = some ⟨b, off, none⟩ ∧ b < w.heap.size ∧ ∀ k, k < n → w.cell? ⟨b, off + k * 3, none⟩ = some (.int .u8 (fr k)) ∧ w.cell? ⟨b, off + k * 3 + 1, none⟩ = some (.int .i32 (to k)) ∧ w.cell? ⟨b, off + k * 3 + 2, none⟩ = some (.int .i64 (s k))) :
    Calls Yba.prog 5 #[.int .u8 jj, .int .u64 sel, .slice a0 n cap] w fun e w' => e = .returned (.bool true) ∧ Below w.heap.size w w' := by
  obtain ⟨jobs, hjobs⟩ : ∃ jobs : Nat, jj % 16 + 1 = jobs := ⟨_, rfl⟩
  have hjb : 1 ≤ jobs ∧ jobs ≤ 16 := by omega
  have hJ : (jj : Int) % 16 + 1 = (jobs : Int) := by omega
  obtain ⟨f, hf⟩ : ∃ f : Nat → Nat, ∀ k, (fr k).toNat % jobs = f k := ⟨_, fun _ => rfl⟩
  have hfj : ∀ k, f k < jobs := fun k => by rw [← hf]; exact Nat.mod_lt _ (by omega)
  have r30 := run30 n (by omega)
  have g1 : ¬ (1024 : Int) < (n : Int) := by omega
  have HD : Hid (0 < n → ∃ b off, a0 = some ⟨b, off, none⟩ ∧ b < w.heap.size ∧ ∀ k, k < n → w.cell? ⟨b, off + k * 3, none⟩ = some (.int .u8 (fr k)) ∧ w.cell? ⟨b, off + k * 3 + 1, none⟩ = some (.int .i32 (to k)) ∧ w.cell? ⟨b, off + k * 3 + 2, none⟩ = some (.int .i64 (s k))) := hd
  have HFJ : Hid (∀ k, f k < jobs) := hfj
  have HF : Hid (∀ k, (fr k).toNat % jobs = f k) := hf
  have HFR : Hid (∀ k, 0 ≤ fr k ∧ fr k ≤ 255) := hfr
  have HTO : Hid (∀ k, -2147483648 ≤ to k ∧ to k ≤ 2147483647) := hto
  clear hd hfj hf hfr hto hjobs
  go_enter Yba.func5, Yba.ntmps5
  go_wp2_with fail
  go_loopw [32] (fun si wr => ∃ k : Nat, k ≤ n ∧ si = .int .i64 k ∧ wr.heap.size = w.heap.size + 1 ∧ Below w.heap.size w wr ∧ Row wr w.heap.size (n * 4) (lnc f to s k)) (fun si _ => n - (intOf si).toNat)
  case atStart => exact ⟨0, Nat.zero_le _, rfl, by simp, (Below.refl _ _).alloc (Nat.le_refl _) _, Row.new w _ _ _ _ (by rw [mkz_size]; exact Nat.le_refl _) (fun j hj => lnc_start f to s n j hj)⟩
  case round =>
    obtain ⟨k, hk, rfl, hsz, B, R⟩ := hrel
    by_cases hlt : k < n
    · obtain ⟨b, off, rfl, hb, hc⟩ := HD.out (by omega)
      obtain ⟨x0, x1, x2⟩ := hc k hlt
      have d0 : wr.cell? ⟨b, off + k * 3, none⟩ = some (.int .u8 (fr k)) := (B.cell (p := ⟨b, off + k * 3, none⟩) hb).trans x0
      have d1 : wr.cell? ⟨b, off + k * 3 + 1, none⟩ = some (.int .i32 (to k)) := (B.cell (p := ⟨b, off + k * 3 + 1, none⟩) hb).trans x1
      have d2 : wr.cell? ⟨b, off + k * 3 + 2, none⟩ = some (.int .i64 (s k)) := (B.cell (p := ⟨b, off + k * 3 + 2, none⟩) hb).trans x2
      clear x0 x1 x2 hc
      have y0 := HFR.out k
      have y1 := HTO.out k
      have e0 := R.cell (k * 4) (by omega)
      have e1 := R.cell (k * 4 + 1) (by omega)
      have e2 := R.cell (k * 4 + 2) (by omega)
      have e3 := R.cell (k * 4 + 3) (by omega)
      have z0 := R.frozen (k * 4)
      have z1 := R.frozen (k * 4 + 1)
      have z2 := R.frozen (k * 4 + 2)
      have z3 := R.frozen (k * 4 + 3)
      have b34 := build34
      have fa2 := World.frozen?_setCell
      have hfk : fr k % (jobs : Int) = (f k : Int) := by
        have e : fr k = ((fr k).toNat : Int) := by omega
        rw [← HF.out k, Int.natCast_emod]
        exact congrArg (· % (jobs : Int)) e
      have hfb : f k ≤ 16 := by have := HFJ.out k; omega
      go_wp2_with fail
      go_region
      go_wp2_with fail
      go_roundw
      case rel => exact ⟨k + 1, by omega, by go_num, by show (World.setCell _ _ _).heap.size = _; rw [size_setCell, size_setCell, size_setCell, size_setCell]; exact hsz, ((((B.setCell (Nat.le_refl _) _).setCell (Nat.le_refl _) _).setCell (Nat.le_refl _) _).setCell (Nat.le_refl _) _).drew, (lnc_step R hlt).drew⟩
      case measure => simp [intOf]; omega
    · obtain rfl : k = n := by omega
      clear hlt hk r30 HD
      go_wp2_with fail
      have HL := lnc_lines R
      refine (table_any w.heap.size k jobs f to s wr hn hjb (fun x _ => HFJ.out x) R.lt HL).mono ?_
      rintro e w2 ⟨rfl, HT, B2⟩
      obtain ⟨M, hM⟩ : ∃ M : Nat, cl f s jobs k = M := ⟨_, rfl⟩
      have hMk : M ≤ 1024 := by have := cl_le f s jobs k; omega
      rw [hM]
      obtain ⟨i, hi⟩ : ∃ i : Nat, sel % jobs = i := ⟨_, rfl⟩
      have hij : i < jobs := by rw [← hi]; exact Nat.mod_lt _ (by omega)
      have hiI : (sel : Int) % (jobs : Int) = (i : Int) := by rw [← hi, Int.natCast_emod]
      have hsz2 : wr.heap.size < w2.heap.size := by have := HT.st.lt; omega
      have BB : Below w.heap.size w w2 := B.trans (B2.mono B.size)
      have HL2 : Lines w2 w.heap.size k f to s := lnc_lines (R.below B2)
      rw [hsz] at HT
      have F0 : Hid (Fin _ w.heap.size w2.heap.size (w.heap.size + 1 + 1 + 1 + 1) (w.heap.size + 1 + 1 + 1 + 1 + 1) k M f to s) := Fin.of HL2 HT (.slice (some ⟨w.heap.size + 1 + 1, 0, none⟩) (jobs + 1) (jobs + 1))
      have c1 := (HT.st.alloc (.cells #[.slice (some ⟨w.heap.size + 1 + 1, 0, none⟩) (jobs + 1) (jobs + 1), .slice (some ⟨w.heap.size + 1 + 1 + 1 + 1, 0, none⟩) M M, .slice (some ⟨w.heap.size + 1 + 1 + 1 + 1 + 1, 0, none⟩) M M] 39)).cell i (by omega)
      have c2 := (HT.st.alloc (.cells #[.slice (some ⟨w.heap.size + 1 + 1, 0, none⟩) (jobs + 1) (jobs + 1), .slice (some ⟨w.heap.size + 1 + 1 + 1 + 1, 0, none⟩) M M, .slice (some ⟨w.heap.size + 1 + 1 + 1 + 1 + 1, 0, none⟩) M M] 39)).cell (i + 1) (by omega)
      have HA : Hid _ := after_any w2.heap.size (w.heap.size + 1 + 1) (jobs + 1) i (cl f s i k) (cl f s (i + 1) k) _ (World.cell?_alloc_at _ _ _ _ rfl) c1 c2 (by omega) (by omega)
      have HM : Hid (cl f s jobs k = M) := hM
      clear HT HL2 HL B2 B R hi hM c1 c2
      go_wp2_with fail
      refine Calls.mono HA.out ?_
      rintro e w4 ⟨rfl, B4⟩
      have F4 : Hid (Fin w4 w.heap.size w2.heap.size (w.heap.size + 1 + 1 + 1 + 1) (w.heap.size + 1 + 1 + 1 + 1 + 1) k M f to s) := F0.out.later B4
      have BB4 : Below w.heap.size w w4 := BB.trans (((Below.refl _ w2).alloc (Nat.le_refl _) _).trans (B4.mono (by simp)) |>.mono (by have := BB.size; omega))
      obtain ⟨lo, hlo⟩ : ∃ lo : Nat, cl f s i k = lo := ⟨_, rfl⟩
      obtain ⟨at', hat⟩ : ∃ at' : Nat, ce f s i k = at' := ⟨_, rfl⟩
      have hlok : lo ≤ 1024 := by have := cl_le f s i k; omega
      have hatk : at' ≤ 1024 := by have := ce_le f s i k; omega
      rw [cl_next, hlo, hat]
      have HLO : Hid (cl f s i k = lo) := hlo
      have HAT : Hid (ce f s i k = at') := hat
      clear HA F0 B4 BB hlo hat
      go_wp2_with fail
      go_loop [75, 14, 15] (fun si sb sa => ∃ q : Nat, q ≤ k ∧ si = .int .i64 q ∧ sb = .int .i64 (cl f s i q) ∧ sa = .int .i64 (ce f s i q)) (fun si _ _ => k - (intOf si).toNat)
      case atStart => exact ⟨0, Nat.zero_le _, rfl, rfl, rfl⟩
      case round =>
        obtain ⟨q, hq, rfl, rfl, rfl⟩ := hrel
        by_cases hlt : q < k
        · have d0 := F4.out.lin.c0 q hlt
          have d2 := F4.out.lin.c2 q hlt
          obtain ⟨x, hx⟩ : ∃ x : Nat, cl f s i q = x := ⟨_, rfl⟩
          obtain ⟨y, hy⟩ : ∃ y : Nat, ce f s i q = y := ⟨_, rfl⟩
          have hx2 : x ≤ 1024 := by have := cl_le f s i q; omega
          have hy2 : y ≤ 1024 := by have := ce_le f s i q; omega
          have hfb : f q ≤ 16 := by have := HFJ.out q; omega
          have HX : Hid (cl f s i q = x) := hx
          have HY : Hid (ce f s i q = y) := hy
          rw [hx, hy]
          obtain ⟨fq, hfq⟩ : ∃ fq : Nat, f q = fq := ⟨_, rfl⟩
          rw [hfq] at d0 hfb
          have HFQ : Hid (f q = fq) := hfq
          clear hx hy hfq
          by_cases hs : 0 < s q
          · have hs' : ¬ s q ≤ 0 := by omega
            rcases Nat.lt_trichotomy fq i with h | h | h
            · go_wp2_with fail
              go_round
              case rel => exact ⟨q + 1, by omega, by go_num, by simp [cl, HX.out, HFQ.out, hs, h], by simp [ce, HY.out, HFQ.out, hs, show ¬ fq = i by omega]⟩
              case measure => simp [intOf]; omega
            · subst h
              go_wp2_with fail
              go_round
              case rel => exact ⟨q + 1, by omega, by go_num, by simp [cl, HX.out, HFQ.out, hs], by simp [ce, HY.out, HFQ.out, hs]⟩
              case measure => simp [intOf]; omega
            · have h1 : ¬ fq < i := by omega
              have h2 : ¬ fq = i := by omega
              have h3 : ((fq : Int) == (i : Int)) = false := by simp; omega
              go_wp2_with fail
              go_round
              case rel => exact ⟨q + 1, by omega, by go_num, by simp [cl, HX.out, HFQ.out, h1], by simp [ce, HY.out, HFQ.out, h2]⟩
              case measure => simp [intOf]; omega
          · have hs' : s q ≤ 0 := by omega
            go_wp2_with fail
            go_round
            case rel => exact ⟨q + 1, by omega, by go_num, by simp [cl, HX.out, hs], by simp [ce, HY.out, hs]⟩
            case measure => simp [intOf]; omega
        · obtain rfl : q = k := by omega
          rw [HLO.out, HAT.out]
          clear hlt hq
          go_wp2_with fail
          go_loopw [114, 18] (fun si sp wr => ∃ u : Nat, u ≤ q ∧ si = .int .i64 u ∧ sp = .int .i64 ((lo + ce f s i u : Nat) : Int) ∧ Hid (Fin wr w.heap.size w2.heap.size (w.heap.size + 1 + 1 + 1 + 1) (w.heap.size + 1 + 1 + 1 + 1 + 1) q M f to s) ∧ Below w.heap.size w wr) (fun si _ _ => q - (intOf si).toNat)
          case atStart => exact ⟨0, Nat.zero_le _, rfl, by simp [ce], F4, BB4⟩
          case round =>
            clear F4 BB4
            obtain ⟨u, hu, rfl, rfl, F, BW⟩ := hrel
            by_cases hlt : u < q
            · have d0 := F.out.lin.c0 u hlt
              have d1 := F.out.lin.c1 u hlt
              have d2 := F.out.lin.c2 u hlt
              have y1 := HTO.out u
              obtain ⟨y, hy⟩ : ∃ y : Nat, ce f s i u = y := ⟨_, rfl⟩
              have hy2 : y ≤ 1024 := by have := ce_le f s i u; omega
              have hfb : f u ≤ 16 := by have := HFJ.out u; omega
              have HY : Hid (ce f s i u = y) := hy
              rw [hy]
              obtain ⟨fq, hfq⟩ : ∃ fq : Nat, f u = fq := ⟨_, rfl⟩
              rw [hfq] at d0 hfb
              have HFQ : Hid (f u = fq) := hfq
              clear hy hfq
              by_cases hs : 0 < s u
              · have hs' : ¬ s u ≤ 0 := by omega
                by_cases h : fq = i
                · subst h
                  have t1 := F.out.t1
                  have t2 := F.out.t2
                  have ta := F.out.ta u hlt hs
                  have tc := F.out.tc u hlt hs
                  have hpos : pos f s q u = lo + y := by unfold pos; rw [HFQ.out, HLO.out, HY.out]
                  have hlt1 := pos_lt' f s hs hlt (show f u < jobs by rw [HFQ.out]; exact hij)
                  have hlt2 := ce_lt f s hs hlt
                  rw [hpos, HM.out] at hlt1
                  rw [HFQ.out, HY.out, HAT.out] at hlt2
                  rw [hpos] at ta tc
                  push_cast
                  have p1 : ¬ (lo : Int) + (at' : Int) ≤ (lo : Int) + (y : Int) := by omega
                  have p2 : ¬ (M : Int) ≤ (lo : Int) + (y : Int) := by omega
                  clear hpos
                  go_wp2_with fail
                  go_quiet (fail)
                  go_wp2_with fail
                  go_roundw
                  case rel => exact ⟨u + 1, by omega, by go_num, by simp [ce, HY.out, HFQ.out, hs]; omega, F.out.later ⟨rfl, rfl, rfl, Nat.le_refl _, fun _ _ => rfl⟩, BW.trans ⟨rfl, rfl, rfl, Nat.le_refl _, fun _ _ => rfl⟩⟩
                  case measure => simp [intOf]; omega
                · have h3 : ((fq : Int) != (i : Int)) = true := by simp; omega
                  go_wp2_with fail
                  go_roundw
                  case rel => exact ⟨u + 1, by omega, by go_num, by simp [ce, HY.out, HFQ.out, h], F, BW⟩
                  case measure => simp [intOf]; omega
              · have hs' : s u ≤ 0 := by omega
                go_wp2_with fail
                go_roundw
                case rel => exact ⟨u + 1, by omega, by go_num, by simp [ce, HY.out, hs], F, BW⟩
                case measure => simp [intOf]; omega
            · obtain rfl : u = q := by omega
              rw [HAT.out]
              go_wp2_with fail
              go_ret
              exact ⟨by simp, BW⟩

set_option maxRecDepth 100000 in
set_option maxHeartbeats 400000 in
theorem range_long (a0 : Option Addr) (n cap jj sel : Nat) (w : World) (hn : 1024 < n) :
    Calls Yba.prog 5 #[.int .u8 jj, .int .u64 sel, .slice a0 n cap] w fun e w' => e = .returned (.bool true) ∧ Below w.heap.size w w' := by
  have g1 : (1024 : Int) < (n : Int) := by omega
  go_enter Yba.func5, Yba.ntmps5
  go_wp2
  go_ret
  exact ⟨rfl, Below.refl _ _⟩
end Go.Proofs.Ybulknek
