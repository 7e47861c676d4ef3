/-
  LawS0681BFramed's walk: the frame is built within its room, then zzs0681bcheck.
-/
import Derived.Test.YbulknbsFmtLaid
import Derived.OwnWalk
namespace Go.Proofs.YbulknbsFmt
open Go.RowKit

theorem cells_new (w : World) (cs : Array Value) (t : TypeId) : ∀ j u, cs.toList[j]? = some u → (w.alloc (.cells cs t)).cell? ((⟨w.heap.size, 0, none⟩ : Addr).add j) = some u := fun j u hu => by
  have hadd : (⟨w.heap.size, 0, none⟩ : Addr).add j = ⟨w.heap.size, j, none⟩ := by unfold Addr.add; split <;> simp_all
  rw [hadd, World.cell?_alloc_at _ _ _ _ rfl]
  simpa using hu

theorem info5p : (Ybaf.prog.info? 5).map (fun i => (i.zero, i.size, i.bytes)) = some (some (.int .u8 0), 1, 1) := by kernel_rfl

/-- a row of bytes that the call made -/
structure Framed (w : World) (g N : Nat) (ys : List Int) : Prop where
  len : ys.length = N
  bnd : ∀ j : Nat, 0 ≤ ys[j]?.getD 0 ∧ ys[j]?.getD 0 ≤ 255
  cell : ∀ i, i < N → w.cell? ⟨g, i, none⟩ = some (.int .u8 (ys.getD i 0))

theorem Framed.set {w : World} {g N : Nat} {ys : List Int} (F : Framed w g N ys) (q : Nat) (hq : q < N) (x : Int) (hx : 0 ≤ x ∧ x ≤ 255) : Framed (w.setCell ⟨g, q, none⟩ (.int .u8 x)) g N (ys.set q x) where
  len := by simp [F.len]
  bnd := fun j => by
    by_cases h : q = j
    · subst h; simp [F.len, hq, hx]
    · rw [List.getElem?_set_ne h]; exact F.bnd j
  cell := fun i hi => by
    by_cases h : q = i
    · subst h; rw [World.cell?_setCell_same _ _ _ (by rw [F.cell q hq])]; simp [F.len, hq]
    · rw [World.cell?_setCell_other _ _ _ _ (by intro e; injection e; omega), F.cell i hi]; simp [List.getElem?_set_ne h]

theorem framed_check {w w2 : World} {g N : Nat} {ys : List Int} (F : Framed w2 g N ys) (B : Below w.heap.size w w2) (want : Int) (r : Option Nat) (hN : N ≤ 2000000) (hg : w.cell? ⟨2, 0, none⟩ = some (.map r)) (hm : MapOK w r) :
    Calls Ybaf.prog 12 #[.slice (some ⟨g, 0, none⟩) N N, .int .u8 want] w2 fun e w' => e = .returned (.bool true) ∧ Below w.heap.size w w' := by
  refine (check_any (some ⟨g, 0, none⟩) N N want r w2 hN (Nat.le_refl _) ((B.cell (p := ⟨2, 0, none⟩) (World.block_lt_of_cell? _ _ hg)).trans hg) (hm.later B) (Or.inr ⟨g, 0, ys, rfl, F.bnd, fun i hi => by rw [Nat.zero_add]; exact F.cell i hi⟩)).mono ?_
  rintro e w' ⟨rfl, B2⟩
  exact ⟨rfl, B.trans (B2.mono B.size)⟩

def dat (zs : List Int) (len : Nat) : List Int := (List.range len).map fun i => zs.getD i 0
theorem dat_get (zs : List Int) (len j : Nat) (h : j < len) : (dat zs len)[j]? = some (zs.getD j 0) := by simp [dat, h]
theorem dat_len (zs : List Int) (len : Nat) : (dat zs len).length = len := by simp [dat]

theorem dat_cells {w w1 : World} {a0 : Option Addr} {len : Nat} {zs : List Int} (hd : 0 < len → ∃ b off, a0 = some ⟨b, off, none⟩ ∧ ∀ i, i < len → w.cell? ⟨b, off + i, none⟩ = some (.int .u8 (List.getD zs i 0))) (B : Below w.heap.size w w1) :
    ∀ ad, a0 = some ad → ∀ j u, ((dat zs len).map (Value.int .u8))[j]? = some u → w1.cell? (ad.add j) = some u := fun ad ha j u hu => by
  by_cases hj : j < len
  · obtain ⟨b, off, hab, hc⟩ := hd (by omega)
    obtain rfl := Option.some.inj (ha.symm.trans hab)
    rw [List.getElem?_map, dat_get zs len j hj] at hu
    have e : (⟨b, off, none⟩ : Addr).add j = ⟨b, off + j, none⟩ := by unfold Addr.add; split <;> simp_all
    rw [e, B.cell (p := ⟨b, off + j, none⟩) (World.block_lt_of_cell? _ _ (hc j hj)), hc j hj]
    simpa using hu
  · rw [List.getElem?_eq_none (by rw [List.length_map, dat_len]; omega)] at hu; cases hu

theorem framed_of {w : World} {base g len : Nat} {x1 x2 x3 : Int} {zs : List Int} (hz : ∀ j : Nat, 0 ≤ zs[j]?.getD 0 ∧ zs[j]?.getD 0 ≤ 255) (h1 : 0 ≤ x1 ∧ x1 ≤ 255) (h2 : 0 ≤ x2 ∧ x2 ≤ 255) (h3 : 0 ≤ x3 ∧ x3 ≤ 255)
    (h : w.ownsRow base 5 1 (.slice (some ⟨g, 0, none⟩) (19 + len) (19 + len)) (19 + len) ((List.replicate 16 (Value.int .u8 255) ++ [.int .u8 x1, .int .u8 x2, .int .u8 x3]) ++ (dat zs len).map (Value.int .u8))) :
    ∃ ys, Framed w g (19 + len) ys ∧ (∀ q, q < 16 → w.cell? ⟨g, q, none⟩ = some (.int .u8 255)) ∧ ∀ q, w.frozen? ⟨g, q, none⟩ = false := by
  have hc : ∀ j, j < 19 + len → w.cell? ⟨g, j, none⟩ = _ := fun j hj => h.cellAt j (by omega)
  have e : (List.replicate 16 (Value.int .u8 255) ++ [.int .u8 x1, .int .u8 x2, .int .u8 x3]) ++ (dat zs len).map (Value.int .u8) = ((List.replicate 16 255 ++ [x1, x2, x3]) ++ dat zs len).map (Value.int .u8) := by simp
  rw [e] at hc
  have hl : ((List.replicate 16 255 ++ [x1, x2, x3]) ++ dat zs len).length = 19 + len := by simp [dat_len]; omega
  have hb : ∀ y ∈ (List.replicate 16 255 ++ [x1, x2, x3]) ++ dat zs len, 0 ≤ y ∧ y ≤ 255 := by
    intro y hy
    simp only [List.mem_append, List.mem_replicate, List.mem_cons, List.not_mem_nil, or_false] at hy
    rcases hy with (⟨_, rfl⟩ | rfl | rfl | rfl) | hy
    · omega
    · exact h1
    · exact h2
    · exact h3
    · unfold dat at hy
      obtain ⟨i, _, rfl⟩ := List.mem_map.1 hy
      simpa using hz i
  refine ⟨(List.replicate 16 255 ++ [x1, x2, x3]) ++ dat zs len, ⟨hl, fun j => ?_, fun i hi => ?_⟩, fun q hq => ?_, fun q => h.frozenAt q⟩
  · by_cases hj : j < 19 + len
    · rw [List.getElem?_eq_getElem (by omega)]; exact hb _ (List.getElem_mem _)
    · rw [List.getElem?_eq_none (by omega)]; simp
  · rw [hc i hi, List.getElem?_map, List.getElem?_eq_getElem (by omega), List.getD_eq_getElem?_getD, List.getElem?_eq_getElem (by omega)]; rfl
  · rw [hc q (by omega), List.append_assoc, List.getElem?_map, List.getElem?_append_left (by simpa using hq), List.getElem?_replicate, if_pos hq]; rfl

set_option maxRecDepth 100000 in
set_option maxHeartbeats 2000000 in
theorem framed_walk (a0 : Option Addr) (len cap : Nat) (want typ n sel cor : Int) (zs : List Int) (r : Option Nat) (w : World) (hl : len ≤ 1024) (hg : w.cell? ⟨2, 0, none⟩ = some (.map r)) (hm : MapOK w r)
    (hno : a0 = none → len = 0 ∧ cap = 0) (hz : ∀ j : Nat, 0 ≤ zs[j]?.getD 0 ∧ zs[j]?.getD 0 ≤ 255) (hw : 0 ≤ want ∧ want ≤ 255) (ht : 0 ≤ typ ∧ typ ≤ 255) (hn : 0 ≤ n ∧ n ≤ 65535) (hs : 0 ≤ sel ∧ sel ≤ 255) (hc : 0 ≤ cor ∧ cor ≤ 255)
    (hd : 0 < len → ∃ b off, a0 = some ⟨b, off, none⟩ ∧ ∀ i, i < len → w.cell? ⟨b, off + i, none⟩ = some (.int .u8 (List.getD zs i 0))) :
    Calls Ybaf.prog 6 #[.slice a0 len cap, .int .u8 want, .int .u8 typ, .int .u16 n, .int .u8 sel, .int .u8 cor] w fun e w' => e = .returned (.bool true) ∧ Below w.heap.size w w' := by
  obtain ⟨i0, hi, hz0, hz1, hz2⟩ := info_parts info5p
  obtain ⟨q, hq⟩ : ∃ q : Nat, cor / 4 % 16 = (q : Int) := ⟨(cor / 4 % 16).toNat, by omega⟩
  have hq16 : q < 16 := by omega
  have g1 : ¬ (1024 : Int) < (len : Int) := by omega
  have HD : Hid (0 < len → ∃ b off, a0 = some ⟨b, off, none⟩ ∧ ∀ i, i < len → w.cell? ⟨b, off + i, none⟩ = some (.int .u8 (List.getD zs i 0))) := hd
  have HZ : Hid (∀ j : Nat, 0 ≤ zs[j]?.getD 0 ∧ zs[j]?.getD 0 ≤ 255) := hz
  have HG : Hid (w.cell? ⟨2, 0, none⟩ = some (.map r)) := hg
  have HNO : Hid (a0 = none → len = 0 ∧ cap = 0) := hno
  clear hd hz hg hno
  go_enter Ybaf.func6, Ybaf.ntmps6
  go_wp2_with (at_make; refine wpList_make_own _ rfl _ _ 22 rfl w.heap.size 5 i0 (.int .u8 0) 1 Ybaf.underlying22 hi hz0 hz1 _ _ _ (19 + len) rfl rfl (by omega) ?b2 ?b3 (Nat.le_refl _) ?_)
  case b2 => omega
  case b3 => unfold maxLen; omega
  intro w0 hown0 hgrow0
  go_wp2
  go_loopw [13, 14] (fun out si wr => ∃ k : Nat, k ≤ 16 ∧ si = .int .i64 k ∧ out = .slice (some ⟨w.heap.size, 0, none⟩) k (19 + len) ∧
      wr.ownsRow w.heap.size 5 1 (.slice (some ⟨w.heap.size, 0, none⟩) k (19 + len)) k (List.replicate k (.int .u8 255)) ∧ Below w.heap.size w wr)
    (fun _ si _ => 16 - (intOf si).toNat)
  case atStart => exact ⟨0, Nat.zero_le _, rfl, rfl, hown0, (Below.refl _ _).grown hgrow0 (Nat.le_refl _) (fun k h => by cases h)⟩
  case round =>
    obtain ⟨k, hk, rfl, rfl, hown, B⟩ := hrel
    have hsz := B.size
    by_cases hlt : k < 16
    · go_wp2_with (at_builtin; refine wpList_append_fits _ rfl (.tmp 28) (.tmp 29) 22 rfl w.heap.size 5 i0 1 Ybaf.underlying22 hi hz1 w.heap.size k (19 + len) _ rfl (hown.alloc _) ⟨wr.heap.size, 0, none⟩ 1 1 _ rfl rfl (cells_new _ _ _) (by intro u hu; simp at hu; subst hu; rfl) (by omega) ?_; intro w1 hown1 hgrow1)
      go_roundw
      case rel => exact ⟨k + 1, by omega, by go_num, rfl, by simpa [List.replicate_succ'] using hown1, (B.alloc B.size _).grown hgrow1 (by simp; omega) (fun k hk => by cases hk; exact Nat.le_refl _)⟩
      case measure => simp [intOf]; omega
    · obtain rfl : k = 16 := by omega
      go_wp2_with (first
        | (at_builtin; refine wpList_append_fits _ rfl (.tmp 48) (.tmp 55) 22 rfl w.heap.size 5 i0 1 Ybaf.underlying22 hi hz1 w.heap.size 16 (19 + len) _ rfl (hown.alloc _) ⟨wr.heap.size, 0, none⟩ 3 3 _ rfl rfl (cells_new _ _ _) (by intro u hu; simp at hu; rcases hu with rfl | rfl | rfl <;> rfl) (by omega) ?_; intro w1 hown1 hgrow1; have B1 : Below w.heap.size w w1 := (B.alloc B.size _).grown hgrow1 (by simp; omega) (fun k hk => by cases hk; exact Nat.le_refl _))
        | (at_builtin; refine wpList_append_fits_any _ rfl (.tmp 57) (.tmp 58) 22 rfl w.heap.size 5 i0 1 Ybaf.underlying22 hi hz1 w.heap.size 19 (19 + len) _ rfl hown1 _ len cap ((dat zs len).map (Value.int .u8)) rfl (by simp [dat_len]) HNO.out (dat_cells HD.out B1) (ints_oneCell _ _) (by omega) ?_
           intro w2 hown2 hgrow2
           obtain ⟨ys, HF, hcell, hfr⟩ := framed_of HZ.out (by omega) (by omega) (by omega) hown2
           have B2 : Below w.heap.size w w2 := B1.grown hgrow2 B1.size (fun k hk => by cases hk; exact Nat.le_refl _)
           have hcq := hcell q hq16
           have hfq := hfr q
           clear hcell hfr hown2 hgrow2 hown1 hgrow1 B1)
        | fail)
      all_goals first
        | refine (framed_check (HF.set q (by omega) _ (by decide)) (B2.setCell (Nat.le_refl _) _) want r (by omega) HG.out hm).mono ?_
        | refine (framed_check HF B2 want r (by omega) HG.out hm).mono ?_
      all_goals
        rintro e w3 ⟨rfl, B3⟩
        go_wp2
        go_ret
        exact ⟨rfl, B3⟩

set_option maxRecDepth 100000 in
set_option maxHeartbeats 400000 in
theorem framed_long (a0 : Option Addr) (len cap : Nat) (want typ n sel cor : Int) (w : World) (hl : 1024 < len) :
    Calls Ybaf.prog 6 #[.slice a0 len cap, .int .u8 want, .int .u8 typ, .int .u16 n, .int .u8 sel, .int .u8 cor] w fun e w' => e = .returned (.bool true) ∧ Below w.heap.size w w' := by
  have g1 : (1024 : Int) < (len : Int) := by omega
  go_enter Ybaf.func6, Ybaf.ntmps6
  go_wp2
  go_ret
  exact ⟨rfl, Below.refl _ _⟩
end Go.Proofs.YbulknbsFmt
