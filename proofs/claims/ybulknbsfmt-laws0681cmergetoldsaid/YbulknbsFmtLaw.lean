/-
  LawS0681CMerge.
-/
import Derived.Test.YbulknbsFmtBuild
import Derived.Deep.DeepCutAuto
import Derived.Deep.Cut
import Derived.Deep.CutRange
import Derived.Deep.CutBlock
import Derived.Laws.AppendOwnNone
namespace Go.Proofs.YbulknbsFmt
open Go.RowKit

theorem Bs.len {base : Nat} {w wr : World} {a : Option Addr} {n c : Nat} {va : Value} {bytes : List Int} {F : List (Int × List Int)} {l : List (Int × Value)} (S : Bs base w wr (.slice a n c) va bytes F l) : bytes.length = n := by
  rcases S.bs.2 with ⟨hv, h0⟩ | ⟨g, cap, cur, hv, _⟩
  · injection hv with _ h2 _; omega
  · injection hv with _ h2 _; omega

theorem build48 (a2 a3 : Option Addr) (n2 c2 n3 c3 : Nat) (w : World) : (Instr.build 48 #[(0, .bool true), (2, .slice a2 n2 c2), (3, .slice a3 n3 c3)]).run Ybaf.prog w = .ok (.agg #[.bool true, .slice none 0 0, .slice a2 n2 c2, .slice a3 n3 c3]) w := by kernel_rfl

theorem plen_nums (ss : List (Int × List Int)) : plen ss ≤ ss.length + (nums ss).length := by
  induction ss with
  | nil => simp [plen]
  | cons s r ih =>
    simp only [plen, nums, List.length_cons, List.length_append]
    have : one s ≤ 1 + s.2.length := by unfold one; split <;> (try split) <;> omega
    omega
theorem nums_norm (ss : List (Int × List Int)) : nums (ss.map norm) = nums ss := by
  induction ss with
  | nil => rfl
  | cons s r ih => simp only [List.map_cons, nums, ih]; rfl
theorem nums_filter (ss : List (Int × List Int)) : (nums (ss.filter ncs)).length ≤ (nums ss).length := by
  induction ss with
  | nil => simp [nums]
  | cons s r ih =>
    by_cases h : ncs s = true
    · rw [List.filter_cons_of_pos h]; simp only [nums, List.length_append]; omega
    · rw [List.filter_cons_of_neg h]; simp only [nums, List.length_append]; omega

theorem len_of_nums (ss : List (Int × List Int)) (h : (nums ss).length ≤ 100000) (i : Nat) : (ss.getD i (0, [])).2.length ≤ 100000 := by
  by_cases hi : i < ss.length
  · have e1 := nums_le ss i hi
    omega
  · simp [List.getElem?_eq_none (by omega : ss.length ≤ i)]
theorem keep_le (ss : List (Int × List Int)) (n : Nat) : (keep n ss).length ≤ ss.length ∧ (nums (keep n ss)).length ≤ (nums ss).length := by
  induction ss generalizing n with
  | nil => cases n <;> simp [keep, nums]
  | cons s r ih =>
    unfold keep
    split
    · have := ih n; simp [nums]; omega
    · split
      · simp [nums]
      · split
        · have := ih (n - 1); simp [nums]; omega
        · have := ih (n - min n s.2.length); simp [nums]; omega

theorem exp_step {M q g cap : Nat} {w6 wr w8 w9 : World} {se : Value} {acc : List (Int × List Int)} {l : List (Int × Value)} {t : Int} {xs : List Int} {a1 : Option Addr} {n1 c1 : Nat} (O : Own M wr se acc l) (hq : acc.length = q) (B : Below M w6 wr) (hM : M ≤ w6.heap.size) (B8 : Below wr.heap.size wr w8) (N : NumsAt .u32 wr (.slice a1 n1 c1) xs) (hb : ∀ b, (Value.slice a1 n1 c1).ownBlock = some b → b < M)
    (hown : w9.ownsRow M 65 2 (.slice (some ⟨g, 0, none⟩) (q + 1) cap) (q + 1) (flat l ++ [.int .u8 t, .slice a1 n1 c1])) (hgrow : w8.grownBy w9 se.ownBlock) (hat : se.ownBlock = some g ∨ g = w8.heap.size) :
    Own M w9 (.slice (some ⟨g, 0, none⟩) (q + 1) cap) (acc ++ [(t, xs)]) (l ++ [(t, .slice a1 n1 c1)]) ∧ Below M w6 w9 := by
  have hs1 := B.size
  have hs2 := B8.size
  refine ⟨(O.later B8).push (N.later B8) (fun b hbb => ⟨fun e => ?_, ?_⟩) hq hown hgrow hat, ?_⟩
  · have h1 := hb b hbb
    have h2 := (O.own.lt b e).1
    omega
  · have := hb b hbb
    omega
  · exact (B.trans (B8.mono (by omega))).grown hgrow (by omega) (fun k h => (O.own.lt k h).1)

def LawOut (w : World) (e : Ending) (w' : World) : Prop := e = .returned (.bool true) ∧ Below w.heap.size w w'

set_option maxRecDepth 100000 in
set_option maxHeartbeats 100000000 in
theorem law_walk (va vb vg vg4 : Value) (has4 bad : Bool) (P0 A0 : List (Int × List Int)) (ag ag4 : List Int) (w : World) (hP : SegsAt w va P0) (hA : SegsAt w vb A0) (hg : NumsAt .u8 w vg ag) (hg4 : NumsAt .u8 w vg4 ag4)
    (tP : ∀ i, 0 ≤ (P0.getD i (0, [])).1 ∧ (P0.getD i (0, [])).1 ≤ 255) (tA : ∀ i, 0 ≤ (A0.getD i (0, [])).1 ∧ (A0.getD i (0, [])).1 ≤ 255) (lP : ∀ i, (P0.getD i (0, [])).2.length ≤ 35184372088832) (lA : ∀ i, (A0.getD i (0, [])).2.length ≤ 35184372088832)
    (nA : ∀ s ∈ A0, ∀ x ∈ s.2, 0 ≤ x ∧ x ≤ 4294967295) (gA : ∀ i, 0 ≤ ag.getD i 0 ∧ ag.getD i 0 ≤ 255) (lg : ag.length ≤ 140737488355328) (lg4 : ag4.length ≤ 140737488355328) :
    Calls Ybaf.prog 7 #[va, vb, .bool has4, .bool bad, vg, vg4] w fun e w' => LawOut w e w' := by
  obtain ⟨j0, hj, hy0, hy1, hy2⟩ := info_parts info65p
  obtain ⟨i0, hi, hz0, hz1, hz2⟩ := info_parts info5q
  have b65 := build65
  have b48 := build48
  have HP : Hid (SegsAt w va P0) := hP
  have HA : Hid (SegsAt w vb A0) := hA
  have HG : Hid (NumsAt .u8 w vg ag) := hg
  have HG4 : Hid (NumsAt .u8 w vg4 ag4) := hg4
  obtain ⟨aP, cP, rfl, hcP, -, hhP⟩ := hP
  obtain ⟨aA, cA, rfl, hcA, -, hhA⟩ := hA
  obtain ⟨aG, cG, rfl, hcG, -, -⟩ := hg
  obtain ⟨aH, cH, rfl, hcH, -, -⟩ := hg4
  obtain ⟨nP, hnP⟩ : ∃ n, P0.length = n := ⟨_, rfl⟩
  obtain ⟨nA', hnA⟩ : ∃ n, A0.length = n := ⟨_, rfl⟩
  obtain ⟨nG, hnG⟩ : ∃ n, ag.length = n := ⟨_, rfl⟩
  obtain ⟨nH, hnH⟩ : ∃ n, ag4.length = n := ⟨_, rfl⟩
  rw [hnP] at hcP hhP HP
  rw [hnA] at hcA hhA HA
  rw [hnG] at HG hcG lg
  rw [hnH] at HG4 hcH lg4
  rw [hnP, hnA, hnG, hnH]
  have HNP : Hid (P0.length = nP) := hnP
  have HNA : Hid (A0.length = nA') := hnA
  have HNG : Hid (ag.length = nG) := hnG
  have HNH : Hid (ag4.length = nH) := hnH
  have CP : Hid (0 < nP → ∃ b off, aP = some ⟨b, off, none⟩ ∧ ∀ i, i < nP → w.cell? ⟨b, off + i * 2, none⟩ = some (.int .u8 (P0.getD i (0, [])).1) ∧ ∃ a' n' c', w.cell? ⟨b, off + i * 2 + 1, none⟩ = some (.slice a' n' c') ∧ NumsAt .u32 w (.slice a' n' c') (P0.getD i (0, [])).2) := hhP
  have CA : Hid (0 < nA' → ∃ b off, aA = some ⟨b, off, none⟩ ∧ ∀ i, i < nA' → w.cell? ⟨b, off + i * 2, none⟩ = some (.int .u8 (A0.getD i (0, [])).1) ∧ ∃ a' n' c', w.cell? ⟨b, off + i * 2 + 1, none⟩ = some (.slice a' n' c') ∧ NumsAt .u32 w (.slice a' n' c') (A0.getD i (0, [])).2) := hhA
  have HTP : Hid (∀ i, 0 ≤ (P0.getD i (0, [])).1 ∧ (P0.getD i (0, [])).1 ≤ 255) := tP
  have HTA : Hid (∀ i, 0 ≤ (A0.getD i (0, [])).1 ∧ (A0.getD i (0, [])).1 ≤ 255) := tA
  have HLP : Hid (∀ i, (P0.getD i (0, [])).2.length ≤ 35184372088832) := lP
  have HLA : Hid (∀ i, (A0.getD i (0, [])).2.length ≤ 35184372088832) := lA
  have HNAA : Hid (∀ s ∈ A0, ∀ x ∈ s.2, 0 ≤ x ∧ x ≤ 4294967295) := nA
  have HGA : Hid (∀ i, 0 ≤ ag.getD i 0 ∧ ag.getD i 0 ≤ 255) := gA
  clear hhP hhA hnP hnA hnG hnH tP tA lP lA nA gA
  by_cases g1 : (256 : Int) < (nP : Int)
  · go_enter Ybaf.func7, Ybaf.ntmps7
    go_wp2_with fail
    go_ret
    exact ⟨rfl, Below.refl _ _⟩
  by_cases g2 : (256 : Int) < (nA' : Int)
  · go_enter Ybaf.func7, Ybaf.ntmps7
    go_wp2_with fail
    go_ret
    exact ⟨rfl, Below.refl _ _⟩
  go_enter Ybaf.func7, Ybaf.ntmps7
  go_wp2_with fail
  go_loopw [13, 45] (fun st si wr => ∃ k : Nat, k ≤ nP ∧ si = .int .i64 k ∧ st = .int .i64 (nums (P0.take k)).length ∧ Below w.heap.size w wr) (fun _ si _ => nP - (intOf si).toNat)
  case atStart => exact ⟨0, Nat.zero_le _, rfl, rfl, Below.refl _ _⟩
  case round =>
    obtain ⟨k, hk, rfl, rfl, B⟩ := hrel
    by_cases hlt : k < nP
    · obtain ⟨b, off, rfl, hx⟩ := CP.out (by omega)
      obtain ⟨x1, a', n', c', x2, ⟨a'', c'', hv, -⟩⟩ := hx k hlt
      replace x1 := cell_later x1 B
      replace x2 := cell_later x2 B
      have hn' : (P0.getD k (0, [])).2.length = n' := by injection hv with _ e _; exact e.symm
      have hstep := nums_take P0 k (by rw [HNP.out]; exact hlt)
      have hbk := nums_bound P0 _ HLP.out (k + 1) (by rw [HNP.out]; exact hlt)
      rw [hn'] at hstep
      rw [hstep] at hbk
      obtain ⟨s, hs⟩ : ∃ s, (nums (P0.take k)).length = s := ⟨_, rfl⟩
      rw [hs] at hstep hbk ⊢
      have HS : Hid ((nums (P0.take (k + 1))).length = s + n') := hstep
      have hbb : s + n' ≤ 10000000000000000 := by omega
      clear hv hx hn' hstep hs hbk
      go_wp2_with fail
      go_roundw
      case rel => exact ⟨k + 1, by omega, by go_num, by rw [HS.out]; push_cast; rfl, B.alloc B.size _⟩
      case measure => simp [intOf]; omega
    · obtain rfl : nP = k := by omega
      obtain ⟨s1, hs1⟩ : ∃ s, (nums (P0.take nP)).length = s := ⟨_, rfl⟩
      have hs1b : s1 ≤ 10000000000000000 := by have := nums_bound P0 _ HLP.out nP (by rw [HNP.out]; exact Nat.le_refl _); omega
      have HS1 : Hid ((nums P0).length = s1) := by rw [List.take_of_length_le (by rw [HNP.out]; exact Nat.le_refl _)] at hs1; exact hs1
      rw [hs1]
      clear hs1 CP
      obtain ⟨w1, hw1⟩ : ∃ x, x = wr := ⟨_, rfl⟩
      subst hw1
      go_wp2_with fail
      go_loopw [13, 57] (fun st si wr => ∃ j : Nat, j ≤ nA' ∧ si = .int .i64 j ∧ st = .int .i64 ((s1 + (nums (A0.take j)).length : Nat) : Int) ∧ Below w.heap.size w wr) (fun _ si _ => nA' - (intOf si).toNat)
      case atStart => exact ⟨0, Nat.zero_le _, rfl, rfl, B⟩
      case round =>
        clear B
        obtain ⟨j, hjn, rfl, rfl, B⟩ := hrel
        by_cases hlt2 : j < nA'
        · obtain ⟨b, off, rfl, hx⟩ := CA.out (by omega)
          obtain ⟨x1, a', n', c', x2, ⟨a'', c'', hv, -⟩⟩ := hx j hlt2
          replace x1 := cell_later x1 B
          replace x2 := cell_later x2 B
          have hn' : (A0.getD j (0, [])).2.length = n' := by injection hv with _ e _; exact e.symm
          have hstep := nums_take A0 j (by rw [HNA.out]; exact hlt2)
          have hbk := nums_bound A0 _ HLA.out (j + 1) (by rw [HNA.out]; exact hlt2)
          rw [hn'] at hstep
          rw [hstep] at hbk
          obtain ⟨s, hs⟩ : ∃ s, (nums (A0.take j)).length = s := ⟨_, rfl⟩
          rw [hs] at hstep hbk ⊢
          have HS : Hid ((nums (A0.take (j + 1))).length = s + n') := hstep
          have hbb : s + n' ≤ 10000000000000000 := by omega
          clear hv hx hn' hstep hs hbk
          go_wp2_with fail
          go_roundw
          case rel => exact ⟨j + 1, by omega, by go_num, by rw [HS.out]; push_cast; rw [Int.add_assoc], B.alloc B.size _⟩
          case measure => simp [intOf]; omega
        · obtain rfl : nA' = j := by omega
          have hb2 := nums_bound A0 _ HLA.out nA' (by rw [HNA.out]; exact Nat.le_refl _)
          rw [List.take_of_length_le (by rw [HNA.out]; exact Nat.le_refl _)] at hb2 ⊢
          by_cases g3 : (4096 : Int) < (s1 : Int) + ((nums A0).length : Int)
          · go_wp2_with fail
            go_ret
            exact ⟨rfl, B⟩
          · have hs2 : s1 + (nums A0).length ≤ 4096 := by omega
            obtain ⟨w2, hw2⟩ : ∃ x, x = wr := ⟨_, rfl⟩
            subst hw2
            have hsz2 := B.size
            go_wp2_with (at_make; refine wpList_make_own _ rfl _ _ 22 rfl w.heap.size 5 i0 (.int .u8 0) 1 Ybaf.underlying22 hi hz0 hz1 _ _ _ 8 rfl rfl rfl (by rw [hz2]; omega) ?b3 hsz2 ?_)
            case b3 => unfold maxLen; omega
            intro w3 hown3 hgrow3
            have B3 : Below w.heap.size w w3 := B.grown hgrow3 hsz2 (fun k h => by cases h)
            have S0 : Hid (Bs w.heap.size w w3 (.slice (some ⟨w2.heap.size, 0, none⟩) 0 8) (.slice none 0 0) [] [] []) := ⟨B3, hown3, Own.none _ _, (fun g h => by cases h), fun i hi => absurd hi (by simp), fun _ => rfl⟩
            clear hown3 hgrow3 B B3
            go_wp2_with fail
            go_loopw [18, 19, 72] (fun sb sa si wr => ∃ (k g n cap : Nat) (l : List (Int × Value)), k ≤ nA' ∧ si = .int .i64 k ∧ sb = .slice (some ⟨g, 0, none⟩) n cap ∧ Hid (Bs w.heap.size w wr (.slice (some ⟨g, 0, none⟩) n cap) sa (enc ((A0.take k).map cut)) (((A0.take k).map cut).filter ncs) l)) (fun _ _ si _ => nA' - (intOf si).toNat)
            case atStart => exact ⟨0, _, _, _, [], Nat.zero_le _, rfl, rfl, S0⟩
            case round =>
              clear S0
              obtain ⟨k, g, n, cap, l, hk, rfl, rfl, S⟩ := hrel
              by_cases hlt3 : k < nA'
              ·
               as_aux_lemma =>
                obtain ⟨b, off, rfl, hx⟩ := CA.out (by omega)
                obtain ⟨x1, a', n', c', x2, N⟩ := hx k hlt3
                have y1 := cell_later x1 S.out.B
                have y2 := cell_later x2 S.out.B
                obtain ⟨t, htt⟩ : ∃ t : Nat, (A0.getD k (0, [])).1 = (t : Int) := ⟨(A0.getD k (0, [])).1.toNat, by have := HTA.out k; omega⟩
                have ht255 : t ≤ 255 := by have := HTA.out k; omega
                rw [htt] at y1
                obtain ⟨cs, hcs⟩ : ∃ cs, (cut (A0.getD k (0, []))).2 = cs := ⟨_, rfl⟩
                obtain ⟨m, hm⟩ : ∃ m, cs.length = m := ⟨_, rfl⟩
                obtain ⟨ty, hty⟩ : ∃ ty : Int, (t : Int) % 4 + 1 = ty := ⟨_, rfl⟩
                have hcut0 : cut (A0.getD k (0, [])) = (ty, cs) := by rw [← hcs, ← hty]; unfold cut; rw [htt]
                have hcsA : cs = (A0.getD k (0, [])).2.take 255 := by rw [← hcs]; rfl
                have hn' : (A0.getD k (0, [])).2.length = n' ∧ n' ≤ c' ∧ (a' = none → c' = 0) := by
                  obtain ⟨_, _, hv, h1, h2, -⟩ := N
                  injection hv with e1 e2 e3
                  subst e1 e2 e3
                  exact ⟨rfl, h1, h2⟩
                have hmin : m = min 255 n' := by rw [← hm, hcsA, List.length_take, hn'.1]
                have hm255 : m ≤ 255 := by omega
                have hty1 : 1 ≤ ty ∧ ty ≤ 4 := by omega
                have HNC : Hid (NumsAt .u32 w (.slice a' m c') cs) := by
                  have := N.take (m := m) (c' := c') (by omega) (by omega) hn'.2.2
                  rw [hcsA]
                  rcases (by omega : m = 255 ∨ (m = n' ∧ n' ≤ 255)) with e | ⟨e, e2⟩
                  · rw [e] at this ⊢; exact this
                  · rw [e, List.take_of_length_le (by omega)] at this
                    rw [e, List.take_of_length_le (by omega)]
                    exact this
                have HX : Hid (∀ i, i < m → 0 ≤ cs.getD i 0 ∧ cs.getD i 0 ≤ 4294967295) := fun i hi => by
                  have hkk : k < A0.length := by rw [HNA.out]; exact hlt3
                  have hgd : A0.getD k (0, []) = A0[k] := by simp [hkk]
                  have hmem : A0.getD k (0, []) ∈ A0 := by rw [hgd]; exact List.getElem_mem hkk
                  have hcm : cs.getD i 0 ∈ cs := by
                    have : i < cs.length := by omega
                    simp [this]
                  exact HNAA.out _ hmem _ (by rw [hcsA] at hcm; exact List.mem_of_mem_take (by rw [hcsA]; exact hcm))
                have HCUT : Hid (cut (A0.getD k (0, [])) = (ty, cs)) := hcut0
                have HM : Hid (cs.length = m) := hm
                have HTY : Hid ((t : Int) % 4 + 1 = ty) := hty
                obtain ⟨E, hE⟩ : ∃ E, enc ((A0.take k).map cut) = E := ⟨_, rfl⟩
                obtain ⟨F, hF⟩ : ∃ F, ((A0.take k).map cut).filter ncs = F := ⟨_, rfl⟩
                rw [hE, hF] at S
                have hEn : E.length = n := S.out.len
                have hc' : n' ≤ c' := hn'.2.1
                clear hcut0 hcs hcsA hn' N hx htt hm hty
                go_upto_if 83 with (go_at_call 13; refine (cty_any t ht255 _).mono ?_; rintro e w' ⟨rfl, rfl⟩)
                go_cut [22, 23] (fun s22 s23 wx => s22 = .int .u8 ty ∧ s23 = .slice a' m c' ∧ Below wr.heap.size wr wx)
                case first =>
                  by_cases h255 : (255 : Int) < (n' : Int)
                  · go_wp2_with fail
                    go_meet
                    exact ⟨by rw [HTY.out], by rw [show m = 255 by omega], below_alloc _ _⟩
                  · go_wp2_with fail
                    go_meet
                    exact ⟨by rw [HTY.out], by rw [show m = n' by omega], below_alloc _ _⟩
                case rest =>
                  obtain ⟨rfl, rfl, BC⟩ := hcut
                  have hEb : n ≤ 20000 := by
                    have e1 := enc_len ((A0.take k).map cut)
                    have e2 := nums_cut (A0.take k)
                    have e3 := nums_take_le A0 k
                    have e4 : ((A0.take k).map cut).length ≤ k := by simp; omega
                    rw [hE, hEn] at e1
                    omega
                  have hbw := S.out.B.size
                  have hbc := BC.size
                  have SC : Hid (Bs w.heap.size w (wc.alloc (.cells #[.int .u8 ty, .int .u8 (m : Int)] 5)) (.slice (some ⟨g, 0, none⟩) n cap) _ E F l) := (S.out.later hbw BC).later (by omega) (below_alloc _ _)
                  have HBS : Hid ((wc.alloc (.cells #[.int .u8 ty, .int .u8 (m : Int)] 5)).ownsRow w.heap.size 5 1 (.slice (some ⟨g, 0, none⟩) n cap) n (E.map (Value.int .u8))) := by
                    have := SC.out.bs
                    rw [hEn] at this
                    exact this
                  have HEn : Hid (E.length = n) := hEn
                  have HE : Hid (enc ((A0.take k).map cut) = E) := hE
                  have HF : Hid (((A0.take k).map cut).filter ncs = F) := hF
                  have hmc : m ≤ c' := by omega
                  clear S hE hF hEn hmin
                  go_wp2_with (at_builtin; refine wpList_append_lies _ rfl (.tmp 86) (.tmp 91) 22 rfl w.heap.size 5 i0 (.int .u8 0) 1 1 Ybaf.underlying22 hi hz0 hz1 hz2 rfl (by decide) _ n (E.map (Value.int .u8)) rfl HBS.out ⟨wc.heap.size, 0, none⟩ 2 2 [.int .u8 ty, .int .u8 (m : Int)] rfl rfl (cells_fresh _ _ _) (by intro u hu; simp at hu; rcases hu with rfl | rfl <;> rfl) (by omega) (by unfold maxLen; omega) (by omega) (by simp; omega) _ rfl ?_; intro g2 cap2 w4 hown4 hgrow4 hat4 hlt4)
                  have S4 : Hid (Bs w.heap.size w w4 (.slice (some ⟨g2, 0, none⟩) (n + 2) cap2) _ (E ++ [ty, (m : Int)]) F l) := SC.out.grow (by simp; omega) (by rw [List.map_append]; exact hown4) hgrow4 (hat4.imp id (fun h => by rw [h]; exact Nat.le_refl _))
                  clear hown4 hgrow4 hat4 hlt4 SC HBS
                  go_wp2_with fail
                  go_loopw [18, 95] (fun sb si wq => ∃ (i g n cap : Nat), i ≤ m ∧ si = .int .i64 i ∧ sb = .slice (some ⟨g, 0, none⟩) n cap ∧ Hid (Bs w.heap.size w wq (.slice (some ⟨g, 0, none⟩) n cap) u19 (E ++ [ty, (m : Int)] ++ bytes4 (cs.take i)) F l)) (fun _ si _ => m - (intOf si).toNat)
                  case atStart => exact ⟨0, _, _, _, Nat.zero_le _, rfl, rfl, by simpa [bytes4] using S4⟩
                  case round =>
                    clear S4
                    obtain ⟨i, g5, n5, cap5, him, rfl, rfl, S5⟩ := hrel
                    obtain ⟨wq, hwq⟩ : ∃ x, x = wr := ⟨_, rfl⟩
                    subst hwq
                    have h5 := S5.out.len
                    have h5b : (E ++ [ty, (m : Int)] ++ bytes4 (cs.take i)).length ≤ 1000000 := by
                      have e1 := bytes4_length (cs.take i)
                      simp [e1, HEn.out]
                      omega
                    by_cases hilt : i < m
                    · obtain ⟨a1, c1, hv1, _, _, hN1⟩ := HNC.out
                      injection hv1 with q1 q2 q3
                      obtain ⟨b1, o1, rfl, hc1⟩ := hN1 (by rw [HM.out]; omega)
                      subst q1
                      have z1 := cell_later (hc1 i (by rw [HM.out]; exact hilt)) S5.out.B
                      have hxr := HX.out i hilt
                      obtain ⟨x, hx⟩ : ∃ x, cs.getD i 0 = x := ⟨_, rfl⟩
                      have htk := bytes4_take cs i (by rw [HM.out]; exact hilt)
                      rw [hx] at z1 hxr htk
                      have C14 := append32 w.heap.size _ _ x wq hxr S5.out.B.size h5b S5.out.bs
                      rw [h5] at C14
                      have HC14 : Hid _ := C14
                      have HTK : Hid (E ++ [ty, (m : Int)] ++ bytes4 (cs.take (i + 1)) = E ++ [ty, (m : Int)] ++ bytes4 (cs.take i) ++ be4 x) := by show _ = _; rw [htk, ← List.append_assoc]
                      clear C14 htk hx hN1 hc1 q2 q3 h5b h5
                      go_wp2_with fail
                      refine Calls.mono HC14.out ?_
                      rintro e w6 ⟨g6, cap6, rfl, hown6, hgrow6, hat6⟩
                      have S6 := S5.out.grow S5.out.B.size hown6 hgrow6 hat6
                      rw [← HTK.out] at S6
                      have HS6 : Hid _ := S6
                      clear S6 hown6 hgrow6 hat6 HC14 S5
                      go_wp2_with fail
                      go_roundw
                      case rel => exact ⟨i + 1, g6, _, cap6, by omega, by go_num, rfl, HS6.out⟩
                      case measure => simp [intOf]; omega
                    · obtain rfl : m = i := by omega
                      rw [List.take_of_length_le (by rw [HM.out]; exact Nat.le_refl _)] at S5
                      clear h5 h5b
                      have HE1 : Hid (enc ((A0.take (k + 1)).map cut) = E ++ [ty, (m : Int)] ++ bytes4 cs) := by
                        show _ = _
                        rw [take_cut A0 k (by rw [HNA.out]; exact hlt3), enc_append, HE.out, HCUT.out]
                        simp [enc, HM.out]
                      have HF1 : Hid (((A0.take (k + 1)).map cut).filter ncs = F ++ [(ty, cs)].filter ncs) := by
                        show _ = _
                        rw [take_cut A0 k (by rw [HNA.out]; exact hlt3), List.filter_append, HF.out, HCUT.out]
                      have hFl : F.length ≤ 256 := by
                        have e1 : (((A0.take k).map cut).filter ncs).length ≤ ((A0.take k).map cut).length := List.length_filter_le _ _
                        rw [HF.out] at e1
                        simp at e1
                        omega
                      have hbq := S5.out.B.size
                      have C15 := clone58 _ cs wq (HNC.out.later S5.out.B) (by rw [HM.out]; omega)
                      have HC15 : Hid _ := C15
                      clear C15
                      by_cases hlow : ty = 1 ∨ ty = 2
                      · have HF2 : Hid (((A0.take (k + 1)).map cut).filter ncs = F ++ [(ty, cs)]) := by
                          show _ = _
                          rw [HF1.out]
                          rcases hlow with rfl | rfl <;> rfl
                        clear HF1
                        rcases hlow with rfl | rfl
                        all_goals
                          go_wp2_with fail
                          refine Calls.mono HC15.out ?_
                          rintro e w6 ⟨v6, rfl, N6, B6, far6⟩
                          obtain ⟨a6, c6, hv6, -, -, -⟩ := id N6
                          rw [HM.out] at hv6
                          subst hv6
                          have HOW : Hid (∀ C, (w6.alloc C).ownsRow w.heap.size 65 2 _ F.length (flat l)) := fun C => (ownsRow_later S5.out.as4.own B6).alloc C
                          have hb6 := B6.size
                          clear HC15
                          go_wp2_with (at_builtin; refine wpList_append_lies _ rfl (.tmp 110) (.tmp 115) 35 rfl w.heap.size 65 j0 (.agg #[.int .u8 0, .slice none 0 0]) 2 32 Ybaf.underlying35 hj hy0 hy1 hy2 rfl (by decide) _ F.length (flat l) rfl (HOW.out _) ⟨w6.heap.size, 0, none⟩ 1 1 _ rfl rfl (cells_fresh _ _ _) (by intro u hu; simp at hu; rcases hu with rfl | rfl <;> rfl) (by omega) (by unfold maxLen; omega) (by omega) (by simp; omega) _ rfl ?_; intro g7 cap7 w7 hown7 hgrow7 hat7 hlt7)
                          have S7 := S5.out.pushA hbq (B6.trans ((below_alloc w6 _).mono hb6)) (N6.later (below_alloc w6 _)) (fun b hb => ⟨(far6 b hb).1, Nat.lt_of_lt_of_le (far6 b hb).2 (below_alloc w6 _).size⟩) rfl hown7 hgrow7 hat7
                          rw [← HF2.out, ← HE1.out] at S7
                          have HS7 : Hid _ := S7
                          clear S7 hown7 hgrow7 hat7 hlt7 S5 HOW N6 B6 far6
                          go_wp2_with fail
                          exact ⟨⟨k + 1, g5, n5, cap5, _, by omega, by go_num, rfl, HS7.out⟩, by simp [intOf]; omega⟩
                      · have q1 : (ty == 1) = false := by simp; omega
                        have q2 : (ty == 2) = false := by simp; omega
                        have HF2 : Hid (((A0.take (k + 1)).map cut).filter ncs = F) := by
                          show _ = _
                          have : ncs (ty, cs) = false := by
                            rcases (by omega : ty = 3 ∨ ty = 4) with rfl | rfl <;> rfl
                          rw [HF1.out, List.filter_cons_of_neg (by rw [this]; decide)]
                          simp
                        clear HF1 hlow HC15
                        have S7 := S5.out
                        rw [← HF2.out, ← HE1.out] at S7
                        have HS7 : Hid _ := S7
                        clear S7 S5
                        go_wp2_with fail
                        exact ⟨⟨k + 1, g5, n5, cap5, _, by omega, by go_num, rfl, HS7.out⟩, by simp [intOf]; omega⟩
              · obtain rfl : nA' = k := by omega
                have S1' := S.out
                rw [List.take_of_length_le (by rw [HNA.out]; exact Nat.le_refl _)] at S1'
                obtain ⟨AA, hAA⟩ : ∃ AA, A0.map cut = AA := ⟨_, rfl⟩
                rw [hAA] at S1'
                have HAA : Hid (A0.map cut = AA) := hAA
                have S2 : Hid _ := S1'
                clear S S1' hAA CA
                obtain ⟨wl, hwl⟩ : ∃ x, x = wr := ⟨_, rfl⟩
                subst hwl
                have hn2 : n ≤ 20000 := by
                  have e0 := S2.out.len
                  have e1 := enc_len AA
                  have e2 := nums_cut A0
                  have e4 : AA.length = nA' := by rw [← HAA.out, List.length_map, HNA.out]
                  rw [HAA.out] at e2
                  omega
                have hbl := S2.out.B.size
                have HEN : Hid ((enc AA).length = n) := S2.out.len
                go_upto_if 118 with fail
                go_cut [18] (fun s18 wx => ∃ g n cap, s18 = .slice (some ⟨g, 0, none⟩) n cap ∧ n ≤ 20001 ∧ Hid (Bs w.heap.size w wx (.slice (some ⟨g, 0, none⟩) n cap) u19 (enc AA ++ if bad then [0] else []) (AA.filter ncs) l))
                case first =>
                 as_aux_lemma =>
                  cases bad with
                  | false =>
                    go_wp2_with fail
                    go_meet
                    exact ⟨g, n, cap, rfl, by omega, by simpa using S2⟩
                  | true =>
                    have HBS : Hid ((wl.alloc (.cells #[.int .u8 0] 5)).ownsRow w.heap.size 5 1 (.slice (some ⟨g, 0, none⟩) n cap) n ((enc AA).map (Value.int .u8))) := by
                      have := (S2.out.bs).alloc (.cells #[.int .u8 0] 5)
                      rw [HEN.out] at this
                      exact this
                    go_wp2_with (at_builtin; refine wpList_append_lies _ rfl (.tmp 119) (.tmp 120) 22 rfl w.heap.size 5 i0 (.int .u8 0) 1 1 Ybaf.underlying22 hi hz0 hz1 hz2 rfl (by decide) _ n ((enc AA).map (Value.int .u8)) rfl HBS.out ⟨wl.heap.size, 0, none⟩ 1 1 [.int .u8 0] rfl rfl (cells_fresh _ _ _) (by intro u hu; simp at hu; subst hu; rfl) (by omega) (by unfold maxLen; omega) (by omega) (by simp; omega) _ rfl ?_; intro g4 cap4 w4 hown4 hgrow4 hat4 hlt4)
                    go_wp2_with fail
                    go_meet
                    refine ⟨g4, n + 1, cap4, rfl, by omega, ?_⟩
                    exact (S2.out.later hbl (below_alloc wl (.cells #[.int .u8 0] 5))).grow (by simp; omega) (by rw [List.map_append]; exact hown4) hgrow4 (hat4.imp id (fun h => by rw [h]; exact Nat.le_refl _))
                case rest =>
                  obtain ⟨g8, n8, cap8, rfl, hn8, S8⟩ := hcut
                  clear S2 HEN hn2 hbl
                  have C1 := clone22b _ ag wc (HG.out.later S8.out.B) (by rw [HNG.out]; exact lg)
                  have HC1 : Hid _ := C1
                  clear C1
                  go_wp2_with fail
                  refine Calls.mono HC1.out ?_
                  rintro e w9 ⟨v9, rfl, N9, B9, far9⟩
                  obtain ⟨a9, c9, hv9, -, -, -⟩ := id N9
                  rw [HNG.out] at hv9
                  subst hv9
                  have S9 : Hid (Bs w.heap.size w w9 _ _ _ _ l) := S8.out.later S8.out.B.size B9
                  have C2 := clone22b _ ag4 w9 (HG4.out.later S9.out.B) (by rw [HNH.out]; exact lg4)
                  have HC2 : Hid _ := C2
                  have HN9 : Hid (NumsAt .u8 w9 (.slice a9 nG c9) ag) := N9
                  clear C2 HC1 S8 N9 B9 far9
                  go_wp2_with fail
                  refine Calls.mono HC2.out ?_
                  rintro e w10 ⟨v10, rfl, N10, B10, far10⟩
                  obtain ⟨a10, c10, hv10, -, -, -⟩ := id N10
                  rw [HNH.out] at hv10
                  subst hv10
                  have S10 : Hid (Bs w.heap.size w w10 _ _ _ _ l) := S9.out.later S9.out.B.size B10
                  have HN9' : Hid (NumsAt .u8 w10 (.slice a9 nG c9) ag) := HN9.out.later B10
                  have HN10 : Hid (NumsAt .u8 w10 (.slice a10 nH c10) ag4) := N10
                  clear HC2 HN9 S9 N10 B10 far10
                  go_upto_if 127 with fail
                  go_cut [] (fun wx => wx = w10.alloc (.cells #[.bool true, (if has4 then .slice (some ⟨g8, 0, none⟩) n8 cap8 else .slice none 0 0), .slice a9 nG c9, .slice a10 nH c10] 48))
                  case first =>
                   as_aux_lemma =>
                    cases has4 with
                    | true =>
                      go_wp2_with fail
                      go_meet
                      rfl
                    | false =>
                      go_wp2_with fail
                      go_meet
                      rfl
                  case rest =>
                    obtain ⟨v1, hv1⟩ : ∃ v1, (if has4 then Value.slice (some ⟨g8, 0, none⟩) n8 cap8 else .slice none 0 0) = v1 := ⟨_, rfl⟩
                    rw [hv1] at hcut
                    have HV1 : Hid ((if has4 then Value.slice (some ⟨g8, 0, none⟩) n8 cap8 else .slice none 0 0) = v1) := hv1
                    have c1 : wc.cell? ⟨w10.heap.size, 1, none⟩ = some v1 := by rw [hcut]; exact World.cell?_alloc_at _ _ _ _ rfl
                    have c2 : wc.cell? ⟨w10.heap.size, 2, none⟩ = some (.slice a9 nG c9) := by rw [hcut]; exact World.cell?_alloc_at _ _ _ _ rfl
                    have c3 : wc.cell? ⟨w10.heap.size, 3, none⟩ = some (.slice a10 nH c10) := by rw [hcut]; exact World.cell?_alloc_at _ _ _ _ rfl
                    have B11 : Below w10.heap.size w10 wc := by rw [hcut]; exact below_alloc _ _
                    clear hcut hv1
                    obtain ⟨w11, hw11⟩ : ∃ x, x = wc := ⟨_, rfl⟩
                    subst hw11
                    have S11 : Hid (Bs w.heap.size w w11 _ _ _ _ l) := S10.out.later S10.out.B.size B11
                    have hPs : ∀ i, (P0.getD i (0, [])).2.length ≤ 100000 := fun i => by
                      by_cases hi : i < P0.length
                      · have e1 := nums_le P0 i hi
                        have e2 := HS1.out
                        omega
                      · simp [List.getElem?_eq_none (by omega : P0.length ≤ i)]
                    have HPS : Hid (∀ i, (P0.getD i (0, [])).2.length ≤ 100000) := hPs
                    have C18 := cpath_any _ P0 w11 (HP.out.later S11.out.B) (by rw [HNP.out]; omega) hPs HTP.out
                    have HC18 : Hid _ := C18
                    have HN9 : Hid (NumsAt .u8 w11 (.slice a9 nG c9) ag) := HN9'.out.later B11
                    have HN11 : Hid (NumsAt .u8 w11 (.slice a10 nH c10) ag4) := HN10.out.later B11
                    clear C18 hPs HN9' HN10 S10 B11
                    go_wp2_with fail
                    refine Calls.mono HC18.out ?_
                    rintro e w12 ⟨v12, l12, rfl, O12, B12⟩
                    obtain ⟨PP, hPP⟩ : ∃ PP, P0.map norm = PP := ⟨_, rfl⟩
                    rw [hPP] at O12
                    have HPPe : Hid (P0.map norm = PP) := hPP
                    have hPl : PP.length = nP := by rw [← hPP, List.length_map, HNP.out]
                    have hPn : (nums PP).length = s1 := by rw [← hPP, nums_norm, HS1.out]
                    have hpp := plen_nums PP
                    obtain ⟨a12, c12, hv12, -, -, -⟩ := O12.segs
                    rw [hPl] at hv12
                    subst hv12
                    have hAl : AA.length = nA' := by rw [← HAA.out, List.length_map, HNA.out]
                    have hAn := nums_cut A0
                    rw [HAA.out] at hAn
                    have hFp := plen_nums (AA.filter ncs)
                    have hFn := nums_filter AA
                    have hFl : (AA.filter ncs).length ≤ AA.length := List.length_filter_le _ _
                    have hen := enc_len AA
                    have H1 : NumsAt .u8 w12 (.slice (some ⟨g8, 0, none⟩) n8 cap8) (enc AA ++ if bad then [0] else []) := by
                      have h := S11.out.bs
                      rw [S11.out.len] at h
                      exact (nums_of_own h).later B12
                    have M := merge_any has4 bad w10.heap.size ⟨g8, 0, none⟩ n8 cap8 _ _ _ ag ag4 AA PP w11.heap.size l12 w12 (by rw [HV1.out]; exact cell_later c1 B12) (cell_later c2 B12) (cell_later c3 B12) H1 (HN9.out.later B12) (HN11.out.later B12) HGA.out (by omega)
                      (fun s hs => by
                        rw [← HAA.out] at hs
                        obtain ⟨x, _, rfl⟩ := List.mem_map.1 hs
                        show 1 ≤ x.1 % 4 + 1 ∧ x.1 % 4 + 1 ≤ 4
                        omega)
                      (fun s hs => by
                        rw [← HAA.out] at hs
                        obtain ⟨x, _, rfl⟩ := List.mem_map.1 hs
                        show (x.2.take 255).length ≤ 255
                        simp; omega) (by omega)
                      (fun s hs y hy => by
                        rw [← HAA.out] at hs
                        obtain ⟨x, hx, rfl⟩ := List.mem_map.1 hs
                        exact HNAA.out x hx y (List.mem_of_mem_take hy)) O12 (by omega) (by omega) (by omega)
                    obtain ⟨F, hF⟩ : ∃ F, AA.filter ncs = F := ⟨_, rfl⟩
                    rw [hF] at M hFp hFn hFl S11
                    obtain ⟨rg, hrg⟩ : ∃ rg, reagg ag ag4 = rg := ⟨_, rfl⟩
                    rw [hrg] at M
                    have HRG : Hid (reagg ag ag4 = rg) := hrg
                    obtain ⟨R, hR⟩ : ∃ R, (if (!has4 || rg || bad) = true then PP else merged PP F) = R := ⟨_, rfl⟩
                    rw [hR] at M
                    have HR : Hid ((if (!has4 || rg || bad) = true then PP else merged PP F) = R) := hR
                    have HM : Hid _ := M
                    have hFb : F.length ≤ 256 := by omega
                    have hFn2 : (nums F).length ≤ 5000 := by omega
                    have hFp2 : plen F ≤ 5000 := by omega
                    have hPp2 : plen PP ≤ 5000 := by omega
                    clear M H1 hF hrg hR hPP hen hFn hFp hFl hAn c1 c2 c3 HN9 HN11 HC18
                    have S12 : Hid (Bs w.heap.size w w12 _ _ _ F l) := S11.out.later S11.out.B.size B12
                    clear S11 B12 O12
                    go_wp2_with fail
                    refine Calls.mono HM.out ?_
                    rintro e w13 ⟨v13, rfl, G13, B13⟩
                    have S13 : Hid (Bs w.heap.size w w13 _ _ _ F l) := S12.out.later S12.out.B.size B13
                    have HG13 : Hid (SegsAt w13 v13 R) := G13
                    have C18 := cpath_any _ P0 w13 (HP.out.later S13.out.B) (by rw [HNP.out]; omega) HPS.out HTP.out
                    rw [HPPe.out] at C18
                    have HC18 : Hid _ := C18
                    clear C18 S12 B13 G13 HM
                    go_wp2_with fail
                    refine Calls.mono HC18.out ?_
                    rintro e w14 ⟨v14, l14, rfl, O14, B14⟩
                    have S14 : Hid (Bs w.heap.size w w14 _ _ _ F l) := S13.out.later S13.out.B.size B14
                    have HG14 : Hid (SegsAt w14 v13 R) := HG13.out.later B14
                    have HO14 : Hid (Own w13.heap.size w14 v14 PP l14) := O14
                    obtain ⟨a14, c14, hv14, hc14, -, -⟩ := O14.segs
                    rw [hPl] at hv14 hc14
                    subst hv14
                    clear S13 HG13 HC18 O14 B14
                    go_upto_region 41 with fail
                    go_cut [29] (fun s29 wx => s29 = .bool rg ∧ wx = w14)
                    case first =>
                     as_aux_lemma =>
                      have hrg := HRG.out
                      unfold reagg at hrg
                      rw [HNG.out, HNH.out] at hrg
                      by_cases h6 : nG = 6
                      · subst h6
                        by_cases h8 : nH = 8
                        · subst h8
                          obtain ⟨aG', cG', hvG, -, -, hhG⟩ := HG.out.later S14.out.B
                          injection hvG with q1 q2 q3
                          obtain ⟨bG, oG, rfl, hcG'⟩ := hhG (by rw [HNG.out]; omega)
                          subst q1
                          have u0 := hcG' 0 (by rw [HNG.out]; omega)
                          have u1 := hcG' 1 (by rw [HNG.out]; omega)
                          rw [Nat.add_zero] at u0
                          have r0 := HGA.out 0
                          have r1 := HGA.out 1
                          obtain ⟨x, hx⟩ : ∃ x, ag.getD 0 0 = x := ⟨_, rfl⟩
                          obtain ⟨y, hy⟩ : ∃ y, ag.getD 1 0 = y := ⟨_, rfl⟩
                          rw [hx] at u0 r0 hrg
                          rw [hy] at u1 r1 hrg
                          have v0 : w14.cell? ⟨bG, oG, none⟩ = some (.int .u8 x) := u0
                          have v1' : w14.cell? ⟨bG, oG + 1, none⟩ = some (.int .u8 y) := u1
                          have HRR : Hid ((6 == 6 && 8 == 8 && !(y + x * 256 == 23456)) = rg) := hrg
                          clear hcG' hhG q2 q3 hx hy hrg u0 u1
                          by_cases hx91 : x = 91
                          · subst hx91
                            by_cases hy160 : y = 160
                            · subst hy160
                              go_wp2_with fail
                              go_meet
                              exact ⟨by rw [← HRR.out]; rfl, rfl⟩
                            · have qy : (y == 160) = false := by simp [hy160]
                              have qz : (y + 91 * 256 == 23456) = false := by simp; omega
                              go_wp2_with fail
                              go_meet
                              exact ⟨by rw [← HRR.out, qz]; rfl, rfl⟩
                          · have qx : (x == 91) = false := by simp [hx91]
                            have qz : (y + x * 256 == 23456) = false := by simp; omega
                            go_wp2_with fail
                            go_meet
                            exact ⟨by rw [← HRR.out, qz]; rfl, rfl⟩
                        · have q : ((nH : Int) == 8) = false := by simp; omega
                          have q' : (nH == 8) = false := by simp [h8]
                          rw [q'] at hrg
                          have h0 : rg = false := by simpa using hrg
                          have HRR : Hid (rg = false) := h0
                          clear h0
                          clear hrg
                          go_wp2_with fail
                          go_meet
                          exact ⟨by rw [HRR.out], rfl⟩
                      · have q : ((nG : Int) == 6) = false := by simp; omega
                        have q' : (nG == 6) = false := by simp [h6]
                        rw [q'] at hrg
                        have h0 : rg = false := by simpa using hrg
                        have HRR : Hid (rg = false) := h0
                        clear h0
                        clear hrg
                        go_wp2_with fail
                        go_meet
                        exact ⟨by rw [HRR.out], rfl⟩
                    case rest =>
                      obtain ⟨rfl, rfl⟩ := hcut
                      obtain ⟨w15, hw15⟩ : ∃ x, x = wc := ⟨_, rfl⟩
                      subst hw15
                      go_upto_region 42 with fail
                      have hPs : ∀ i, (PP.getD i (0, [])).2.length ≤ 100000 := len_of_nums PP (by omega)
                      have CE0 := fun (w' : World) (B : Below w15.heap.size w15 w') (h : R = PP) => ceq_same v13 (.slice a14 nP c14) PP w' (by have := HG14.out.later B; rwa [h] at this) (HO14.out.segs.later B) (by omega) hPs
                      have HCE0 : Hid _ := CE0
                      clear CE0 hPs
                      have key : (!has4 || rg || bad) = true ∨ (has4 = true ∧ rg = false ∧ bad = false) := by cases has4 <;> cases rg <;> cases bad <;> simp
                      rcases key with hst | ⟨rfl, rfl, rfl⟩
                      · have hRP : R = PP := by rw [← HR.out, if_pos hst]
                        have C := HCE0.out w15 (Below.refl _ _) hRP
                        have HC : Hid _ := C
                        have hcs : has4 = false ∨ (has4 = true ∧ rg = true) ∨ (has4 = true ∧ rg = false ∧ bad = true) := by cases has4 <;> cases rg <;> cases bad <;> simp at hst ⊢
                        clear C HCE0 hRP hst
                        rcases hcs with rfl | ⟨rfl, rfl⟩ | ⟨rfl, rfl, rfl⟩
                        all_goals
                          as_aux_lemma =>
                            go_wp2_with fail
                            refine Calls.mono HC.out ?_
                            rintro e w17 ⟨rfl, B17⟩
                            clear HC
                            go_wp2_with fail
                            go_ret
                            exact ⟨rfl, S14.out.B.trans (B17.mono S14.out.B.size)⟩
                      · have hRM : R = merged PP F := by rw [← HR.out, if_neg (by decide)]
                        have HRM : Hid (R = merged PP F) := hRM
                        obtain ⟨a4, c4, hv4, -, hn4, -⟩ := S14.out.as4.segs
                        obtain ⟨n4, hn4l⟩ : ∃ n, F.length = n := ⟨_, rfl⟩
                        rw [hn4l] at hv4
                        have HN4 : Hid (F.length = n4) := hn4l
                        have C20 := clen_any _ PP w15 HO14.out.segs (by omega) (by omega)
                        have HC20 : Hid _ := C20
                        have HC21 : Hid (∀ w', Below w15.heap.size w15 w' → Calls Ybaf.prog 20 #[.slice a4 n4 c4] w' fun e w'' => e = .returned (.int .i64 (plen F)) ∧ Below w'.heap.size w' w'') := fun w' B => clen_any _ F w' (by have := S14.out.as4.segs.later B; rwa [hv4] at this) (by omega) (by omega)
                        clear C20 hRM HR
                        subst hv4
                        go_wp2_with fail
                        refine Calls.mono HC20.out ?_
                        rintro e w17 ⟨rfl, B17⟩
                        have C21 := HC21.out w17 B17
                        have HC22 : Hid _ := C21
                        clear C21 HC21 HC20
                        go_wp2_with fail
                        refine Calls.mono HC22.out ?_
                        rintro e w18 ⟨rfl, B18⟩
                        clear HC22
                        have B1518 : Below w15.heap.size w15 w18 := B17.trans (B18.mono B17.size)
                        clear B17 B18
                        by_cases hneg : plen PP < plen F
                        · have g4 : (plen PP : Int) - (plen F : Int) < 0 := by omega
                          have hRP : R = PP := by rw [HRM.out]; unfold merged; rw [if_pos hneg]
                          have C := HCE0.out w18 B1518 hRP
                          have HC : Hid _ := C
                          clear C HCE0 hRP hneg
                          go_wp2_with fail
                          refine Calls.mono HC.out ?_
                          rintro e w19 ⟨rfl, B19⟩
                          clear HC
                          go_wp2_with fail
                          go_ret
                          exact ⟨rfl, (S14.out.B.trans (B1518.mono S14.out.B.size)).trans (B19.mono (by have := S14.out.B.size; have := B1518.size; omega))⟩
                        · obtain ⟨nd, hnd⟩ : ∃ nd : Nat, plen PP - plen F = nd := ⟨_, rfl⟩
                          have hndi : (plen PP : Int) - (plen F : Int) = (nd : Int) := by omega
                          have hRK : R = keep nd PP ++ F := by rw [HRM.out]; unfold merged; rw [if_neg hneg, hnd]
                          have HRK : Hid (R = keep nd PP ++ F) := hRK
                          have hndb : nd ≤ 100000 := by omega
                          have HO18 : Hid (Own w13.heap.size w18 (.slice a14 nP c14) PP l14) := HO14.out.later B1518
                          have S18 : Hid (Bs w.heap.size w w18 _ _ _ F l) := S14.out.later S14.out.B.size B1518
                          have HG18 : Hid (SegsAt w18 v13 R) := HG14.out.later B1518
                          clear hneg hnd hRK HCE0 HO14 S14 HG14 HRM
                          go_upto_block 8 with fail
                          go_cut [31] (fun s31 wx => ∃ le, Hid (Own w18.heap.size wx s31 (keep nd PP) le) ∧ Below w18.heap.size w18 wx)
                          case first =>
                            go_wp2_with fail
                            go_loopw [30, 31, 179] (fun sn se si wr => ∃ (k need : Nat) (acc : List (Int × List Int)) (le : List (Int × Value)), k ≤ nP ∧ need ≤ 100000 ∧ sn = .int .i64 need ∧ si = .int .i64 k ∧ Hid (acc.length ≤ k) ∧ Hid (Own w18.heap.size wr se acc le) ∧ Hid (acc ++ keep need (PP.drop k) = keep nd PP) ∧ Below w18.heap.size w18 wr) (fun _ _ si _ => nP - (intOf si).toNat)
                            case atStart => exact ⟨0, nd, [], [], Nat.zero_le _, hndb, rfl, rfl, Nat.le_refl _, Own.none _ _, rfl, Below.refl _ _⟩
                            case round =>
                              obtain ⟨k, need, acc, le, hk, hnb, rfl, rfl, HAL, O, HK, B⟩ := hrel
                              by_cases hltk : k < nP
                              · obtain ⟨gp, rfl, d0, a', n', c', d1, N, hsep⟩ := HO18.out.cellsAt k (by rw [hPl]; exact hltk)
                                replace d0 := cell_later d0 B
                                replace d1 := cell_later d1 B
                                replace N := N.later B
                                obtain ⟨t, ht⟩ : ∃ t, (PP.getD k (0, [])).1 = t := ⟨_, rfl⟩
                                obtain ⟨xs, hxs⟩ : ∃ xs, (PP.getD k (0, [])).2 = xs := ⟨_, rfl⟩
                                have hpk : PP.getD k (0, []) = (t, xs) := by rw [← ht, ← hxs]
                                rw [ht] at d0
                                rw [hxs] at N
                                have hn' : xs.length = n' ∧ n' ≤ c' ∧ (a' = none → c' = 0) := by
                                  obtain ⟨_, _, hv, h1, h2, -⟩ := N
                                  injection hv with e1 e2 e3
                                  subst e1 e2 e3
                                  exact ⟨rfl, h1, h2⟩
                                have hHK := HK.out
                                rw [drop_getD PP k (by rw [hPl]; exact hltk), hpk] at hHK
                                have HK' : Hid (acc ++ keep need ((t, xs) :: PP.drop (k + 1)) = keep nd PP) := hHK
                                have HN : Hid (NumsAt .u32 wr (.slice a' n' c') xs) := N
                                have HSEP : Hid (∀ b, (Value.slice a' n' c').ownBlock = some b → b < w18.heap.size) := hsep
                                have HXS : Hid (xs.length = n') := hn'.1
                                have hcc : n' ≤ c' := hn'.2.1
                                have HNC : Hid (a' = none → c' = 0) := hn'.2.2
                                obtain ⟨q, hq⟩ : ∃ q, acc.length = q := ⟨_, rfl⟩
                                have hqk : q ≤ k := by have := HAL.out; omega
                                have HQ : Hid (acc.length = q) := hq
                                have hB18 := B.size
                                clear HK hHK hpk N hsep hn' ht hxs hq HAL
                                go_upto_region 51 with fail
                                generalize hW1 : wr.alloc (.cells #[.int .u8 t, .slice a' n' c'] 65) = W1
                                have s0 : W1.cell? ⟨wr.heap.size, 0, none⟩ = some (.int .u8 t) := by rw [← hW1]; exact World.cell?_alloc_at _ _ _ _ rfl
                                have s1' : W1.cell? ⟨wr.heap.size, 1, none⟩ = some (.slice a' n' c') := by rw [← hW1]; exact World.cell?_alloc_at _ _ _ _ rfl
                                have BW1 : Below wr.heap.size wr W1 := by rw [← hW1]; exact below_alloc _ _
                                have OW1 : Hid (W1.ownsRow w18.heap.size 65 2 u31 q (flat le)) := by
                                  have := ownsRow_later O.out.own BW1
                                  rw [HQ.out] at this
                                  exact this
                                have hW1s := BW1.size
                                clear hW1 d0 d1
                                by_cases h3 : t = 3
                                · subst h3
                                  as_aux_lemma =>
                                    go_wp2_with (at_builtin; refine wpList_append_lies _ rfl (.tmp 191) (.tmp 193) 35 rfl w18.heap.size 65 j0 (.agg #[.int .u8 0, .slice none 0 0]) 2 32 Ybaf.underlying35 hj hy0 hy1 hy2 rfl (by decide) _ q (flat le) rfl ?x3e2 ⟨W1.heap.size, 0, none⟩ 1 1 [.int .u8 3, .slice a' n' c'] rfl rfl (cells_fresh _ _ _) ?x3e6 (by omega) ?x3e8 ?x3e9 ?x3e10 _ rfl ?x3e11)
                                    case x3e2 => exact OW1.out.alloc _
                                    case x3e6 => intro u hu; simp at hu; rcases hu with rfl | rfl <;> rfl
                                    case x3e8 => unfold maxLen; omega
                                    case x3e9 => omega
                                    case x3e10 => simp; omega
                                    intro g9 cap9 w9 hown hgrow hat hlt9
                                    have KS := exp_step O.out HQ.out B (Nat.le_refl _) (BW1.trans ((below_alloc W1 _).mono BW1.size)) HN.out HSEP.out hown hgrow (hat.imp id (fun h => by rw [h]; simp))
                                    have HKS1 : Hid (Own w18.heap.size w9 (.slice (some ⟨g9, 0, none⟩) (q + 1) cap9) (acc ++ [(3, xs)]) (le ++ [(3, .slice a' n' c')])) := KS.1
                                    have HKS2 : Below w18.heap.size w18 w9 := KS.2
                                    clear KS hown hgrow hat hlt9
                                    go_wp2_with fail
                                    exact ⟨⟨k + 1, need, _, _, by omega, by omega, by go_num, by go_num, (show Hid ((acc ++ [((3 : Int), xs)]).length ≤ k + 1) from by show _ ≤ _; simp [HQ.out]; omega), HKS1, by have := HK'.out; rw [keep_conf rfl] at this; show _ = _; rw [List.append_assoc]; exact this, HKS2⟩, by simp [intOf]; omega⟩
                                · by_cases h4 : t = 4
                                  · subst h4
                                    as_aux_lemma =>
                                      go_wp2_with (at_builtin; refine wpList_append_lies _ rfl (.tmp 191) (.tmp 193) 35 rfl w18.heap.size 65 j0 (.agg #[.int .u8 0, .slice none 0 0]) 2 32 Ybaf.underlying35 hj hy0 hy1 hy2 rfl (by decide) _ q (flat le) rfl ?x4e2 ⟨W1.heap.size, 0, none⟩ 1 1 [.int .u8 4, .slice a' n' c'] rfl rfl (cells_fresh _ _ _) ?x4e6 (by omega) ?x4e8 ?x4e9 ?x4e10 _ rfl ?x4e11)
                                      case x4e2 => exact OW1.out.alloc _
                                      case x4e6 => intro u hu; simp at hu; rcases hu with rfl | rfl <;> rfl
                                      case x4e8 => unfold maxLen; omega
                                      case x4e9 => omega
                                      case x4e10 => simp; omega
                                      intro g9 cap9 w9 hown hgrow hat hlt9
                                      have KS := exp_step O.out HQ.out B (Nat.le_refl _) (BW1.trans ((below_alloc W1 _).mono BW1.size)) HN.out HSEP.out hown hgrow (hat.imp id (fun h => by rw [h]; simp))
                                      have HKS1 : Hid (Own w18.heap.size w9 (.slice (some ⟨g9, 0, none⟩) (q + 1) cap9) (acc ++ [(4, xs)]) (le ++ [(4, .slice a' n' c')])) := KS.1
                                      have HKS2 : Below w18.heap.size w18 w9 := KS.2
                                      clear KS hown hgrow hat hlt9
                                      go_wp2_with fail
                                      exact ⟨⟨k + 1, need, _, _, by omega, by omega, by go_num, by go_num, (show Hid ((acc ++ [((4 : Int), xs)]).length ≤ k + 1) from by show _ ≤ _; simp [HQ.out]; omega), HKS1, by have := HK'.out; rw [keep_conf rfl] at this; show _ = _; rw [List.append_assoc]; exact this, HKS2⟩, by simp [intOf]; omega⟩
                                  · have q3 : (t == 3) = false := by simp [h3]
                                    have q4 : (t == 4) = false := by simp [h4]
                                    have HCF : Hid (conf (t, xs) = false) := by show (t == 3 || t == 4) = false; rw [q3, q4]; rfl
                                    by_cases hn0 : need = 0
                                    · subst hn0
                                      have HE : Hid (acc = keep nd PP) := by have := HK'.out; rw [keep_zero HCF.out, List.append_nil] at this; exact this
                                      go_wp2_with fail
                                      go_meet
                                      exact ⟨le, by rw [← HE.out]; exact O.out.later BW1, B.trans (BW1.mono hB18)⟩
                                    · obtain ⟨nm, rfl⟩ : ∃ nm, need = nm + 1 := ⟨need - 1, by omega⟩
                                      have q0 : (((nm + 1 : Nat) : Int) == 0) = false := by simp; omega
                                      by_cases ht1 : t = 1
                                      · subst ht1
                                        as_aux_lemma =>
                                          go_wp2_with (at_builtin; refine wpList_append_lies _ rfl (.tmp 202) (.tmp 204) 35 rfl w18.heap.size 65 j0 (.agg #[.int .u8 0, .slice none 0 0]) 2 32 Ybaf.underlying35 hj hy0 hy1 hy2 rfl (by decide) _ q (flat le) rfl ?x1e2 ⟨W1.heap.size, 0, none⟩ 1 1 [.int .u8 1, .slice a' n' c'] rfl rfl (cells_fresh _ _ _) ?x1e6 (by omega) ?x1e8 ?x1e9 ?x1e10 _ rfl ?x1e11)
                                          case x1e2 => exact OW1.out.alloc _
                                          case x1e6 => intro u hu; simp at hu; rcases hu with rfl | rfl <;> rfl
                                          case x1e8 => unfold maxLen; omega
                                          case x1e9 => omega
                                          case x1e10 => simp; omega
                                          intro g9 cap9 w9 hown hgrow hat hlt9
                                          have KS := exp_step O.out HQ.out B (Nat.le_refl _) (BW1.trans ((below_alloc W1 _).mono BW1.size)) HN.out HSEP.out hown hgrow (hat.imp id (fun h => by rw [h]; simp))
                                          have HKS1 : Hid (Own w18.heap.size w9 (.slice (some ⟨g9, 0, none⟩) (q + 1) cap9) (acc ++ [(1, xs)]) (le ++ [(1, .slice a' n' c')])) := KS.1
                                          have HKS2 : Below w18.heap.size w18 w9 := KS.2
                                          clear KS hown hgrow hat hlt9
                                          go_wp2_with fail
                                          exact ⟨⟨k + 1, nm, _, _, by omega, by omega, by go_num, by go_num, (show Hid ((acc ++ [((1 : Int), xs)]).length ≤ k + 1) from by show _ ≤ _; simp [HQ.out]; omega), HKS1, by have := HK'.out; rw [keep_one HCF.out (by omega) rfl] at this; show _ = _; rw [List.append_assoc]; exact this, HKS2⟩, by simp [intOf]; omega⟩
                                      · have q1 : (t == 1) = false := by simp [ht1]
                                        have s0d : W1.drew.cell? ⟨wr.heap.size, 0, none⟩ = some (.int .u8 t) := s0
                                        have s1d : W1.drew.cell? ⟨wr.heap.size, 1, none⟩ = some (.slice a' n' c') := s1'
                                        have OWd : Hid (W1.drew.ownsRow w18.heap.size 65 2 u31 q (flat le)) := OW1.out
                                        have BWd : Below wr.heap.size wr W1.drew := BW1.drew
                                        have HBL : Hid (∀ g, u31.ownBlock = some g → g < wr.heap.size) := fun g hg => (O.out.own.lt g hg).2
                                        by_cases hle : (nm : Int) + 1 < (n' : Int)
                                        · as_aux_lemma =>
                                            have NT : Hid (NumsAt .u32 wr (.slice a' (nm + 1) c') (xs.take (nm + 1))) := HN.out.take (by omega) (by omega) HNC.out
                                            have HE : Hid (acc ++ [(t, xs.take (nm + 1))] ++ keep 0 (PP.drop (k + 1)) = keep nd PP) := by
                                              have := HK'.out
                                              rw [keep_seq HCF.out (by omega) ht1, Nat.min_eq_left (show nm + 1 ≤ xs.length by rw [HXS.out]; omega)] at this
                                              show _ = _
                                              rw [List.append_assoc]
                                              rw [Nat.sub_self] at this; exact this
                                            clear HK'
                                            go_wp2_with fail
                                            go_region_held_law (fun w' => w'.cell? ⟨wr.heap.size, 0, none⟩ = some (.int .u8 t) ∧ w'.cell? ⟨wr.heap.size, 1, none⟩ = some (.slice a' n' c'))
                                              (first
                                                | exact ⟨s0d, s1d⟩
                                                | exact ⟨cell_later s0d (below_alloc _ _), cell_later s1d (below_alloc _ _)⟩
                                                | exact ⟨grown_cell hgrow (cell_later s0d (below_alloc _ _)) (fun e => Nat.ne_of_lt (HBL.out _ e) rfl), grown_cell hgrow (cell_later s1d (below_alloc _ _)) (fun e => Nat.ne_of_lt (HBL.out _ e) rfl)⟩)
                                              (first | (refine step_append_lies _ rfl (.tmp 213) (.tmp 221) 35 rfl w18.heap.size 65 j0 (.agg #[.int .u8 0, .slice none 0 0]) 2 32 Ybaf.underlying35 hj hy0 hy1 hy2 rfl (by decide) _ q (flat le) rfl (OWd.out.alloc _) ⟨W1.heap.size, 0, none⟩ 1 1 _ rfl rfl (cells_fresh _ _ _) (by intro u hu; simp at hu; rcases hu with rfl | rfl <;> rfl) (by omega) (by unfold maxLen; omega) (by omega) (by simp; omega) _ rfl ?_; intro g9 cap9 w9 hown hgrow hat hlt9))
                                            have KS := exp_step O.out HQ.out B (Nat.le_refl _) (BWd.trans ((below_alloc W1.drew _).mono BWd.size)) NT.out (fun b hb => HSEP.out b (ownBlock_same hb)) hown hgrow (hat.imp id (fun h => by rw [h]; simp))
                                            have HKS1 : Hid (Own w18.heap.size w9 (.slice (some ⟨g9, 0, none⟩) (q + 1) cap9) (acc ++ [(t, xs.take (nm + 1))]) (le ++ [(t, .slice a' (nm + 1) c')])) := KS.1
                                            have HKS2 : Below w18.heap.size w18 w9 := KS.2
                                            clear KS hown hgrow hat hlt9
                                            go_wp2_with fail
                                            exact ⟨⟨k + 1, 0, _, _, by omega, by omega, by go_num, by go_num, (show Hid ((acc ++ [(t, xs.take (nm + 1))]).length ≤ k + 1) from by show _ ≤ _; simp [HQ.out]; omega), HKS1, HE, HKS2⟩, by simp [intOf]; omega⟩
                                        · as_aux_lemma =>
                                            have NT : Hid (NumsAt .u32 wr (.slice a' n' c') (xs.take n')) := HN.out.take (by omega) (by omega) HNC.out
                                            have HE : Hid (acc ++ [(t, xs.take n')] ++ keep (nm + 1 - n') (PP.drop (k + 1)) = keep nd PP) := by
                                              have := HK'.out
                                              rw [keep_seq HCF.out (by omega) ht1, Nat.min_eq_right (show xs.length ≤ nm + 1 by rw [HXS.out]; omega), HXS.out] at this
                                              show _ = _
                                              rw [List.append_assoc]
                                              exact this
                                            clear HK'
                                            go_wp2_with fail
                                            go_region_held_law (fun w' => w'.cell? ⟨wr.heap.size, 0, none⟩ = some (.int .u8 t) ∧ w'.cell? ⟨wr.heap.size, 1, none⟩ = some (.slice a' n' c'))
                                              (first
                                                | exact ⟨s0d, s1d⟩
                                                | exact ⟨cell_later s0d (below_alloc _ _), cell_later s1d (below_alloc _ _)⟩
                                                | exact ⟨grown_cell hgrow (cell_later s0d (below_alloc _ _)) (fun e => Nat.ne_of_lt (HBL.out _ e) rfl), grown_cell hgrow (cell_later s1d (below_alloc _ _)) (fun e => Nat.ne_of_lt (HBL.out _ e) rfl)⟩)
                                              (first | (refine step_append_lies _ rfl (.tmp 213) (.tmp 221) 35 rfl w18.heap.size 65 j0 (.agg #[.int .u8 0, .slice none 0 0]) 2 32 Ybaf.underlying35 hj hy0 hy1 hy2 rfl (by decide) _ q (flat le) rfl (OWd.out.alloc _) ⟨W1.heap.size, 0, none⟩ 1 1 _ rfl rfl (cells_fresh _ _ _) (by intro u hu; simp at hu; rcases hu with rfl | rfl <;> rfl) (by omega) (by unfold maxLen; omega) (by omega) (by simp; omega) _ rfl ?_; intro g9 cap9 w9 hown hgrow hat hlt9))
                                            have KS := exp_step O.out HQ.out B (Nat.le_refl _) (BWd.trans ((below_alloc W1.drew _).mono BWd.size)) NT.out (fun b hb => HSEP.out b (ownBlock_same hb)) hown hgrow (hat.imp id (fun h => by rw [h]; simp))
                                            have HKS1 : Hid (Own w18.heap.size w9 (.slice (some ⟨g9, 0, none⟩) (q + 1) cap9) (acc ++ [(t, xs.take n')]) (le ++ [(t, .slice a' n' c')])) := KS.1
                                            have HKS2 : Below w18.heap.size w18 w9 := KS.2
                                            clear KS hown hgrow hat hlt9
                                            go_wp2_with fail
                                            exact ⟨⟨k + 1, (nm + 1 - n'), _, _, by omega, by omega, by go_num, by go_num, (show Hid ((acc ++ [(t, xs.take n')]).length ≤ k + 1) from by show _ ≤ _; simp [HQ.out]; omega), HKS1, HE, HKS2⟩, by simp [intOf]; omega⟩
                              · obtain rfl : nP = k := by omega
                                have HE : Hid (acc = keep nd PP) := by have := HK.out; rw [List.drop_of_length_le (by omega), show keep need [] = [] by cases need <;> rfl, List.append_nil] at this; exact this
                                go_wp2_with fail
                                go_meet
                                exact ⟨le, by rw [← HE.out]; exact O.out, B⟩
                          case rest =>
                            obtain ⟨le, OE, BE⟩ := hcut
                            obtain ⟨wx, hwx⟩ : ∃ x, x = wc := ⟨_, rfl⟩
                            subst hwx
                            have hR1 : R.length ≤ 100000 := by
                              have := (keep_le PP nd).1
                              rw [HRK.out, List.length_append]
                              omega
                            have hR2 : (nums R).length ≤ 100000 := by
                              have := (keep_le PP nd).2
                              rw [HRK.out, nums_append, List.length_append]
                              omega
                            obtain ⟨KL, hKL⟩ : ∃ KL, keep nd PP = KL := ⟨_, rfl⟩
                            have hkl := (keep_le PP nd).1
                            rw [hKL] at HRK OE hkl
                            obtain ⟨kl, hkll⟩ : ∃ kl, KL.length = kl := ⟨_, rfl⟩
                            rw [hkll] at hkl
                            have HKL : Hid (KL.length = kl) := hkll
                            have OEw : Hid (wx.ownsRow w18.heap.size 65 2 u31 kl (flat le)) := by
                              have := OE.out.own
                              rw [hkll] at this
                              exact this
                            have hbe := BE.size
                            have HGX : Hid (SegsAt wx v13 R) := HG18.out.later BE
                            have BXX : Below w.heap.size w wx := S18.out.B.trans (BE.mono S18.out.B.size)
                            have hbx := BXX.size
                            have CE : Hid (∀ (v' : Value) (w' : World), SegsAt w' v13 R → SegsAt w' v' R → Calls Ybaf.prog 19 #[v13, v'] w' fun e w'' => e = .returned (.bool true) ∧ Below w'.heap.size w' w'') := fun v' w' h1 h2 => ceq_same v13 v' R w' h1 h2 hR1 (len_of_nums R hR2)
                            clear hKL hkll hR1 hR2
                            by_cases hF0 : n4 = 0
                            · have hnil := S18.out.nil (by rw [HN4.out]; exact hF0)
                              injection hnil with e1 e2 e3
                              subst e1 e2 e3
                              have hF : F = [] := List.eq_nil_of_length_eq_zero HN4.out
                              have C := CE.out u31 wx HGX.out (by rw [HRK.out, hF, List.append_nil]; exact OE.out.segs)
                              have HC : Hid _ := C
                              clear C CE hF0 hF
                              as_aux_lemma =>
                                go_wp2_with (at_builtin; refine wpList_append_own_none rfl (.tmp 227) (.tmp 228) 35 rfl w18.heap.size 65 j0 2 Ybaf.underlying35 hj u31 kl (flat le) rfl OEw.out rfl ?_)
                                refine Calls.mono HC.out ?_
                                rintro e w20 ⟨rfl, B20⟩
                                clear HC
                                go_wp2_with fail
                                go_ret
                                exact ⟨rfl, BXX.trans (B20.mono hbx)⟩
                            · rcases S18.out.as4.own.2 with ⟨_, h0⟩ | ⟨g4, cap4, cur4, hv4, -⟩
                              · rw [HN4.out] at h0; exact absurd h0 hF0
                              · rw [HN4.out] at hv4
                                injection hv4 with e1 e2 e3
                                subst e1 e3
                                have OR := S18.out.as4.later BE
                                have HNW : Hid (∀ j u, (flat l)[j]? = some u → wx.cell? ((⟨g4, 0, none⟩ : Addr).add j) = some u) := OR.news _ rfl
                                have HONE : Hid (∀ u ∈ flat l, u.oneCell' = true) := OR.oneCell
                                have HLF : Hid ((flat l).length = n4 * 2) := by show _ = _; rw [flat_length, OR.len, HN4.out]
                                have HOR : Hid (Own w.heap.size wx (.slice (some ⟨g4, 0, none⟩) n4 c4) F l) := OR
                                clear OR e2
                                as_aux_lemma =>
                                  go_wp2_with (at_builtin; refine wpList_append_lies _ rfl (.tmp 227) (.tmp 228) 35 rfl w18.heap.size 65 j0 (.agg #[.int .u8 0, .slice none 0 0]) 2 32 Ybaf.underlying35 hj hy0 hy1 hy2 rfl (by decide) _ kl (flat le) rfl ?z2 ⟨g4, 0, none⟩ n4 c4 (flat l) rfl HLF.out HNW.out HONE.out ?z7 ?z8 ?z9 ?z10 _ rfl ?z11)
                                  case z2 => exact OEw.out
                                  case z7 => omega
                                  case z8 => unfold maxLen; omega
                                  case z9 => omega
                                  case z10 => omega
                                  intro g9 cap9 w9 hown hgrow hat hlt9
                                  have OA := OE.out.append HOR.out (fun i hi b hb e => by have h1 := (S18.out.as4.sep i hi b hb).2; have h2 := (OE.out.own.lt b e).1; omega) HKL.out HN4.out hown hgrow hat
                                  have G9 : SegsAt w9 v13 R := HG18.out.later (BE.grown hgrow hbe (fun k h => (OE.out.own.lt k h).1))
                                  have C := CE.out _ w9 G9 (by rw [HRK.out]; exact OA.segs)
                                  have HC : Hid _ := C
                                  have B9 : Below w.heap.size w w9 := BXX.grown hgrow hbx (fun k h => by have := (OE.out.own.lt k h).1; have := S18.out.B.size; omega)
                                  clear C CE OA G9 hown hgrow hat hlt9
                                  go_wp2_with fail
                                  refine Calls.mono HC.out ?_
                                  rintro e w20 ⟨rfl, B20⟩
                                  clear HC
                                  go_wp2_with fail
                                  go_ret
                                  exact ⟨rfl, B9.trans (B20.mono B9.size)⟩
end Go.Proofs.YbulknbsFmt
