/-
  slices.DeleteFunc with the method value confed, on a row of the call's own.
-/
import Derived.Test.YbulknbsFmtRow
namespace Go.Proofs.YbulknbsFmt
open Go.RowKit

theorem wpList_clear {ops : Array Oper} {rest : List Oper} {o : Oper} {a : Act} {Q : Exit → Act → World → Prop} (w : World) (hgd : o.guard = none) (x : Operand) (ho : o.op = .call { callee := .builtin .clear, args := #[x], argTypes := #[35] })
    (b off n c : Nat) (hx : a.eval x = .slice (some ⟨b, off, none⟩) n c) (hn : 0 < n) (hc : ∀ j, j < n * 2 → (w.cell? ⟨b, off + j, none⟩).isSome = true) (hf : ∀ j, j < n * 2 → w.frozen? ⟨b, off + j, none⟩ = false)
    (h : wpList Ybaf.prog ops Q rest (a.put o.dst (.tuple #[])) (w.setCells b off (zs65 n))) : wpList Ybaf.prog ops Q (o :: rest) a w := by
  refine wpList_plain hgd fun K hK => ?_
  have hrun := run_clear65 w o.type b off n c hn hc hf
  unfold Oper.wp execOp
  simp only [ho, resolve, invoke, builtin, Sem.run_bind, Sem.run_pure, Result.andThen_ok, List.map_toArray, List.map_cons, List.map_nil, hx, hrun]
  exact hK _ _ h

/-- kept: no confederation's -/
def ncv (p : Int × Value) : Bool := !(p.1 == 3 || p.1 == 4)
def ncs (s : Int × List Int) : Bool := !conf s

theorem filter_rel (P : Value → List Int → Prop) : ∀ (ss : List (Int × List Int)) (l : List (Int × Value)), l.length = ss.length → (∀ i, i < ss.length → (l.getD i (0, undef)).1 = (ss.getD i (0, [])).1 ∧ P (l.getD i (0, undef)).2 (ss.getD i (0, [])).2) →
    (l.filter ncv).length = (ss.filter ncs).length ∧ ∀ i, i < (ss.filter ncs).length → ((l.filter ncv).getD i (0, undef)).1 = ((ss.filter ncs).getD i (0, [])).1 ∧ P ((l.filter ncv).getD i (0, undef)).2 ((ss.filter ncs).getD i (0, [])).2
  | [], l, hl, _ => by
    obtain rfl : l = [] := List.eq_nil_of_length_eq_zero hl
    exact ⟨rfl, fun i hi => absurd hi (by simp)⟩
  | s :: ss, [], hl, _ => by simp at hl
  | s :: ss, p :: l, hl, h => by
    have h0 := h 0 (by simp)
    simp at h0
    have ih := filter_rel P ss l (by simpa using hl) (fun i hi => by have := h (i + 1) (by simp; omega); simpa using this)
    have e : ncv p = ncs s := by simp [ncv, ncs, conf, h0.1]
    by_cases hc : ncs s = true
    · rw [List.filter_cons_of_pos (by rw [e]; exact hc), List.filter_cons_of_pos hc]
      refine ⟨by simp [ih.1], fun i hi => ?_⟩
      cases i with
      | zero => simpa using h0
      | succ i => have := ih.2 i (by simpa using hi); simpa using this
    · rw [List.filter_cons_of_neg (by rw [e]; exact hc), List.filter_cons_of_neg hc]
      exact ih

theorem grown_of_below {w w' : World} (B : Below w.heap.size w w') (row : Option Nat) : w.grownBy w' row := ⟨B.os, B.tape, B.output, B.size, fun i hi _ => B.block i hi⟩

/-- while the kept ones are moved to the front: j lines looked at -/
structure Mv (w wr : World) (g N n j : Nat) (l : List (Int × Value)) (F : Nat → Value) : Prop where
  row : RowAt wr g N F
  kept : ∀ m, m < ((l.take j).filter ncv).length → F (m * 2) = .int .u8 (((l.take j).filter ncv).getD m (0, undef)).1 ∧ F (m * 2 + 1) = (((l.take j).filter ncv).getD m (0, undef)).2
  rest : ∀ m, j ≤ m → m < n → F (m * 2) = .int .u8 (l.getD m (0, undef)).1 ∧ F (m * 2 + 1) = (l.getD m (0, undef)).2
  grown : w.grownBy wr (some g)

theorem take_next (l : List (Int × Value)) (j : Nat) (hj : j < l.length) : (l.take (j + 1)).filter ncv = (l.take j).filter ncv ++ [l.getD j (0, undef)].filter ncv := by
  rw [List.take_add_one, List.filter_append, List.getElem?_eq_getElem hj]
  simp [hj]
theorem kept_le (l : List (Int × Value)) (j : Nat) : ((l.take j).filter ncv).length ≤ j := Nat.le_trans (List.length_filter_le _ _) (by simp; omega)

theorem grown_trans {a b c : World} {row : Option Nat} (h : a.grownBy b row) (B : Below b.heap.size b c) : a.grownBy c row := h.trans (grown_of_below B row)
theorem grown_set {w : World} (g j : Nat) (v : Value) : w.grownBy (w.setCell ⟨g, j, none⟩ v) (some g) :=
  ⟨rfl, rfl, rfl, by simp [World.setCell], fun i hi hne => Below.heap_setCell _ _ _ _ (fun e => hne (by rw [e]))⟩

theorem grown_sets (g : Nat) : ∀ (vs : List Value) (o : Nat) (w : World), w.grownBy (w.setCells g o vs) (some g)
  | [], _, w => World.grownBy.refl w _
  | v :: r, o, _ => (grown_set g o v).trans (grown_sets g r (o + 1) _)

theorem flat_all (K : List (Int × Value)) (G : Nat → Value) (h : ∀ m, m < K.length → G (m * 2) = .int .u8 (K.getD m (0, undef)).1 ∧ G (m * 2 + 1) = (K.getD m (0, undef)).2) : ∀ x, x < K.length * 2 → (flat K)[x]? = some (G x) := fun x hx => by
  rcases (by omega : x = x / 2 * 2 ∨ x = x / 2 * 2 + 1) with e | e
  · have := (h (x / 2) (by omega)).1
    rw [e, flat_0 K (x / 2) (by omega), this]
  · have := (h (x / 2) (by omega)).2
    rw [e, flat_1 K (x / 2) (by omega), this]

/-- the kept ones, at the end -/
theorem kept_own {base : Nat} {w wr : World} {g n cap i : Nat} {ss : List (Int × List Int)} {l : List (Int × Value)} {F : Nat → Value} (h : Own base w (.slice (some ⟨g, 0, none⟩) n cap) ss l) (hn : ss.length = n) (M : Mv w wr g (cap * 2) n n l F) (hi : ((l.take n).filter ncv).length = i) (hb : base ≤ g) (hnc : n ≤ cap) (hm : cap ≤ maxLen) :
    Own base (wr.setCells g (i * 2) (zs65 (n - i))) (.slice (some ⟨g, 0, none⟩) i cap) (ss.filter ncs) (l.filter ncv) ∧ w.grownBy (wr.setCells g (i * 2) (zs65 (n - i))) (some g) := by
  have hln : l.length = n := h.len.trans hn
  have hin : i ≤ n := by rw [← hi]; exact kept_le l n
  have ht : l.take n = l := List.take_of_length_le (by omega)
  have hk := M.kept
  rw [ht] at hk hi
  have hg : w.grownBy (wr.setCells g (i * 2) (zs65 (n - i))) (some g) := M.grown.trans (grown_sets g _ _ _)
  refine ⟨?_, hg⟩
  obtain ⟨G, hG, hGF⟩ := RowAt.clear (zs65 (n - i)) (i * 2) wr F M.row (by rw [zs65_length]; omega)
  have rel := filter_rel (fun v xs => NumsAt .u32 (wr.setCells g (i * 2) (zs65 (n - i))) v xs ∧ ∀ b, v.ownBlock = some b → some g ≠ some b ∧ b < (wr.setCells g (i * 2) (zs65 (n - i))).heap.size) ss l h.len
    (fun m hmm => ⟨h.ty m hmm, (h.num m hmm).grown hg (fun b hb => (h.sep m hmm b hb).1), fun b hb => ⟨(h.sep m hmm b hb).1, Nat.lt_of_lt_of_le (h.sep m hmm b hb).2 hg.size⟩⟩)
  have hlen : (ss.filter ncs).length = i := by rw [← rel.1, hi]
  refine ⟨?_, rel.1, fun m hmm => (rel.2 m hmm).1, fun m hmm => (rel.2 m hmm).2.1, fun m hmm b hb => (rel.2 m hmm).2.2 b hb⟩
  rw [hlen]
  refine own_of_rowAt hG hb (by omega) hm (by rw [flat_length, hi]) ?_
  have fa := flat_all (l.filter ncv) G (fun m hmm => by
    rw [hi] at hmm
    rw [hGF (m * 2) (by omega), hGF (m * 2 + 1) (by omega)]
    exact hk m (by rw [hi]; exact hmm))
  rw [hi] at fa
  exact fa

theorem Mv.skip {w wr wr' : World} {g N n j : Nat} {l : List (Int × Value)} {F : Nat → Value} (h : Mv w wr g N n j l F) (hj : j < l.length) (hc : ncv (l.getD j (0, undef)) = false) (B : Below wr.heap.size wr wr') : Mv w wr' g N n (j + 1) l F ∧ ((l.take (j + 1)).filter ncv).length = ((l.take j).filter ncv).length := by
  have e : (l.take (j + 1)).filter ncv = (l.take j).filter ncv := by rw [take_next l j hj, List.filter_cons_of_neg (by rw [hc]; decide)]; simp
  exact ⟨⟨h.row.later B, by rw [e]; exact h.kept, fun m hm hn => h.rest m (by omega) hn, grown_trans h.grown B⟩, by rw [e]⟩

theorem Mv.move {w wr wr' : World} {g N n j i : Nat} {l : List (Int × Value)} {F : Nat → Value} (h : Mv w wr g N n j l F) (hj : j < l.length) (hn : n * 2 ≤ N) (hln : l.length = n) (hc : ncv (l.getD j (0, undef)) = true) (hi : ((l.take j).filter ncv).length = i) (B : Below wr.heap.size wr wr') :
    (∃ G, Mv w ((wr'.setCell ⟨g, i * 2, none⟩ (.int .u8 (l.getD j (0, undef)).1)).setCell ⟨g, i * 2 + 1, none⟩ (l.getD j (0, undef)).2) g N n (j + 1) l G) ∧ ((l.take (j + 1)).filter ncv).length = i + 1 := by
  have e : (l.take (j + 1)).filter ncv = (l.take j).filter ncv ++ [l.getD j (0, undef)] := by rw [take_next l j hj, List.filter_cons_of_pos hc]; rfl
  have hij : i ≤ j := by rw [← hi]; exact kept_le l j
  obtain ⟨p, hp⟩ : ∃ p, l.getD j (0, undef) = p := ⟨_, rfl⟩
  obtain ⟨K, hK⟩ : ∃ K, (l.take j).filter ncv = K := ⟨_, rfl⟩
  have hk := h.kept
  rw [hp, hK] at e
  rw [hK] at hi hk
  rw [hp]
  have q1 : ∀ m, m < i → (K ++ [p]).getD m (0, undef) = K.getD m (0, undef) := fun m hm => by
    have : m < K.length := by omega
    simp [List.getElem?_append_left this]
  have q2 : (K ++ [p]).getD i (0, undef) = p := by rw [← hi]; simp
  have r1 := (h.row.later B).set (i * 2) (by omega) (.int .u8 p.1) (fun m => if m = i * 2 then .int .u8 p.1 else F m) (by simp) (fun m _ hm => by simp [hm])
  have r2 := r1.set (i * 2 + 1) (by omega) p.2 (fun m => if m = i * 2 + 1 then p.2 else if m = i * 2 then .int .u8 p.1 else F m) (by simp) (fun m _ hm => by simp [hm])
  refine ⟨⟨_, ⟨r2, fun m hm => ?_, fun m hm hmn => ?_, ((grown_trans h.grown B).trans (grown_set _ _ _)).trans (grown_set _ _ _)⟩⟩, by rw [e]; simp [hi]⟩
  · rw [e] at hm ⊢
    by_cases hmi : m < i
    · rw [q1 m hmi, if_neg (by omega), if_neg (by omega), if_neg (by omega), if_neg (by omega)]
      exact hk m (by omega)
    · have hmi' : m = i := by simp [hi] at hm; omega
      subst hmi'
      rw [q2, if_neg (by omega), if_pos rfl, if_pos rfl]
      exact ⟨rfl, rfl⟩
  · rw [if_neg (by omega), if_neg (by omega), if_neg (by omega), if_neg (by omega)]
    exact h.rest m (by omega) hmn

set_option maxRecDepth 100000 in
set_option maxHeartbeats 2000000 in
theorem delete_any (base : Nat) (v : Value) (ss : List (Int × List Int)) (l : List (Int × Value)) (w : World) (h : Own base w v ss l) (hl : ss.length ≤ 100000) :
    Calls Ybaf.prog 31 #[v, .func (.func 32) #[] #[]] w fun e w' => ∃ v' l', e = .returned v' ∧ Own base w' v' (ss.filter ncs) l' ∧ w.grownBy w' v.ownBlock ∧ v'.ownBlock = v.ownBlock := by
  have HO : Hid (Own base w v ss l) := h
  have HI := index_any v ss w h.segs hl
  have HHI : Hid _ := HI
  clear HI
  by_cases hall : ∀ i, i < ss.length → conf (ss.getD i (0, [])) = false
  · have hf : ss.filter ncs = ss := by
      rw [List.filter_eq_self]
      intro s hs
      obtain ⟨i, hi, rfl⟩ := List.getElem_of_mem hs
      have := hall i hi
      simp [hi] at this
      simp [ncs, this]
    rw [hf]
    obtain ⟨a, c, rfl, _⟩ := h.segs
    have HA : Hid (∀ i, i < ss.length → conf (ss.getD i (0, [])) = false) := hall
    clear hall hf h
    go_enter Ybaf.func31, Ybaf.ntmps31
    go_wp2_with fail
    refine Calls.mono HHI.out ?_
    rintro e w2 ⟨⟨k, _, hk, hc, _⟩ | ⟨rfl, _⟩, B⟩
    · exact absurd hc (by rw [HA.out k hk]; decide)
    · go_wp2_with fail
      go_ret
      exact ⟨_, l, rfl, HO.out.later B, grown_of_below B _, rfl⟩
  · have HA : Hid (¬ ∀ i, i < ss.length → conf (ss.getD i (0, [])) = false) := hall
    have hnum := h.num
    have hln := h.len
    have hty := h.ty
    rcases h.own.2 with ⟨_, h0⟩ | ⟨g, cap, _, rfl, _⟩
    · exact absurd (fun i hi => by omega) hall
    obtain ⟨F0, R0, hF0, hnc, hcm, hbg⟩ := rowAt_of_own h.own
    obtain ⟨n, hnn⟩ : ∃ n, ss.length = n := ⟨_, rfl⟩
    rw [hnn] at hl hF0 hnc hln
    have cellsF : ∀ m, m < n → F0 (m * 2) = .int .u8 (l.getD m (0, undef)).1 ∧ F0 (m * 2 + 1) = (l.getD m (0, undef)).2 := fun m hm => by
      have a0 := hF0 (m * 2) (by omega)
      have a1 := hF0 (m * 2 + 1) (by omega)
      rw [flat_0 l m (by omega)] at a0
      rw [flat_1 l m (by omega)] at a1
      exact ⟨(Option.some.inj a0).symm, (Option.some.inj a1).symm⟩
    have hform : ∀ m, m < n → ∃ a n' c', (l.getD m (0, undef)).2 = .slice a n' c' := fun m hm => by
      obtain ⟨a, c, hv, _⟩ := hnum m (by omega)
      exact ⟨a, _, c, hv⟩
    have hnv : ∀ m, m < n → ncv (l.getD m (0, undef)) = !conf (ss.getD m (0, [])) := fun m hm => by unfold ncv conf; rw [hty m (by omega)]
    rw [hnn] at HHI ⊢
    have HN : Hid (ss.length = n) := hnn
    have HF : Hid (∀ m, m < n → ∃ a n' c', (l.getD m (0, undef)).2 = .slice a n' c') := hform
    have HNV : Hid (∀ m, m < n → ncv (l.getD m (0, undef)) = !conf (ss.getD m (0, []))) := hnv
    have HCF : Hid (∀ m, m < n → F0 (m * 2) = .int .u8 (l.getD m (0, undef)).1 ∧ F0 (m * 2 + 1) = (l.getD m (0, undef)).2) := cellsF
    have HL : Hid (l.length = n) := hln
    clear hall h hnum hty cellsF hform hnv hnn hF0 hln
    go_enter Ybaf.func31, Ybaf.ntmps31
    go_wp2_with fail
    refine Calls.mono HHI.out ?_
    rintro e w2 ⟨⟨k, rfl, hk, hc, hlow⟩ | ⟨rfl, hno⟩, B⟩
    case inr => exact absurd (fun i hi => hno i (by rw [← HN.out]; exact hi)) HA.out
    have q1 : ((k : Int) == -1) = false := by simp <;> omega
    have hkl : k < l.length := by rw [HL.out]; exact hk
    have hlen0 : ((l.take k).filter ncv) = l.take k := by
      rw [List.filter_eq_self]
      intro p hp
      obtain ⟨i, hi, rfl⟩ := List.getElem_of_mem hp
      have hik : i < k := by simp at hi; omega
      have := HNV.out i (by omega)
      rw [hlow i hik] at this
      simpa [show i < l.length by omega] using this
    have M0 : Mv w w2 g (cap * 2) n k l F0 := ⟨R0.later B, fun m hm => by
      rw [hlen0] at hm ⊢
      have hmk : m < k := by simp at hm; omega
      have := HCF.out m (by omega)
      simpa [hmk] using this, fun m _ hm => HCF.out m hm, grown_of_below B _⟩
    have M1 := M0.skip hkl (by rw [HNV.out k hk, hc]; rfl) (Below.refl _ w2)
    have hcnt : ((l.take (k + 1)).filter ncv).length = k := by rw [M1.2, hlen0]; simp <;> omega
    have HM1 : Hid (Mv w w2 g (cap * 2) n (k + 1) l F0) := M1.1
    have HCNT : Hid (((l.take (k + 1)).filter ncv).length = k) := hcnt
    clear M0 M1 hcnt hlen0 hlow hc R0 HHI
    go_wp2_with fail
    go_loopw [5, 6] (fun si sj wr => ∃ (i j : Nat) (F : Nat → Value), k < j ∧ j ≤ n ∧ i < j ∧ si = .int .i64 i ∧ sj = .int .i64 j ∧ Hid (((l.take j).filter ncv).length = i) ∧ Hid (Mv w wr g (cap * 2) n j l F)) (fun _ sj _ => n - (intOf sj).toNat)
    case atStart => exact ⟨k, k + 1, F0, by omega, by omega, by omega, rfl, by go_num, HCNT, HM1⟩
    case round =>
      clear HM1 HCNT
      obtain ⟨i, j, F, hkj, hjn, hij, rfl, rfl, HCNT, HM⟩ := hrel
      by_cases hlt : j < n
      · obtain ⟨a', n', c', hv⟩ := HF.out j hlt
        have hr := HM.out.rest j (Nat.le_refl _) hlt
        have e0 := HM.out.row.cell (j * 2) (by omega)
        have e1 := HM.out.row.cell (j * 2 + 1) (by omega)
        rw [hr.1] at e0
        rw [hr.2, hv] at e1
        have hq := HNV.out j hlt
        obtain ⟨t, ht⟩ : ∃ t, (l.getD j (0, undef)).1 = t := ⟨_, rfl⟩
        rw [ht] at e0
        have HV : Hid ((l.getD j (0, undef)).2 = .slice a' n' c') := hv
        have HT : Hid ((l.getD j (0, undef)).1 = t) := ht
        have hjl : j < l.length := by rw [HL.out]; exact hlt
        have hconf : ncv (l.getD j (0, undef)) = !(t == 3 || t == 4) := by unfold ncv; rw [ht]
        obtain ⟨q, hqq⟩ : ∃ q, (t == 3 || t == 4) = q := ⟨_, rfl⟩
        rw [hqq] at hconf
        have HCO : Hid (ncv (l.getD j (0, undef)) = !q) := hconf
        clear hr hv ht hq hconf
        go_wp2_with fail
        refine (confed_any t a' n' c' _).mono ?_
        rintro e w3 ⟨rfl, B3⟩
        rw [hqq]
        have B4 : Below wr.heap.size wr w3 := (below_alloc wr _).trans (B3.mono (by simp))
        have c0 := cell_later (World.cell?_alloc_at (w := wr) #[.int .u8 t, .slice a' n' c'] 65 wr.heap.size 0 rfl) B3
        have c1 := cell_later (World.cell?_alloc_at (w := wr) #[.int .u8 t, .slice a' n' c'] 65 wr.heap.size 1 rfl) B3
        clear B3 hqq
        cases q with
        | true =>
          have S := HM.out.skip hjl HCO.out B4
          have HS : Hid (Mv w w3 g (cap * 2) n (j + 1) l F) := S.1
          have HS2 : Hid (((l.take (j + 1)).filter ncv).length = i) := S.2.trans HCNT.out
          clear S
          go_wp2_with fail
          exact ⟨⟨i, j + 1, F, by omega, by omega, by omega, rfl, by go_num, HS2, HS⟩, by simp [intOf]; omega⟩
        | false =>
          have R3 := HM.out.row.later B4
          have f0 := R3.frozen (i * 2)
          have f1 := R3.frozen (i * 2 + 1)
          have x0 := R3.cell (i * 2) (by omega)
          have x1 := R3.cell (i * 2 + 1) (by omega)
          have fa2 := World.frozen?_setCell
          have S := HM.out.move hjl (by omega) HL.out HCO.out HCNT.out B4
          rw [HV.out, HT.out] at S
          have HS2 : Hid (((l.take (j + 1)).filter ncv).length = i + 1) := S.2
          have HS : Hid (∃ G, Mv w ((w3.setCell ⟨g, i * 2, none⟩ (.int .u8 t)).setCell ⟨g, i * 2 + 1, none⟩ (.slice a' n' c')) g (cap * 2) n (j + 1) l G) := S.1
          clear S R3
          go_wp2_with fail
          obtain ⟨G, hG⟩ := HS.out
          exact ⟨⟨i + 1, j + 1, G, by omega, by omega, by omega, by go_num, by go_num, HS2, hG⟩, by simp [intOf]; omega⟩
      · obtain rfl : j = n := by omega
        have HC1 : Hid (∀ x, x < (j - i) * 2 → (wr.cell? ⟨g, i * 2 + x, none⟩).isSome = true) := fun x hx => by rw [HM.out.row.cell (i * 2 + x) (by omega)]; rfl
        have HF1 : Hid (∀ x, x < (j - i) * 2 → wr.frozen? ⟨g, i * 2 + x, none⟩ = false) := fun x hx => HM.out.row.frozen _
        have nci : ¬ cap = i := by omega
        have hi1 : (i : Int) ≤ (j : Int) := by omega
        have hi2 : (i : Int) ≤ (cap : Int) := by omega
        go_wp2_with (refine wpList_clear _ rfl (.tmp 38) rfl g (i * 2) (j - i) (cap - i) rfl (by omega) HC1.out HF1.out ?_)
        go_ret
        have E := kept_own (by have := HO.out; rwa [HN.out] at this) HN.out HM.out HCNT.out hbg hnc hcm
        exact ⟨_, l.filter ncv, rfl, E.1, E.2, rfl⟩
end Go.Proofs.YbulknbsFmt
