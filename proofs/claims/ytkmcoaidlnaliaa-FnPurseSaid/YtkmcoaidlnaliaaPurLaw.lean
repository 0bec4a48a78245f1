/-
  laws.FnPurse, walked.
-/
import Derived.Test.YtkmcoaidlnaliaaLst
namespace Go.Proofs.Ytkmcoaidlnaliaa.Purse
open Go.RowKit Go.Proofs.Ytkmcoaidlnaliaa.Hand Go.Proofs.Ytkmcoaidlnaliaa.PFnPurse Go.Proofs.YtkmcoaidlnaliaaW.PrintWords Go.Proofs.YtkmcoaidlnaliaaW.PrintLast Go.Proofs.YtkmcoaidlnaliaaW.PrintMore

theorem okS_not {n : Nat} {s : Int} {σ : St} (h : ¬ okS n s σ) : (s < 0 ∨ 2 < s) ∨ (s = 0 ∧ n ≤ σ.next) := by
  unfold okS at h
  by_cases h0 : s = 0
  · by_cases h1 : σ.next < n
    · exact absurd ⟨by omega, by omega, fun _ => h1⟩ h
    · exact .inr ⟨h0, by omega⟩
  · by_cases h1 : 0 ≤ s ∧ s ≤ 2
    · exact absurd ⟨h1.1, h1.2, fun h => absurd h h0⟩ h
    · exact .inl (by omega)
/-- What the rounds of the law keep. -/
structure LM (w wr : World) (st : List Int) (n i g5 g6 : Nat) (v5 v6 : Value) : Prop where
  tk : Lst wr g5 v5 (runS st i).taken
  lf : Lst wr g6 v6 (leftI (runS st i))
  ne : g5 ≠ g6
  b5 : w.heap.size ≤ g5
  b6 : w.heap.size ≤ g6
  bel : Below w.heap.size w wr
  ok : AllOk n st i
theorem LM.bads {w wr : World} {st : List Int} {n i g5 g6 : Nat} {v5 v6 : Value} (h : LM w wr st n i g5 g6 v5 v6) (hl : i < st.length) (hok : okS n (st.getD i 0) (runS st i)) : AllOk n st (i + 1) := fun j hj => by
  by_cases e : j = i
  · subst e; exact hok
  · exact h.ok j (by omega)
theorem LM.push {w wr w' : World} {st : List Int} {n i g5 g6 g6' p : Nat} {v5 v6 v6' : Value} (h : LM w wr st n i g5 g6 v5 v6) (hl : i < st.length) (hs : st.getD i 0 = 0) (hp : (runS st i).next = p) (hlt : p < n)
    (hL : Lst w' g6' v6' (leftI (runS st i) ++ [(p : Int)])) (hor : g6' = g6 ∨ wr.heap.size ≤ g6') (hk : ∀ k, k < wr.heap.size → k ≠ g6 → w'.heap[k]? = wr.heap[k]?) (hb : Below w.heap.size w w') : LM w w' st n (i + 1) g5 g6' v5 v6' := by
  have h5 := h.tk.lt
  have hsx := h.bel.size
  have hne := h.ne
  have hb6 := h.b6
  have e : runS st (i + 1) = ⟨(runS st i).left ++ [(runS st i).next], (runS st i).next + 1, (runS st i).taken⟩ := by
    rw [runS_succ st i hl, hs]; unfold stp; rw [if_pos rfl]
  refine ⟨?_, ?_, by omega, h.b5, by omega, hb, h.bads hl ⟨by omega, by omega, fun _ => by omega⟩⟩
  · rw [e]; exact h.tk.frame (hk _ h5 hne)
  · rw [e]
    subst hp
    unfold leftI at hL ⊢
    rw [List.map_append]
    exact hL
theorem LM.took {w wr w' : World} {st : List Int} {n i g5 g6 g5' : Nat} {v5 v6 v5' v6' : Value} {a : Int} (h : LM w wr st n i g5 g6 v5 v6) (hl : i < st.length) (hok : okS n (st.getD i 0) (runS st i))
    (ht : (runS st (i + 1)).taken = (runS st i).taken ++ [a]) (h6 : Lst wr g6 v6' (leftI (runS st (i + 1))))
    (hL : Lst w' g5' v5' ((runS st i).taken ++ [a])) (hor : g5' = g5 ∨ wr.heap.size ≤ g5') (hk : ∀ k, k < wr.heap.size → k ≠ g5 → w'.heap[k]? = wr.heap[k]?) (hb : Below w.heap.size w w') : LM w w' st n (i + 1) g5' g6 v5' v6' := by
  have h5 := h6.lt
  have hsx := h.bel.size
  have hne := h.ne
  have hb6 := h.b6
  have hb5 := h.b5
  exact ⟨by rw [ht]; exact hL, h6.frame (hk _ h5 (Ne.symm hne)), by omega, by omega, hb6, hb, h.bads hl hok⟩
theorem lst0 {w : World} {g : Nat} (h : g < w.heap.size) : Lst w g (.slice (some ⟨g, 0, none⟩) 0 0) [] :=
  ⟨⟨0, 0, rfl, h, Nat.le_refl _, (fun j hj => absurd hj (Nat.not_lt_zero _)), (fun j hj => absurd hj (Nat.not_lt_zero _))⟩⟩
theorem lm0 {w w1 : World} (st : List Int) (n : Nat) (hb : Below w.heap.size w w1) : LM w ((w1.alloc (.cells #[] 3)).alloc (.cells #[] 3)) st n 0 w1.heap.size (w1.heap.size + 1) (.slice (some ⟨w1.heap.size, 0, none⟩) 0 0) (.slice (some ⟨w1.heap.size + 1, 0, none⟩) 0 0) :=
  ⟨lst0 (by show _ < ((w1.heap.push _).push _).size; simp; omega), lst0 (by show _ < ((w1.heap.push _).push _).size; simp), by omega, hb.size, by have := hb.size; omega, (hb.alloc hb.size _).alloc (hb.alloc hb.size _).size _, fun j hj => absurd hj (Nat.not_lt_zero _)⟩
theorem run_pop {st : List Int} {i j : Nat} {t : List Nat} (hl : i < st.length) (hs : st.getD i 0 = 1) (he : (runS st i).left = t ++ [j]) : runS st (i + 1) = ⟨t, (runS st i).next, (runS st i).taken ++ [(j : Int)]⟩ := by
  rw [runS_succ st i hl, hs]; unfold stp; rw [if_neg (by decide), if_pos rfl, he]; simp
theorem run_shift {st : List Int} {i j : Nat} {t : List Nat} (hl : i < st.length) (hs : st.getD i 0 = 2) (he : (runS st i).left = j :: t) : runS st (i + 1) = ⟨t, (runS st i).next, (runS st i).taken ++ [(j : Int)]⟩ := by
  rw [runS_succ st i hl, hs]; unfold stp; rw [if_neg (by decide), if_neg (by decide), he]
theorem run_none {st : List Int} {i : Nat} (hl : i < st.length) (hs : st.getD i 0 = 1 ∨ st.getD i 0 = 2) (he : (runS st i).left = []) : runS st (i + 1) = ⟨[], (runS st i).next, (runS st i).taken ++ [-1]⟩ := by
  rw [runS_succ st i hl]
  rcases hs with hs | hs
  · rw [hs]; unfold stp; rw [if_neg (by decide), if_pos rfl, he]; rfl
  · rw [hs]; unfold stp; rw [if_neg (by decide), if_neg (by decide), he]

set_option maxRecDepth 100000 in
set_option maxHeartbeats 16000000 in
theorem law_calls (A1 : Option Addr) (n1 c1 : Nat) (st : List Int) (A2 : Option Addr) (n c2 : Nat) (cl : List S28) (w : World) (h1 : st.length = n1) (hC1 : Kd.C (Kd.int .i64) w A1 n1 st) (h2 : cl.length = n) (hn2 : n ≤ c2) (hC2 : Kd.C k28 w A2 n cl) :
    Calls Try.prog 3 #[.slice A1 n1 c1, .slice A2 n c2] w fun en w' => en = .returned (.bool true) ∧ Below w.heap.size w w' := by
  by_cases hbig : 2147483647 < n1 ∨ 2147483647 < n
  · go_enter Try.func3, Try.ntmps3
    by_cases hb1 : 2147483647 < n1
    · go_wp2_with fail
      exact bodyPost_ret (results_tmp rfl _ _ _) rfl ⟨rfl, Below.refl _ _⟩
    · have hb2 : 2147483647 < n := by omega
      go_wp2_with fail
      exact bodyPost_ret (results_tmp rfl _ _ _) rfl ⟨rfl, Below.refl _ _⟩
  by_cases h40 : 40 < n1
  · have hb1 : ¬ 2147483647 < n1 := by omega
    have hb2 : ¬ 2147483647 < n := by omega
    go_enter Try.func3, Try.ntmps3
    go_wp2_with fail
    exact bodyPost_ret (results_tmp rfl _ _ _) rfl ⟨rfl, Below.refl _ _⟩
  obtain ⟨kc, hkc⟩ := coins_f cl (by omega)
  have HG : Aside0 (Calls Try.prog 6 #[.agg #[.int .i64 0, .int .i64 0, .int .i64 0, .int .i64 0], .int .i64 1, .slice A2 n c2] w fun e w' => e = .returned (.bool (coinsB cl)) ∧ Below w.heap.size w w') := ⟨by
    subst h2
    exact laws_areCoins.calls kc 0 0 0 0 1 A2 c2 cl (coinsB cl) w hC2 hn2 hkc⟩
  by_cases hcb : coinsB cl = false
  · have hb1 : ¬ 2147483647 < n1 := by omega
    have hb2 : ¬ 2147483647 < n := by omega
    rw [hcb] at HG
    go_enter Try.func3, Try.ntmps3
    go_wp2_with (first
      | (go_at_call 6; refine HG.out.mono ?_; rintro e1 w1 ⟨rfl, hb⟩; have HB := Aside0.mk hb; clear hb)
      | fail)
    exact bodyPost_ret (results_tmp rfl _ _ _) rfl ⟨rfl, HB.out⟩
  have hcb' : coinsB cl = true := by simpa using hcb
  rw [hcb'] at HG
  have hn10 : n ≤ 10 := by
    unfold coinsB at hcb'
    rw [Bool.and_eq_true] at hcb'
    have := of_decide_eq_true hcb'.2
    omega
  have hn40 : n1 ≤ 40 := by omega
  have HC1 := Aside0.mk hC1
  have HC2 := Aside0.mk hC2
  have HCB := Aside0.mk hcb'
  have HL1 := Aside0.mk h1
  have HL2 := Aside0.mk h2
  clear hbig h40 hcb hcb' hC1 hC2 h1 h2
  go_enter Try.func3, Try.ntmps3
  go_wp2_with (first
    | (go_at_call 6; refine HG.out.mono ?_; rintro e1 w1 ⟨rfl, hb⟩; have HB := Aside0.mk hb; clear hb)
    | fail)
  have HM0 := Aside0.mk (lm0 st n HB.out)
  clear HB
  go_loopw [5, 6, 7, 43] (fun v5 v6 v7 v43 wr => ∃ (i g5 g6 : Nat), v43 = .int .i64 i ∧ i ≤ n1 ∧ Aside0 (v7 = .int .i64 ((runS st i).next : Nat)) ∧ Aside0 (LM w wr st n i g5 g6 v5 v6)) (fun _ _ _ v43 _ => n1 - (intOf v43).toNat)
  case atStart => exact ⟨0, _, _, rfl, Nat.zero_le _, ⟨rfl⟩, HM0⟩
  case round =>
    obtain ⟨i, g5, g6, rfl, hi, HV, HM⟩ := hrel
    clear HM0
    by_cases hlt : i < n1
    · have HF := Aside0.mk (fine n st i (by have := HL1.out; omega) HM.out.ok)
      have HLT : Aside0 (i < st.length) := ⟨by rw [HL1.out]; exact hlt⟩
      obtain ⟨ad, rfl, _⟩ := C_cells HC1.out (by omega)
      have kd := Kd.foot_int (Kd.C_below HC1.out HM.out.bel) (i : Int) (by omega) (by omega)
      rw [show rd st (i : Int) = st.getD i 0 by simp [rd], Int.toNat_natCast] at kd
      obtain ⟨s, hs⟩ : ∃ s, s = st.getD i 0 := ⟨_, rfl⟩
      have HS := Aside0.mk hs
      rw [← hs] at kd
      clear hs
      obtain ⟨p, hp⟩ : ∃ p, p = (runS st i).next := ⟨_, rfl⟩
      have hu := HV.out
      rw [← hp] at hu
      subst hu
      have HNX := Aside0.mk hp.symm
      have hpn := HF.out.next
      rw [← hp] at hpn
      clear HV hp
      by_cases hok : okS n s (runS st i)
      · have HOK := Aside0.mk hok
        obtain ⟨hs0, hs1, hs3⟩ := hok
        rw [HNX.out] at hs3
        have HTL : Aside0 ((runS st i).taken.length ≤ i) := ⟨HF.out.tak⟩
        by_cases hz : s = 0
        · subst hz
          have hpl := hs3 rfl
          clear hs3 hs0 hs1
          have HLL : Aside0 ((leftI (runS st i)).length ≤ p) := ⟨by unfold leftI; rw [List.length_map, ← HNX.out]; exact HF.out.len⟩
          go_wp2_with (first
            | (at_builtin; refine wpList_lst_append (w0 := w) w.heap.size g6 rfl (.tmp 67) (.tmp 69) 22 3 rfl Try.underlying22 info3 _ (leftI (runS st i)) (p : Int) rfl rfl HM.out.lf HM.out.b6 HM.out.bel HM.out.bel.size (by have := HLL.out; omega) ?_; intro v8 w8 g8 hL hor hkp hb8 hsz; have HM8 := Aside0.mk (HM.out.push HLT.out HS.out.symm HNX.out hpl hL hor hkp hb8); clear hL hor hkp hb8 hsz)
            | fail)
          have HN2 : Aside0 ((runS st (i + 1)).next = p + 1) := ⟨by rw [runS_succ st i HLT.out, ← HS.out]; unfold stp; rw [if_pos rfl]; show (runS st i).next + 1 = _; rw [HNX.out]⟩
          go_roundw
          case rel => exact ⟨i + 1, g5, g8, by go_num, by omega, ⟨by rw [HN2.out]; rfl⟩, HM8⟩
          case measure => simp [intOf]; omega
        by_cases hz1 : s = 1
        · subst hz1
          clear hs3 hs0 hs1 hz
          rcases List.eq_nil_or_concat (runS st i).left with hl | ⟨t, j, hl⟩
          · have HRN := Aside0.mk (run_none HLT.out (by rw [← HS.out]; omega) hl)
            have hl6 := HM.out.lf
            rw [show leftI (runS st i) = [] by unfold leftI; rw [hl]; rfl] at hl6
            obtain ⟨off6, c6, rfl, _, _⟩ := hl6.shape
            have HL6 := Aside0.mk hl6
            clear hl6 hl
            go_wp2_with (first
              | (at_builtin; refine wpList_lst_append (w0 := w) w.heap.size g5 rfl (.tmp 105) (.tmp 107) 22 3 rfl Try.underlying22 info3 _ (runS st i).taken (-1) rfl rfl HM.out.tk HM.out.b5 HM.out.bel HM.out.bel.size (by have := HTL.out; omega) ?_; intro v8 w8 g8 hL hor hkp hb8 hsz; have HM8 := Aside0.mk (HM.out.took HLT.out (by rw [← HS.out]; exact HOK.out) (by rw [HRN.out]) (by rw [HRN.out]; exact HL6.out) hL hor hkp hb8); clear hL hor hkp hb8 hsz)
              | fail)
            go_roundw
            case rel => exact ⟨i + 1, g8, g6, by go_num, by omega, ⟨by rw [HRN.out]; first | rfl | rw [HNX.out]⟩, HM8⟩
            case measure => simp [intOf]; omega
          · rw [List.concat_eq_append] at hl
            have HRN := Aside0.mk (run_pop HLT.out HS.out.symm hl)
            have hl6 := HM.out.lf
            rw [show leftI (runS st i) = t.map (fun j : Nat => (j : Int)) ++ [(j : Int)] by unfold leftI; rw [hl, List.map_append]; rfl] at hl6
            have hm10 : t.length ≤ 10 := by have h1 := HF.out.len; have h2 := HF.out.next; rw [hl, List.length_append] at h1; omega
            obtain ⟨off6, c6, rfl, hc6, hk6⟩ := hl6.shape
  
            rw [List.length_append, List.length_map] at hl6 hc6 hk6
            have kj := hk6 t.length (by simp)
            rw [show (t.map (fun j : Nat => (j : Int)) ++ [(j : Int)]).getD t.length 0 = (j : Int) by simp [List.getD_eq_getElem?_getD]] at kj
            have HL6 : Aside0 (Lst wr g6 (.slice (some ⟨g6, off6, none⟩) t.length c6) (leftI (runS st (i + 1)))) := ⟨by rw [HRN.out]; exact hl6.front _ (by simp)⟩
            clear hl6 hk6 hl
            rw [List.length_append, List.length_map]
            simp only [List.length_singleton] at hc6 ⊢
            generalize hm6 : t.length = m6 at kj HL6 hc6 hm10 ⊢
            go_wp2_with (first
              | (at_builtin; refine wpList_lst_append (w0 := w) w.heap.size g5 rfl (.tmp 105) (.tmp 107) 22 3 rfl Try.underlying22 info3 _ (runS st i).taken (j : Int) rfl rfl HM.out.tk HM.out.b5 HM.out.bel HM.out.bel.size (by have := HTL.out; omega) ?_; intro v8 w8 g8 hL hor hkp hb8 hsz; have HM8 := Aside0.mk (HM.out.took HLT.out (by rw [← HS.out]; exact HOK.out) (by rw [HRN.out]) HL6.out hL hor hkp hb8); clear hL hor hkp hb8 hsz)
              | fail)
            go_roundw
            case rel => exact ⟨i + 1, g8, g6, by go_num, by omega, ⟨by rw [HRN.out]; first | rfl | rw [HNX.out]⟩, HM8⟩
            case measure => simp [intOf]; omega

        · obtain rfl : s = 2 := by omega
          clear hs3 hs0 hs1 hz hz1
          rcases hll : (runS st i).left with _ | ⟨j, t⟩
          · have hl := hll
            clear hll
            have HRN := Aside0.mk (run_none HLT.out (by rw [← HS.out]; omega) hl)
            have hl6 := HM.out.lf
            rw [show leftI (runS st i) = [] by unfold leftI; rw [hl]; rfl] at hl6
            obtain ⟨off6, c6, rfl, _, _⟩ := hl6.shape
            have HL6 := Aside0.mk hl6
            clear hl6 hl
            go_wp2_with (first
              | (at_builtin; refine wpList_lst_append (w0 := w) w.heap.size g5 rfl (.tmp 105) (.tmp 107) 22 3 rfl Try.underlying22 info3 _ (runS st i).taken (-1) rfl rfl HM.out.tk HM.out.b5 HM.out.bel HM.out.bel.size (by have := HTL.out; omega) ?_; intro v8 w8 g8 hL hor hkp hb8 hsz; have HM8 := Aside0.mk (HM.out.took HLT.out (by rw [← HS.out]; exact HOK.out) (by rw [HRN.out]) (by rw [HRN.out]; exact HL6.out) hL hor hkp hb8); clear hL hor hkp hb8 hsz)
              | fail)
            go_roundw
            case rel => exact ⟨i + 1, g8, g6, by go_num, by omega, ⟨by rw [HRN.out]; first | rfl | rw [HNX.out]⟩, HM8⟩
            case measure => simp [intOf]; omega

          · have hl := hll
            clear hll
            have HRN := Aside0.mk (run_shift HLT.out HS.out.symm hl)
            have hl6 := HM.out.lf
            rw [show leftI (runS st i) = (j : Int) :: t.map (fun j : Nat => (j : Int)) by unfold leftI; rw [hl]; rfl] at hl6
            obtain ⟨off6, c6, rfl, hc6, hk6⟩ := hl6.shape
            rw [List.length_cons, List.length_map] at hl6 hc6 hk6
            have kj := hk6 0 (by omega)
            have HL6 : Aside0 (Lst wr g6 (.slice (if c6 = 1 then some ⟨g6, off6, none⟩ else some ⟨g6, off6 + 1, none⟩) t.length (c6 - 1)) (leftI (runS st (i + 1)))) := ⟨by rw [HRN.out]; exact hl6.tail _ (by simp) _ rfl⟩
            clear hl6 hk6 hl
            rw [List.length_cons, List.length_map]
            simp only [List.getD_cons_zero, Nat.add_zero] at kj
            generalize hm6 : t.length = m6 at kj HL6 hc6 ⊢
            go_wp2_with (first
              | (at_builtin; refine wpList_lst_append (w0 := w) w.heap.size g5 rfl (.tmp 105) (.tmp 107) 22 3 rfl Try.underlying22 info3 _ (runS st i).taken (j : Int) rfl rfl HM.out.tk HM.out.b5 HM.out.bel HM.out.bel.size (by have := HTL.out; omega) ?_; intro v8 w8 g8 hL hor hkp hb8 hsz; have HM8 := Aside0.mk (HM.out.took HLT.out (by rw [← HS.out]; exact HOK.out) (by rw [HRN.out]) HL6.out hL hor hkp hb8); clear hL hor hkp hb8 hsz)
              | fail)
            go_roundw
            case rel => exact ⟨i + 1, g8, g6, by go_num, by omega, ⟨by rw [HRN.out]; first | rfl | rw [HNX.out]⟩, HM8⟩
            case measure => simp [intOf]; omega

      · have hno := okS_not hok
        rw [HNX.out] at hno
        have HBW := Aside0.mk HM.out.bel
        clear hok
        rcases hno with (hneg | hhi) | ⟨rfl, hnx⟩
        · go_wp2_with fail
          exact bodyPost_ret (results_tmp rfl _ _ _) rfl ⟨rfl, HBW.out⟩
        · have hneg : ¬ s < 0 := by omega
          go_wp2_with fail
          exact bodyPost_ret (results_tmp rfl _ _ _) rfl ⟨rfl, HBW.out⟩
        · go_wp2_with fail
          exact bodyPost_ret (results_tmp rfl _ _ _) rfl ⟨rfl, HBW.out⟩
    · obtain rfl : i = n1 := by omega
      have HF := Aside0.mk (fine n st i (by have := HL1.out; omega) HM.out.ok)
      obtain ⟨σ, hσ⟩ : ∃ σ, σ = runS st i := ⟨_, rfl⟩
      have hM := HM.out
      have htk := hM.tk
      have hlf := hM.lf
      have HPU : Aside0 (∀ w2 : World, Below wr.heap.size wr w2 → Calls Try.prog 7 #[.slice A1 i c1, .slice A2 n c2] w2 (IsPurse w2 cl σ)) := ⟨fun w2 hb => by
        have hb2 := below_step hM.bel hb
        rw [hσ]
        exact purse_calls A1 i c1 st A2 n c2 cl w2 HL1.out hn40 (Kd.C_below HC1.out hb2) HL2.out (Kd.C_below HC2.out hb2) HCB.out hM.ok⟩
      rw [← hσ] at HF htk hlf
      have HBW := Aside0.mk hM.bel
      have HC2r := Aside0.mk (Kd.C_below HC2.out hM.bel)
      have HFT := Aside0.mk (fit_all HCB.out HF.out HL2.out.symm)
      have hlen : σ.left.length ≤ 10 := by have h1 := HF.out.len; have h2 := HF.out.next; omega
      have htl : σ.taken.length ≤ 40 := by have := HF.out.tak; omega
      have HLOW : Aside0 (∀ j ∈ σ.left, j < n) := ⟨fun j hj => by have h1 := HF.out.low j hj; have h2 := HF.out.next; omega⟩
      clear hM HM HV hσ HF HL1
      have HLL : Aside0 ((leftI σ).length = σ.left.length) := ⟨by unfold leftI; rw [List.length_map]⟩
      have HLG : Aside0 (∀ k (h : k < σ.left.length), (leftI σ).getD k 0 = ((σ.left[k] : Nat) : Int)) := ⟨fun k h => by unfold leftI; simp [List.getD_eq_getElem?_getD, List.getElem?_eq_getElem h]⟩
      obtain ⟨off5, d5, rfl, _, hk5⟩ := htk.shape
      obtain ⟨off6, d6, rfl, _, hk6⟩ := hlf.shape
      have HK5 := Aside0.mk hk5
      have HK6 := Aside0.mk hk6
      clear hk5 hk6
      rw [HLL.out] at HK6 hlf ⊢
      have HLT5 := Aside0.mk htk.lt
      have HLT6 := Aside0.mk hlf.lt
      clear htk hlf
      obtain ⟨w9, hw9⟩ : ∃ w9, w9 = wr := ⟨_, rfl⟩
      subst hw9
      obtain ⟨m, hm⟩ : ∃ m, m = σ.left.length := ⟨_, rfl⟩
      have HME := Aside0.mk hm
      rw [← hm] at hlen HK6 ⊢
      clear hm
      have HB0 := Aside0.mk (Below.refl w9.heap.size w9)
      go_wp2_with fail
      go_loopw [11, 12, 112] (fun v11 v12 v112 w' => ∃ k : Nat, v112 = .int .i64 k ∧ k ≤ m ∧ Aside0 (v11 = .int .i64 (sumV ((σ.left.take k).map (cnAt cl)))) ∧ Aside0 (v12 = .int .i64 (sumA ((σ.left.take k).map (cnAt cl)))) ∧ Aside0 (Below w9.heap.size w9 w')) (fun _ _ v112 _ => m - (intOf v112).toNat)
      case atStart => exact ⟨0, rfl, Nat.zero_le _, ⟨rfl⟩, ⟨rfl⟩, HB0⟩
      case round =>
        obtain ⟨k, rfl, hk, HV11, HV12, HB⟩ := hrel
        by_cases hkm : k < m
        · have hkl : k < σ.left.length := by have := HME.out; omega
          have hj := HLOW.out _ (List.getElem_mem hkl)
          have kd := pw_cell_below HB.out (HK6.out k hkm)
          rw [HLG.out k hkl] at kd
          have HSN : Aside0 ((σ.left.take (k + 1)).map (cnAt cl) = (σ.left.take k).map (cnAt cl) ++ [cnAt cl σ.left[k]]) := ⟨by rw [List.take_succ_eq_append_getElem hkl, List.map_append]; rfl⟩
          have hft : ∀ y ∈ (σ.left.take k).map (cnAt cl), fitC y := fun y hy => HFT.out y (by
            obtain ⟨z, hz, rfl⟩ := List.mem_map.1 hy
            exact List.mem_map.2 ⟨z, List.mem_of_mem_take hz, rfl⟩)
          have HBD := Aside0.mk (sum_bd _ hft)
          have HFK := Aside0.mk (HFT.out _ (List.mem_map.2 ⟨_, List.getElem_mem hkl, rfl⟩))
          generalize σ.left[k] = j at hj kd HSN HFK
          obtain ⟨ad2, rfl, k0, k1⟩ := at_T28 (Kd.C_below HC2r.out HB.out) (j : Int) (by omega) (by omega)
          have hcn : cnAt cl j = ((rd_T28 cl (j : Int)).f0, (rd_T28 cl (j : Int)).f1, (j : Int)) := by simp [cnAt, rd_T28]
          rw [Int.toNat_natCast] at k0 k1
          rw [hcn] at HSN HFK
          have h11 := HV11.out
          have h12 := HV12.out
          have HLK : Aside0 (((σ.left.take k).map (cnAt cl)).length ≤ 10) := ⟨by rw [List.length_map, List.length_take]; omega⟩
          generalize (σ.left.take k).map (cnAt cl) = ls at h11 h12 HSN HBD HLK
          generalize (rd_T28 cl (j : Int)).f0 = v at k0 HSN HFK
          generalize (rd_T28 cl (j : Int)).f1 = c at k1 HSN HFK
          clear HV11 HV12 hcn hft
          subst h11 h12
          go_wp2_with fail
          go_quiet (fail)
          go_wp2_with fail
          go_roundw
          case rel =>
            have hbd := HBD.out
            have hln := HLK.out
            have hfk := HFK.out
            unfold fitC at hfk
            simp only at hfk
            have hm0 : 0 ≤ c * v := Int.mul_nonneg hfk.2.2.1 hfk.1
            have hm1 : c * v ≤ 10000 * 1000000 := Int.mul_le_mul hfk.2.2.2 hfk.2.1 hfk.1 (by omega)
            have hcm : v * c = c * v := Int.mul_comm _ _
            refine ⟨k + 1, by go_num, by omega, ⟨?_⟩, ⟨?_⟩, ⟨by repeat (first | (with_reducible exact HB.out) | apply pw_below_drewN | apply below_drew1)⟩⟩
            · rw [HSN.out, sumV_snoc]
              first | rfl | rw [w64s (x := sumV ls + v) (by omega) (by omega)]
            · rw [HSN.out, sumA_snoc]
              simp only [hcm]
              rw [w64s (x := c * v) (by omega) (by omega), w64s (x := sumA ls + c * v) (by omega) (by omega)]
          case measure => simp [intOf]; omega
        · obtain rfl : k = m := by omega
          have h11 := HV11.out
          have h12 := HV12.out
          rw [List.take_of_length_le (by rw [HME.out]; exact Nat.le_refl _)] at h11 h12
          have HPW := Aside0.mk (HPU.out wr HB.out)
          unfold IsPurse at HPW
          rw [← HME.out] at HPW
          have HK5a : Aside0 (∀ j, j < σ.taken.length → wr.cell? ⟨g5, off5 + j, none⟩ = some (.int .i64 (σ.taken.getD j 0))) := ⟨fun j hj => pw_cell_below HB.out (HK5.out j hj)⟩
          have HK6a : Aside0 (∀ j, j < k → wr.cell? ⟨g6, off6 + j, none⟩ = some (.int .i64 ((leftI σ).getD j 0))) := ⟨fun j hj => pw_cell_below HB.out (HK6.out j hj)⟩
          have HBX := Aside0.mk (below_step HBW.out HB.out)
          have HTI := Aside0.mk (Eq.refl (leftI σ))
          generalize sumV (σ.left.map (cnAt cl)) = sv at h11 HPW
          generalize sumA (σ.left.map (cnAt cl)) = sa at h12 HPW
          generalize leftI σ = lo at HPW HK6a
          generalize σ.taken = tk at HPW HK5a htl ⊢
          obtain ⟨tl, htq⟩ : ∃ tl, tl = tk.length := ⟨_, rfl⟩
          rw [← htq] at HPW HK5a htl ⊢
          clear htq HV11 HV12 HPU HFT HLOW HLG HLL HME HK5 HK6 HLT5 HLT6 HTI HB HB0 HBW
          subst h11 h12
          go_wp2_with (first
            | (go_at_call 7; refine HPW.out.mono ?_; rintro e7 w7 ⟨A3, c3, A4, c4, rfl, hC3, hC4, hb7⟩; have HC3 := Aside0.mk hC3; have HC4 := Aside0.mk hC4; have HB7 := Aside0.mk (below_step HBX.out hb7); have HK5b : Aside0 (∀ j, j < tl → w7.cell? ⟨g5, off5 + j, none⟩ = some (.int .i64 (tk.getD j 0))) := ⟨fun j hj => pw_cell_below hb7 (HK5a.out j hj)⟩; have HK6b : Aside0 (∀ j, j < k → w7.cell? ⟨g6, off6 + j, none⟩ = some (.int .i64 (lo.getD j 0))) := ⟨fun j hj => pw_cell_below hb7 (HK6a.out j hj)⟩; clear hC3 hC4 hb7)
            | fail)
          have HB80 := Aside0.mk (Below.refl w7.heap.size w7)
          go_loopw [174] (fun v174 w' => ∃ q : Nat, v174 = .int .i64 q ∧ q ≤ tl ∧ Aside0 (Below w7.heap.size w7 w')) (fun v174 _ => tl - (intOf v174).toNat)
          case atStart => exact ⟨0, rfl, Nat.zero_le _, HB80⟩
          case round =>
            obtain ⟨q, rfl, hq, HB8⟩ := hrel
            by_cases hqm : q < tl
            · have kd5 := pw_cell_below HB8.out (HK5b.out q hqm)
              obtain ⟨ad3, rfl, _⟩ := C_cells HC3.out (by omega)
              have kd := Kd.foot_int (Kd.C_below HC3.out HB8.out) (q : Int) (by omega) (by omega)
              rw [show rd tk (q : Int) = tk.getD q 0 by simp [rd], Int.toNat_natCast] at kd
              generalize tk.getD q 0 = x at kd kd5
              go_wp2_with fail
              go_quiet (fail)
              go_wp2_with fail
              go_roundw
              case rel => exact ⟨q + 1, by go_num, by omega, ⟨by repeat (first | (with_reducible exact HB8.out) | apply pw_below_drewN | apply below_drew1)⟩⟩
              case measure => simp [intOf]; omega
            · obtain rfl : q = tl := by omega
              have HK6c : Aside0 (∀ j, j < k → wr.cell? ⟨g6, off6 + j, none⟩ = some (.int .i64 (lo.getD j 0))) := ⟨fun j hj => pw_cell_below HB8.out (HK6b.out j hj)⟩
              have HC4c := Aside0.mk (Kd.C_below HC4.out HB8.out)
              have HB9 := Aside0.mk (below_step HB7.out HB8.out)
              clear HK6b HC4 HC3 HB8 HB80 HB7 HK5b HK6a HK5a HC1 HC2 HC2r HBX HPW HG
              obtain ⟨wz, hwz⟩ : ∃ wz, wz = wr := ⟨_, rfl⟩
              subst hwz
              have HB90 := Aside0.mk (Below.refl wz.heap.size wz)
              go_wp2_with fail
              go_loopw [189] (fun v189 w' => ∃ q2 : Nat, v189 = .int .i64 q2 ∧ q2 ≤ k ∧ Aside0 (Below wz.heap.size wz w')) (fun v189 _ => k - (intOf v189).toNat)
              case atStart => exact ⟨0, rfl, Nat.zero_le _, HB90⟩
              case round =>
                obtain ⟨q2, rfl, hq2, HBA⟩ := hrel
                by_cases hqk : q2 < k
                · have kd6 := pw_cell_below HBA.out (HK6c.out q2 hqk)
                  obtain ⟨ad4, rfl, _⟩ := C_cells HC4c.out (by omega)
                  have kd := Kd.foot_int (Kd.C_below HC4c.out HBA.out) (q2 : Int) (by omega) (by omega)
                  rw [show rd lo (q2 : Int) = lo.getD q2 0 by simp [rd], Int.toNat_natCast] at kd
                  generalize lo.getD q2 0 = x at kd kd6
                  go_wp2_with fail
                  go_quiet (fail)
                  go_wp2_with fail
                  go_roundw
                  case rel => exact ⟨q2 + 1, by go_num, by omega, ⟨by repeat (first | (with_reducible exact HBA.out) | apply pw_below_drewN | apply below_drew1)⟩⟩
                  case measure => simp [intOf]; omega
                · obtain rfl : q2 = k := by omega
                  go_wp2_with fail
                  exact bodyPost_ret (results_tmp rfl _ _ _) rfl ⟨rfl, below_step HB9.out HBA.out⟩
end Go.Proofs.Ytkmcoaidlnaliaa.Purse
