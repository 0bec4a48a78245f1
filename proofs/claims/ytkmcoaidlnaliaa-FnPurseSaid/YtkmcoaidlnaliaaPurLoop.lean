/-
  impl.Purse's own walk.
-/
import Derived.Test.YtkmcoaidlnaliaaPurWalk
namespace Go.Proofs.Ytkmcoaidlnaliaa.Purse
open Go.RowKit Go.Proofs.Ytkmcoaidlnaliaa.Hand Go.Proofs.Ytkmcoaidlnaliaa.PFnPurse Go.Proofs.YtkmcoaidlnaliaaW.PrintWords Go.Proofs.YtkmcoaidlnaliaaW.PrintLast Go.Proofs.YtkmcoaidlnaliaaW.PrintMore

theorem atField (v c a : Int) : ∀ w, Sem.run Try.prog (Instr.field 44 (.agg #[.int .i64 v, .int .i64 c, .int .i64 a]) 1) w = .ok (.int .i64 a) w := fun w => by kernel_rfl
theorem results_tmp5 {fn : Func} {a b c d e : Tmp} (h : fn.results = #[.tmp a, .tmp b, .tmp c, .tmp d, .tmp e]) (tmps : Array Value) (P : Program) (w : World) :
    (results fn tmps).run P w = .ok (.tuple #[tmps.getD a undef, tmps.getD b undef, tmps.getD c undef, tmps.getD d undef, tmps.getD e undef]) w := by
  simp [results, h]
def leftI (σ : St) : List Int := σ.left.map fun j : Nat => (j : Int)
def IsPurse (w : World) (cl : List S28) (σ : St) (en : Ending) (w' : World) : Prop :=
  ∃ A1 c1 A2 c2, en = .returned (.tuple #[.slice A1 σ.taken.length c1, .slice A2 σ.left.length c2, .int .i64 (sumV (σ.left.map (cnAt cl))), .int .i64 (sumA (σ.left.map (cnAt cl))), .bool true]) ∧
    Kd.C (Kd.int .i64) w' A1 σ.taken.length σ.taken ∧ Kd.C (Kd.int .i64) w' A2 σ.left.length (leftI σ) ∧ Below w.heap.size w w'

set_option maxRecDepth 100000 in
set_option maxHeartbeats 16000000 in
theorem purse_calls (A1 : Option Addr) (n1 c1 : Nat) (st : List Int) (A2 : Option Addr) (n c2 : Nat) (cl : List S28) (w : World) (h1 : st.length = n1) (hn1 : n1 ≤ 40) (hC1 : Kd.C (Kd.int .i64) w A1 n1 st) (h2 : cl.length = n) (hC2 : Kd.C k28 w A2 n cl) (hc : coinsB cl = true) (hok : AllOk n st n1) :
    Calls Try.prog 7 #[.slice A1 n1 c1, .slice A2 n c2] w (IsPurse w cl (runS st n1)) := by
  have hn10 : n ≤ 10 := by
    unfold coinsB at hc
    rw [Bool.and_eq_true] at hc
    have := of_decide_eq_true hc.2
    omega
  have HC1 := Aside0.mk hC1
  have HC2 := Aside0.mk hC2
  have HOK := Aside0.mk hok
  have HCB := Aside0.mk hc
  have HL1 := Aside0.mk h1
  have HL2 := Aside0.mk h2
  have HFI : Aside0 (∀ i, i ≤ n1 → Fine n i (runS st i)) := ⟨fun i hi => fine n st i (by omega) (fun j hj => hok j (by omega))⟩
  have HST : Aside0 (∀ i, i < n1 → runS st (i + 1) = stp (st.getD i 0) (runS st i)) := ⟨fun i hi => runS_succ st i (by omega)⟩
  clear hC1 hC2 hok hc h1 h2
  go_enter Try.func7, Try.ntmps7
  go_wp2_with (first
    | (go_at_call 10; refine (newSet w).mono ?_; rintro e1 w1 hq; unfold IsNew at hq; obtain ⟨C, L, rfl, hI, hb⟩ := hq; have HM0 : Aside0 (Mid w w1 C L [] cl (runS st 0) (.slice none 0 0)) := ⟨⟨hI, Kd.R_nil _ _ _ _ _, fun k hk => by simp [Value.ownBlock] at hk, hb⟩⟩; clear hI hb)
    | fail)
  go_loopw [10, 11, 25] (fun v10 v11 v25 wr => ∃ (i : Nat) (bs : List Nat), v25 = .int .i64 i ∧ i ≤ n1 ∧ Aside0 (v10 = .int .i64 ((runS st i).next : Nat)) ∧ Aside0 (Mid w wr C L bs cl (runS st i) v11)) (fun _ _ v25 _ => n1 - (intOf v25).toNat)
  case atStart => exact ⟨0, [], rfl, Nat.zero_le _, ⟨rfl⟩, HM0⟩
  case round =>
    obtain ⟨i, bs, rfl, hi, HV, HM⟩ := hrel
    clear HM0
    by_cases hlt : i < n1
    · have HF := Aside0.mk (HFI.out i hi)
      have HS := Aside0.mk (HST.out i hlt)
      have hok := HOK.out i hlt
      obtain ⟨ad, rfl, _⟩ := C_cells HC1.out (by omega)
      have kd := Kd.foot_int (Kd.C_below HC1.out HM.out.bel) (i : Int) (by omega) (by omega)
      rw [show rd st (i : Int) = st.getD i 0 by simp [rd], Int.toNat_natCast] at kd
      generalize st.getD i 0 = s at kd HS hok
      generalize runS st i = σ at HF HS hok HM HV
      obtain ⟨p, hp⟩ : ∃ p, p = σ.next := ⟨_, rfl⟩
      have hu := HV.out
      rw [← hp] at hu
      subst hu
      have HNX := Aside0.mk hp.symm
      have hpn := HF.out.next
      have htl := HF.out.tak
      have hlow := HM.out.inv.mem_lt
      rw [← hp] at hpn
      have HCI := Aside0.mk (Kd.C_below HC2.out HM.out.bel)
      obtain ⟨tl, htl0⟩ : ∃ tl, tl = σ.taken.length := ⟨_, rfl⟩
      rw [← htl0] at htl
      have htl40 : tl ≤ 40 := by omega
      obtain ⟨hs0, hs1, hs3⟩ := hok
      rw [← hp] at hs3
      clear htl HV hp hlow
      have htl : σ.taken.length = tl := htl0.symm
      clear htl0
      by_cases hz : s = 0
      · subst hz
        have hpl := hs3 rfl
        clear hs3 hs0 hs1 htl
        obtain ⟨ad2, rfl, k0, k1⟩ := at_T28 HCI.out (p : Int) (by omega) (by omega)
        have hcn : cnAt cl p = ((rd_T28 cl (p : Int)).f0, (rd_T28 cl (p : Int)).f1, (p : Int)) := by simp [cnAt, rd_T28]
        obtain ⟨f0, f1, f2, f3⟩ := cn_fit HCB.out p (by have := HL2.out; omega)
        rw [hcn] at f0 f1 f2 f3
        rw [Int.toNat_natCast] at k0 k1
        have HPS : Aside0 (∀ w2 : World, Below wr.heap.size wr w2 → Calls Try.prog 12 #[P C, coinV (rd_T28 cl (p : Int)).f0 (rd_T28 cl (p : Int)).f1 p] w2 (IsMid w C L cl (runS st (i + 1)) u11)) := ⟨fun w2 hb => by
          have h := push_step (HM.out.below hb) HCB.out HF.out HL2.out.symm hn10 (by rw [HNX.out]; exact hpl)
          rw [HNX.out, hcn] at h
          rw [HS.out]
          exact h⟩
        have HNX2 : Aside0 ((runS st (i + 1)).next = p + 1) := ⟨by rw [HS.out]; unfold stp; rw [if_pos rfl]; show σ.next + 1 = _; rw [HNX.out]⟩
        clear hcn
        generalize (rd_T28 cl (p : Int)).f0 = v at k0 HPS f0 f1
        generalize (rd_T28 cl (p : Int)).f1 = c at k1 HPS f2 f3
        simp only at f0 f1 f2 f3
        clear HCI
        go_wp2_with (first
          | (go_at_call 11; (with_reducible refine (far_calls v 1000000 (by omega) (by omega) (by omega) (by omega) _).mono ?_); rintro e2 w2 ⟨rfl, hb2⟩; have HB2 := Aside0.mk hb2; have k1b := pw_cell_below hb2 k1; have k0b := pw_cell_below hb2 k0; clear hb2)
          | (go_at_call 11; (with_reducible refine (far_calls c 10000 (by omega) (by omega) (by omega) (by omega) _).mono ?_); rintro e3 w3 ⟨rfl, hb3⟩; have HB3 := Aside0.mk (below_step HB2.out hb3); have k1c := pw_cell_below hb3 k1b; have k0c := pw_cell_below hb3 k0b; clear hb3)
          | (go_at_call 12; refine (HPS.out w3 HB3.out).mono ?_; rintro e4 w4 hq; unfold IsMid at hq; obtain ⟨rfl, bs4, hm⟩ := hq; have HM4 := Aside0.mk hm; clear hm)
          | fail)
        go_roundw
        case rel => exact ⟨i + 1, bs4, by go_num, by omega, ⟨by rw [HNX2.out]; rfl⟩, HM4⟩
        case measure => simp [intOf]; omega
      · have hs2 : s = 1 ∨ s = 2 := by omega
        clear hs3 hs0 hs1 hz
        rcases hs2 with rfl | rfl
        · have HT0 : Aside0 (Calls Try.prog 13 #[P C] wr (IsTaken w C L cl σ (stp 1 σ) u11)) := ⟨pop_step HM.out HCB.out HF.out HL2.out.symm hn10⟩
          have HTL : Aside0 (σ.taken.length = tl) := ⟨htl⟩
          clear htl
          have HCASE : Aside0 (Calls Try.prog 13 #[P C] wr fun en w' => (en = .returned .nilIface ∧ ∃ bs5, Aside0 ((stp 1 σ).taken = σ.taken ++ [-1]) ∧ Aside0 ((stp 1 σ).next = σ.next) ∧ Aside0 (Inv w' w.heap.size C L bs5 ((stp 1 σ).left.map (cnAt cl))) ∧ Aside0 ((Kd.int .i64).R 3 w' w.heap.size (fun _ => True) u11 σ.taken) ∧ Aside0 (Apart u11 (C :: L :: bs5)) ∧ Aside0 (Below w.heap.size w w')) ∨ ∃ v c j bs5, en = .returned (coinV v c j) ∧ Aside0 ((stp 1 σ).taken = σ.taken ++ [j]) ∧ Aside0 ((stp 1 σ).next = σ.next) ∧ Aside0 (Inv w' w.heap.size C L bs5 ((stp 1 σ).left.map (cnAt cl))) ∧ Aside0 ((Kd.int .i64).R 3 w' w.heap.size (fun _ => True) u11 σ.taken) ∧ Aside0 (Apart u11 (C :: L :: bs5)) ∧ Aside0 (Below w.heap.size w w')) := ⟨HT0.out.mono fun en w' ht => by
            unfold IsTaken at ht
            obtain ⟨r, a, bs5, e1, hgot, t1, t2, t3, t4, t5, t6⟩ := ht
            rcases hgot with ⟨rfl, rfl⟩ | ⟨j, rfl, rfl⟩
            · exact .inl ⟨e1, bs5, ⟨t1⟩, ⟨t2⟩, ⟨t3⟩, ⟨t4⟩, ⟨t5⟩, ⟨t6⟩⟩
            · exact .inr ⟨_, _, _, bs5, e1, ⟨t1⟩, ⟨t2⟩, ⟨t3⟩, ⟨t4⟩, ⟨t5⟩, ⟨t6⟩⟩⟩
          clear HT0 HM HCI
          go_wp2_with fail
          refine HCASE.out.mono ?_
          rintro e5 w5 (⟨rfl, bs5, HT5, HN5, HI5, HR5, HA5, HB5⟩ | ⟨v, c, j, bs5, rfl, HT5, HN5, HI5, HR5, HA5, HB5⟩)
          · go_wp2_with (first | (at_builtin; refine Kd.R_append (Kd.int .i64) (w0 := w) w.heap.size rfl (.tmp 76) (.tmp 78) 22 3 (.int .i64 0) 8 rfl Try.underlying22 info3 rfl (by decide) (by decide) _ _ (-1 : Int) [.int .i64 (-1 : Int)] (fun _ => True) (fun _ => False) rfl rfl rfl (fun _ hk => hk.elim) (fun _ _ => trivial) HR5.out HB5.out HB5.out.size (by rw [HTL.out]; omega) ?_; intro v6 w6 hR6 hb6 hg6 hat6; obtain ⟨q1, q2⟩ := behind HI5.out HA5.out hg6 hat6; have HM6 : Aside0 (Mid w w6 C L bs5 cl (runS st (i + 1)) v6) := ⟨⟨(by rw [HS.out]; exact q1), (by rw [HS.out, HT5.out]; exact hR6), q2, hb6⟩⟩; clear hR6 hb6 hg6 hat6 q1 q2) | fail)
            go_roundw
            case rel => exact ⟨i + 1, bs5, by go_num, by omega, ⟨by rw [HS.out, HN5.out, HNX.out]⟩, HM6⟩
            case measure => simp [intOf]; omega
          · have hta := asNum v c j
            have hfa := atField v c j
            go_wp2_with (first | (at_builtin; refine Kd.R_append (Kd.int .i64) (w0 := w) w.heap.size rfl (.tmp 76) (.tmp 78) 22 3 (.int .i64 0) 8 rfl Try.underlying22 info3 rfl (by decide) (by decide) _ _ j [.int .i64 j] (fun _ => True) (fun _ => False) rfl rfl rfl (fun _ hk => hk.elim) (fun _ _ => trivial) HR5.out HB5.out HB5.out.size (by rw [HTL.out]; omega) ?_; intro v6 w6 hR6 hb6 hg6 hat6; obtain ⟨q1, q2⟩ := behind HI5.out HA5.out hg6 hat6; have HM6 : Aside0 (Mid w w6 C L bs5 cl (runS st (i + 1)) v6) := ⟨⟨(by rw [HS.out]; exact q1), (by rw [HS.out, HT5.out]; exact hR6), q2, hb6⟩⟩; clear hR6 hb6 hg6 hat6 q1 q2) | fail)
            go_roundw
            case rel => exact ⟨i + 1, bs5, by go_num, by omega, ⟨by rw [HS.out, HN5.out, HNX.out]⟩, HM6⟩
            case measure => simp [intOf]; omega
        · have HT0 : Aside0 (Calls Try.prog 14 #[P C] wr (IsTaken w C L cl σ (stp 2 σ) u11)) := ⟨shift_step HM.out HCB.out HF.out HL2.out.symm hn10⟩
          have HTL : Aside0 (σ.taken.length = tl) := ⟨htl⟩
          clear htl
          have HCASE : Aside0 (Calls Try.prog 14 #[P C] wr fun en w' => (en = .returned .nilIface ∧ ∃ bs5, Aside0 ((stp 2 σ).taken = σ.taken ++ [-1]) ∧ Aside0 ((stp 2 σ).next = σ.next) ∧ Aside0 (Inv w' w.heap.size C L bs5 ((stp 2 σ).left.map (cnAt cl))) ∧ Aside0 ((Kd.int .i64).R 3 w' w.heap.size (fun _ => True) u11 σ.taken) ∧ Aside0 (Apart u11 (C :: L :: bs5)) ∧ Aside0 (Below w.heap.size w w')) ∨ ∃ v c j bs5, en = .returned (coinV v c j) ∧ Aside0 ((stp 2 σ).taken = σ.taken ++ [j]) ∧ Aside0 ((stp 2 σ).next = σ.next) ∧ Aside0 (Inv w' w.heap.size C L bs5 ((stp 2 σ).left.map (cnAt cl))) ∧ Aside0 ((Kd.int .i64).R 3 w' w.heap.size (fun _ => True) u11 σ.taken) ∧ Aside0 (Apart u11 (C :: L :: bs5)) ∧ Aside0 (Below w.heap.size w w')) := ⟨HT0.out.mono fun en w' ht => by
            unfold IsTaken at ht
            obtain ⟨r, a, bs5, e1, hgot, t1, t2, t3, t4, t5, t6⟩ := ht
            rcases hgot with ⟨rfl, rfl⟩ | ⟨j, rfl, rfl⟩
            · exact .inl ⟨e1, bs5, ⟨t1⟩, ⟨t2⟩, ⟨t3⟩, ⟨t4⟩, ⟨t5⟩, ⟨t6⟩⟩
            · exact .inr ⟨_, _, _, bs5, e1, ⟨t1⟩, ⟨t2⟩, ⟨t3⟩, ⟨t4⟩, ⟨t5⟩, ⟨t6⟩⟩⟩
          clear HT0 HM HCI
          go_wp2_with fail
          refine HCASE.out.mono ?_
          rintro e5 w5 (⟨rfl, bs5, HT5, HN5, HI5, HR5, HA5, HB5⟩ | ⟨v, c, j, bs5, rfl, HT5, HN5, HI5, HR5, HA5, HB5⟩)
          · go_wp2_with (first | (at_builtin; refine Kd.R_append (Kd.int .i64) (w0 := w) w.heap.size rfl (.tmp 76) (.tmp 78) 22 3 (.int .i64 0) 8 rfl Try.underlying22 info3 rfl (by decide) (by decide) _ _ (-1 : Int) [.int .i64 (-1 : Int)] (fun _ => True) (fun _ => False) rfl rfl rfl (fun _ hk => hk.elim) (fun _ _ => trivial) HR5.out HB5.out HB5.out.size (by rw [HTL.out]; omega) ?_; intro v6 w6 hR6 hb6 hg6 hat6; obtain ⟨q1, q2⟩ := behind HI5.out HA5.out hg6 hat6; have HM6 : Aside0 (Mid w w6 C L bs5 cl (runS st (i + 1)) v6) := ⟨⟨(by rw [HS.out]; exact q1), (by rw [HS.out, HT5.out]; exact hR6), q2, hb6⟩⟩; clear hR6 hb6 hg6 hat6 q1 q2) | fail)
            go_roundw
            case rel => exact ⟨i + 1, bs5, by go_num, by omega, ⟨by rw [HS.out, HN5.out, HNX.out]⟩, HM6⟩
            case measure => simp [intOf]; omega
          · have hta := asNum v c j
            have hfa := atField v c j
            go_wp2_with (first | (at_builtin; refine Kd.R_append (Kd.int .i64) (w0 := w) w.heap.size rfl (.tmp 76) (.tmp 78) 22 3 (.int .i64 0) 8 rfl Try.underlying22 info3 rfl (by decide) (by decide) _ _ j [.int .i64 j] (fun _ => True) (fun _ => False) rfl rfl rfl (fun _ hk => hk.elim) (fun _ _ => trivial) HR5.out HB5.out HB5.out.size (by rw [HTL.out]; omega) ?_; intro v6 w6 hR6 hb6 hg6 hat6; obtain ⟨q1, q2⟩ := behind HI5.out HA5.out hg6 hat6; have HM6 : Aside0 (Mid w w6 C L bs5 cl (runS st (i + 1)) v6) := ⟨⟨(by rw [HS.out]; exact q1), (by rw [HS.out, HT5.out]; exact hR6), q2, hb6⟩⟩; clear hR6 hb6 hg6 hat6 q1 q2) | fail)
            go_roundw
            case rel => exact ⟨i + 1, bs5, by go_num, by omega, ⟨by rw [HS.out, HN5.out, HNX.out]⟩, HM6⟩
            case measure => simp [intOf]; omega
    · obtain rfl : i = n1 := by omega
      have HMF := HM
      have hfin := HFI.out i hi
      clear HM HV HFI HST HOK HC1 HC2
      obtain ⟨σ, hσ⟩ : ∃ σ, σ = runS st i := ⟨_, rfl⟩
      rw [← hσ] at HMF hfin ⊢
      have HSG := Aside0.mk hσ
      clear hσ HL1
      have hlen : σ.left.length ≤ 10 := by have h1 := hfin.len; have h2 := hfin.next; omega
      clear hfin
      have HCO : Aside0 (Calls Try.prog 15 #[P C] wr (IsCoins wr ((σ.left.map (cnAt cl)).map coinOf))) := ⟨coins_calls wr w.heap.size C L bs _ HMF.out.inv (by rw [List.length_map]; omega)⟩
      have HLM : Aside0 (((σ.left.map (cnAt cl)).map coinOf).length = σ.left.length) := ⟨by rw [List.length_map, List.length_map]⟩
      obtain ⟨m, hm⟩ : ∃ m, m = σ.left.length := ⟨_, rfl⟩
      have HME := Aside0.mk hm
      rw [← hm] at hlen HLM
      clear hm
      go_wp2_with (first
        | (go_at_call 15; refine HCO.out.mono ?_; rintro e5 w5 hq; unfold IsCoins at hq; obtain ⟨g, t, rfl, hG, hb⟩ := hq; rw [HLM.out]; have HG5 := Aside0.mk hG; have HM5 := Aside0.mk (HMF.out.below hb); clear hG hb)
        | fail)
      have HR0 : Aside0 ((Kd.int .i64).R 3 w5 w5.heap.size (fun _ => True) (.slice none 0 0) ((leftI σ).take 0)) := ⟨Kd.R_nil _ _ _ _ _⟩
      have HB0 := Aside0.mk (Below.refl w5.heap.size w5)
      have HLI : Aside0 ((leftI σ).length = m) := ⟨by unfold leftI; rw [List.length_map, HME.out]⟩
      go_loopw [16, 84] (fun v16 v84 wq => ∃ k : Nat, v84 = .int .i64 k ∧ k ≤ m ∧ Aside0 ((Kd.int .i64).R 3 wq w5.heap.size (fun _ => True) v16 ((leftI σ).take k)) ∧ Aside0 (Below w5.heap.size w5 wq)) (fun _ v84 _ => m - (intOf v84).toNat)
      case atStart => exact ⟨0, rfl, Nat.zero_le _, HR0, HB0⟩
      case round =>
        obtain ⟨k, rfl, hk, HR, HB⟩ := hrel
        clear HR0 HB0
        by_cases hkm : k < m
        · have hkl : k < σ.left.length := by have := HME.out; omega
          obtain ⟨j, hj⟩ : ∃ j : Nat, j = σ.left[k] := ⟨_, rfl⟩
          obtain ⟨x, hx⟩ : ∃ x, x = cnAt cl j := ⟨_, rfl⟩
          have hx3 : x.2.2 = (j : Int) := by rw [hx]; rfl
          have kd : w5.cell? ⟨g, k, none⟩ = some (coinOf x) := by
            rw [blk_cell HG5.out, List.getElem?_toArray, List.getElem?_map, List.getElem?_map, List.getElem?_eq_getElem hkl, hx, hj]
            rfl
          have kq := pw_cell_below HB.out kd
          have HT : Aside0 ((leftI σ).take (k + 1) = (leftI σ).take k ++ [(j : Int)]) := ⟨by
            rw [List.take_succ_eq_append_getElem (by rw [HLI.out]; exact hkm)]
            congr 2
            unfold leftI
            rw [List.getElem_map, hj]⟩
          have HTL : Aside0 (((leftI σ).take k).length = k) := ⟨by rw [List.length_take, HLI.out]; omega⟩
          have hta := asNum x.1 x.2.1 x.2.2
          have hfa := atField x.1 x.2.1 x.2.2
          rw [hx3] at hta hfa
          rw [show coinOf x = coinV x.1 x.2.1 (j : Int) by rw [← hx3]] at kq
          generalize x.1 = v at kq hta hfa
          generalize x.2.1 = c at kq hta hfa
          clear kd hx hx3 hj hkl
          go_wp2_with (first
            | (at_builtin; refine Kd.R_append (Kd.int .i64) (w0 := w5) w5.heap.size rfl (.tmp 88) (.tmp 92) 22 3 (.int .i64 0) 8 rfl Try.underlying22 info3 rfl (by decide) (by decide) _ _ (j : Int) [.int .i64 (j : Int)] (fun _ => True) (fun _ => False) rfl rfl rfl (fun _ hk => hk.elim) (fun _ _ => trivial) HR.out HB.out HB.out.size (by rw [HTL.out]; omega) ?_; intro v6 w6 hR6 hb6 _ _; have HR6 := Aside0.mk hR6; have HB6 := Aside0.mk hb6; clear hR6 hb6)
            | fail)
          go_roundw
          case rel => exact ⟨k + 1, by go_num, by omega, ⟨by rw [HT.out]; exact HR6.out⟩, HB6⟩
          case measure => simp [intOf]; omega
        · obtain rfl : k = m := by omega
          rw [show (leftI σ).take k = leftI σ by rw [List.take_of_length_le]; rw [HLI.out]; exact Nat.le_refl _] at HR
          have HMQ := Aside0.mk (HM5.out.below HB.out)
          have hset := HMQ.out.inv.set
          have HSA : Aside0 (∀ w2 : World, Below wr.heap.size wr w2 → SetAt C L w2 (sumV (σ.left.map (cnAt cl))) (sumA (σ.left.map (cnAt cl)))) := ⟨fun w2 hb => hset.below hb⟩
          have hset2 := HSA.out wr (Below.refl _ _)
          obtain ⟨B1, d1, e1⟩ := Kd.R_slice HMQ.out.tak
          obtain ⟨B2, d2, e2⟩ := Kd.R_slice HR.out
          subst e1 e2
          rw [HLI.out] at HR ⊢
          generalize hsv : sumV (σ.left.map (cnAt cl)) = sv at hset2
          generalize hsa : sumA (σ.left.map (cnAt cl)) = sa at hset2
          have HSV := Aside0.mk hsv
          have HSX := Aside0.mk hsa
          clear hset HSA hsv hsa
          go_wp2_with (first
            | (go_at_call 16; refine (totV_calls C L wr sv sa hset2).mono ?_; rintro e1 w6 ⟨rfl, rfl⟩)
            | (go_at_call 17; refine (totA_calls C L wr sv sa hset2).mono ?_; rintro e1 w6 ⟨rfl, rfl⟩)
            | fail)
          refine bodyPost_ret (results_tmp5 rfl _ _ _) rfl ?_
          unfold IsPurse
          rw [← HSG.out, HSV.out, HSX.out, ← HME.out]
          have h := (Kd.R_reads' HR.out).2.2
          rw [HLI.out] at h
          exact ⟨B1, d1, B2, d2, rfl, (Kd.R_reads' HMQ.out.tak).2.2, h, HMQ.out.bel⟩
end Go.Proofs.Ytkmcoaidlnaliaa.Purse
