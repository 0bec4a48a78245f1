/-
  impl.Sorted.
-/
import Derived.Test.YtpggphjnghhmeaaTxSort
import Derived.Deep.RegionHeld3
namespace Go.Proofs.Ytpggphjnghhmeaa.Srt
open Go.RowKit Go.Proofs.Ytpggphjnghhmeaa.Hand Go.Proofs.Ytpggphjnghhmeaa.PFnSorted Go.Proofs.YtpggphjnghhmeaaW.PrintWords Go.Proofs.YtpggphjnghhmeaaW.PrintLast Go.Proofs.YtpggphjnghhmeaaW.PrintMore

theorem infoR40 : (Try.prog.info? 40).map (fun i => (i.zero, i.size, i.bytes)) = some (some (.agg #[.int .u8 0, .int .u8 0, .int .u8 0, .int .u8 0, .int .u8 0, .int .u8 0, .int .u8 0, .int .u8 0, .int .u8 0, .int .u8 0, .int .u8 0, .int .u8 0, .int .u8 0, .int .u8 0, .int .u8 0, .int .u8 0, .int .u8 0, .int .u8 0, .int .u8 0, .int .u8 0, .int .u8 0, .int .u8 0, .int .u8 0, .int .u8 0, .int .u8 0, .int .u8 0, .int .u8 0, .int .u8 0, .int .u8 0, .int .u8 0, .int .u8 0, .int .u8 0, .int .u32 0]), 33, 36) := by kernel_rfl
theorem nil_nil (d c : Nat) (W : World) : (Op.equalIn (d + 1) 25 (.slice none 0 c) (.slice none 0 0)).run Try.prog W = .ok true W := by simp [Op.equalIn, Sem.run_bind, run_underlying Try.underlying25]
theorem some_nil (d : Nat) (ad : Addr) (n c : Nat) (W : World) : (Op.equalIn (d + 1) 25 (.slice (some ad) n c) (.slice none 0 0)).run Try.prog W = .ok false W := by simp [Op.equalIn, Sem.run_bind, run_underlying Try.underlying25]
theorem nil_nil_b (c : Nat) (W : World) : (binOp .eql 25 (.slice none 0 c) (.slice none 0 0)).run Try.prog W = .ok (.bool true) W := by
  simp only [binOp]
  simp [Op.equal, Op.maxDepth, nil_nil 9999 c W]
theorem some_nil_b (ad : Addr) (n c : Nat) (W : World) : (binOp .eql 25 (.slice (some ad) n c) (.slice none 0 0)).run Try.prog W = .ok (.bool false) W := by
  simp only [binOp]
  simp [Op.equal, Op.maxDepth, some_nil 9999 ad n c W]
theorem sclone_calls (A : Option Addr) (c : Nat) (b : List Int) (w : World) (hC : Kd.C (Kd.int .u8) w A b.length b) (hb : b.length ≤ 1000000) :
    Calls Try.prog 16 #[.slice A b.length c] w fun e w' => ∃ v, e = .returned v ∧ Kd.R (Kd.int .u8) 5 w' w.heap.size (fun _ => True) v b ∧ Below w.heap.size w w' := by
  have HC := Aside0.mk hC
  have HB := Aside0.mk (Below.refl w.heap.size w)
  cases A with
  | none =>
    have hn : b = [] := by
      cases b with
      | nil => rfl
      | cons x t => obtain ⟨ad, e, _⟩ := hC.2.2 (by simp); cases e
    subst hn
    clear hC
    have heq := nil_nil_b c
    go_enter Try.func16, Try.ntmps16
    go_wp2_with fail
    go_ret
    exact ⟨_, rfl, Kd.R_nil _ _ _ _ _, HB.out⟩
  | some ad =>
    clear hC
    have heq := some_nil_b ad b.length c
    go_enter Try.func16, Try.ntmps16
    go_wp2_with (first
      | ((with_reducible refine gate_dst (N := 5) rfl ?_); refine Kd.R_lit (Kd.int .u8) (w0 := w) w.heap.size 5 ?hg (N := 5) ?hd (xs := ([] : List Int)) (inner := []) (ok := fun _ => True) (okp := fun _ => True) ?hr ?hp (fun _ hk => hk) trivial HB.out (Nat.le_refl _) (by simp) ?_; (case hd => rfl); (case hg => rfl); (case hr => first | (go_simp; done) | (go_simp; rfl)); (case hp => exact (Reps.none _ _)); intro v5 w1 ho hb1 hgr hnew; have HO1 := Aside0.mk ho; have HB1 := Aside0.mk hb1; clear ho hb1 hgr hnew)
      | ((with_reducible refine gate_builtin (b := .append) (xs := #[.tmp 5, .tmp 6]) rfl ?_); refine Kd.R_append_row (h1 := fun _ => rfl) (w0 := w) (Value.int .u8) (0 : Int) w.heap.size rfl _ _ 25 5 (.int .u8 0) 1 rfl Try.underlying25 info5' rfl (by decide) v5 [] b (some ad) b.length c (fun _ => True) rfl rfl (fun _ _ => trivial) HO1.out (Kd.C_below HC.out HB1.out) HB1.out HB1.out.size (by simp; omega) ?_; intro v7 w2 hR hb2 _ _; rw [List.nil_append] at hR; have HR2 := Aside0.mk hR; have HB2 := Aside0.mk hb2; clear hR hb2)
      | fail)
    go_ret
    exact ⟨_, rfl, HR2.out, HB2.out⟩
theorem info27' : (Try.prog.info? 27).map (fun i => (i.zero, i.size, i.bytes)) = some (some (.agg #[.int .i64 0, .slice none 0 0]), 2, 32) := by kernel_rfl
theorem results_tmp4 {fn : Func} {a b c d : Tmp} (h : fn.results = #[.tmp a, .tmp b, .tmp c, .tmp d]) (tmps : Array Value) (P : Program) (w : World) :
    (results fn tmps).run P w = .ok (.tuple #[tmps.getD a undef, tmps.getD b undef, tmps.getD c undef, tmps.getD d undef]) w := by
  simp [results, h]
/-- The answer of impl.Sorted. -/
def IsSorted (w : World) (n1 : Nat) (I : List In40) (n2 : Nat) (O : List S27) (was : Bool) (e : Ending) (w' : World) : Prop :=
  ∃ A5 c5 A6 c6, e = .returned (.tuple #[.slice A5 n1 c5, .slice A6 n2 c6, .bool was, .bool true]) ∧ Kd.C kIn w' A5 n1 I ∧ Kd.C k27 w' A6 n2 O ∧ n2 ≤ c6 ∧ Below w.heap.size w w'
set_option maxRecDepth 100000 in
set_option maxHeartbeats 16000000 in
theorem sorted_calls (A1 : Option Addr) (n1 c1 : Nat) (I : List In40) (A2 : Option Addr) (n2 c2 : Nat) (O : List S27) (w : World) (hI : Kd.C kIn w A1 n1 I) (h1 : n1 ≤ 12) (hO : Kd.C k27 w A2 n2 O) (h2 : n2 ≤ 12) (hs : small O) (was : Bool) (hw : was = true ↔ (adj lessI I n1 ∧ adj lessO O n2)) :
    Calls Try.prog 7 #[.slice A1 n1 c1, .slice A2 n2 c2] w (IsSorted w n1 (srt lessI n1 I) n2 (srt lessO n2 O) was) := by
  have HT := Aside0.mk (tx_calls A1 n1 c1 I A2 n2 c2 O w hI h1 hO h2 hs)
  have HW : Aside0 (∀ g A3 c3 A4 c4 W, Msg W g A3 n1 c3 I A4 n2 c4 O → Calls Try.prog 14 #[.pointer (some ⟨g, 0, none⟩)] W fun e w' => e = .returned (.bool was) ∧ Below W.heap.size W w') := ⟨fun g A3 c3 A4 c4 W hM => (txsorted_calls g A3 n1 c3 I A4 n2 c4 O W hM h1 h2 hs).mono fun e w' ⟨b, h, hb, hw'⟩ => ⟨by rw [h, Bool.eq_iff_iff.2 (hb.trans hw.symm)], hw'⟩⟩
  have HS : Aside0 (∀ g A3 c3 A4 c4 W, Msg W g A3 n1 c3 I A4 n2 c4 O → Calls Try.prog 15 #[.pointer (some ⟨g, 0, none⟩)] W fun e w' => ∃ g A3 c3 A4 c4, e = .returned (.pointer (some ⟨g, 0, none⟩)) ∧ Msg w' g A3 n1 c3 (srt lessI n1 I) A4 n2 c4 (srt lessO n2 O) ∧ Below W.heap.size W w') := ⟨fun g A3 c3 A4 c4 W hM => txsort_calls g A3 n1 c3 I A4 n2 c4 O W hM h1 h2 hs⟩
  have HIL : Aside0 ((srt lessI n1 I).length = n1) := ⟨by rw [srt_length]; exact hI.1⟩
  have HOL : Aside0 ((srt lessO n2 O).length = n2) := ⟨by rw [srt_length]; exact hO.1⟩
  have HSM : Aside0 (small (srt lessO n2 O)) := ⟨fun y hy => hs y (srt_mem lessO O n2 (by rw [hO.1]; exact Nat.le_refl _) y hy)⟩
  generalize srt lessI n1 I = I' at HS HIL ⊢
  generalize srt lessO n2 O = O' at HS HOL HSM ⊢
  clear hI hO hs hw
  go_enter Try.func7, Try.ntmps7
  go_wp2_with (first
    | (go_at_call 13; (with_reducible refine HT.out.mono ?_); rintro e1 w1 ⟨g, A3, c3, A4, c4, rfl, hM, hb1⟩; have HM1 := Aside0.mk hM; have HB1 := Aside0.mk hb1; clear hM hb1)
    | (go_at_call 14; (with_reducible refine (HW.out g A3 c3 A4 c4 _ HM1.out).mono ?_); rintro e2 w2 ⟨rfl, hb2⟩; have HM2 := Aside0.mk (HM1.out.below hb2); have HB2 := Aside0.mk (below_step HB1.out hb2); clear hb2)
    | (go_at_call 15; (with_reducible refine (HS.out g A3 c3 A4 c4 _ HM2.out).mono ?_); rintro e3 w3 ⟨g3, A5, c5, A6, c6, rfl, hM, hb3⟩; have HM3 := Aside0.mk hM; have HB3 := Aside0.mk (below_step HB2.out hb3); have k0 := hM.cells.1; have k1 := hM.cells.2; clear hM hb3)
    | fail)
  have HR0 : Aside0 (kIn.R 40 w3 w3.heap.size (fun _ => True) (.slice none 0 0) (I'.take 0)) := ⟨Kd.R_nil _ _ _ _ _⟩
  have HMM := Aside0.mk (Below.refl w3.heap.size w3)
  clear k0
  go_loopw [11, 31] (fun v11 v31 wr => ∃ i : Nat, v31 = .int .i64 i ∧ i ≤ n1 ∧ Aside0 (kIn.R 40 wr w3.heap.size (fun _ => True) v11 (I'.take i)) ∧ Aside0 (Below w3.heap.size w3 wr)) (fun _ v31 _ => n1 - (intOf v31).toNat)
  case atStart => exact ⟨0, rfl, Nat.zero_le _, HR0, HMM⟩
  case round =>
    obtain ⟨i, rfl, hi, HR, HF⟩ := hrel
    clear HR0 HMM
    by_cases hlt : i < n1
    · obtain ⟨ad, b, e1, kp, hx, hbb⟩ := PI_at HM3.out.CI hlt
      subst e1
      have HTK : Aside0 (I'.take (i + 1) = I'.take i ++ [I'.getD i default]) := ⟨by have := HIL.out; rw [List.take_add_one, List.getD_eq_getElem?_getD, List.getElem?_eq_getElem (by omega)]; rfl⟩
      generalize I'.getD i default = x at hx hbb HTK
      obtain ⟨A7, c7, rfl⟩ := Kd.R_slice HR.out
      have hm : (I'.take i).length = i := by have := HIL.out; rw [List.length_take]; omega
      rw [hm] at HR ⊢
      have HLM := Aside0.mk hm
      have HLX : Aside0 ((I'.take i ++ [x]).length = i + 1) := ⟨by rw [List.length_append, HLM.out]; rfl⟩
      obtain ⟨X8, hP⟩ : ∃ X8 : Array Value, X8 = (by8 x.h).toArray := ⟨_, rfl⟩
      have HP := Aside0.mk hP
      have HH := Aside0.mk hx
      have hr7 : w3.rangeAt b 0 X8.toList := by rw [HP.out]; exact hash_range hbb
      have hx7 := index_at HH.out hbb
      have kp1 := pw_cell_below HF.out kp
      have hu37 := Try.underlying37
      have hi37 : (Try.prog.info? 37).map (·.size) = some X8.toList.length := by rw [info37, HP.out]; simp [by8, HH.out]
      have hp8 : X8.size = 32 := by rw [HP.out]; simp [by8, HH.out]
      obtain ⟨xi, hxi⟩ : ∃ xi, xi = x.i := ⟨_, rfl⟩
      rw [← hxi] at hx7
      have hos := out_size X8 hp8
      obtain ⟨Y, hY⟩ : ∃ Y : Array Value, Y = (cell40 x).toArray := ⟨_, rfl⟩
      have hout : outA X8 xi = Y := by rw [hY, HP.out, hxi]; exact outA_is x HH.out
      unfold outA at hout
      have hYs : Y.size = 33 := by rw [hY]; simp [cell40_length HH.out]
      have hfold := fun Z => fold_all Y Z 33 hYs
      have i0 : (0 : Int) ≤ (i : Int) := by omega
      have i1 : (i : Int) < (n1 : Int) := by omega
      have HMX : Aside0 (kIn.M wr.drew w3.heap.size (fun _ => False) x Y.toList) := ⟨⟨by rw [hY], HH.out⟩⟩
      have HRD := Aside0.mk (Kd.R_below HR.out (below_drew (Below.refl _ _)))
      have HBD := Aside0.mk (below_drew HF.out)
      clear hP hx hm hbb hxi kp hY
      go_wp2_with fail
      go_region_held3 (fun w' => w'.rangeAt b 0 X8.toList ∧ w'.cell? ⟨b, 32, none⟩ = some (.int .u32 xi))
        (first | (with_reducible exact ⟨range_keep hr7 (below_drew HF.out), pw_cell_below (below_drew HF.out) hx7⟩) | (with_reducible exact ⟨range_keep hr7 (below_drew (below_alloc HF.out _)), pw_cell_below (below_drew (below_alloc HF.out _)) hx7⟩) | (with_reducible exact ⟨range_keep hr7 HB4.out, pw_cell_below HB4.out hx7⟩) | go_keep)
        (first | (refine Kd.R_append_step (W := wr.drew) kIn (w0 := w3) w3.heap.size rfl (.tmp 35) (.tmp 47) 22 40 (.agg #[.int .u8 0, .int .u8 0, .int .u8 0, .int .u8 0, .int .u8 0, .int .u8 0, .int .u8 0, .int .u8 0, .int .u8 0, .int .u8 0, .int .u8 0, .int .u8 0, .int .u8 0, .int .u8 0, .int .u8 0, .int .u8 0, .int .u8 0, .int .u8 0, .int .u8 0, .int .u8 0, .int .u8 0, .int .u8 0, .int .u8 0, .int .u8 0, .int .u8 0, .int .u8 0, .int .u8 0, .int .u8 0, .int .u8 0, .int .u8 0, .int .u8 0, .int .u8 0, .int .u32 0]) 36 rfl Try.underlying22 infoR40 rfl (by decide) (by decide) (.slice A7 i c7) (I'.take i) x Y.toList (fun _ => True) (fun _ => False) rfl rfl HMX.out (fun _ h => h.elim) (fun _ _ => trivial) HRD.out HBD.out HBD.out.size (by rw [HLM.out]; omega) ?_; intro v4 w4 hR4 hb4 hg4 _; obtain ⟨A8, c8, rfl⟩ := Kd.R_slice hR4; rw [HLX.out] at hR4 ⊢; have HR4 := Aside0.mk hR4; have HB4 := Aside0.mk hb4; clear hR4 hb4 hg4))
      all_goals
        go_wp2_with fail
        go_roundw
        case rel => exact ⟨i + 1, rfl, hlt, ⟨by rw [HTK.out]; exact HR4.out⟩, HB4⟩
        case measure => simp only [intOf]; omega
    · obtain rfl : i = n1 := by omega
      obtain ⟨A7, c7, rfl⟩ := Kd.R_slice HR.out
      have hm : (I'.take i).length = i := by have := HIL.out; rw [List.length_take]; omega
      rw [hm] at HR ⊢
      have HCI : Aside0 (Kd.C kIn wr A7 i I') := ⟨by
        have h := Kd.R_reads' HR.out
        have h2 := h.2.2
        rw [← h.1, List.take_of_length_le (by rw [HIL.out]; exact Nat.le_refl _)] at h2
        exact h2⟩
      clear HR hm
      obtain ⟨w5, rfl⟩ : ∃ w5, w5 = wr := ⟨wr, rfl⟩
      have k2 := pw_cell_below HF.out k1
      go_wp2_with fail
      have HR2 : Aside0 (k27.R 27 w5 w5.heap.size (fun _ => True) (.slice none 0 0) (O'.take 0)) := ⟨Kd.R_nil _ _ _ _ _⟩
      have HMM := Aside0.mk (Below.refl w5.heap.size w5)
      clear k2
      go_loopw [14, 55] (fun v14 v55 wr => ∃ j : Nat, v55 = .int .i64 j ∧ j ≤ n2 ∧ Aside0 (k27.R 27 wr w5.heap.size (fun _ => True) v14 (O'.take j)) ∧ Aside0 (Below w5.heap.size w5 wr)) (fun _ v55 _ => n2 - (intOf v55).toNat)
      case atStart => exact ⟨0, rfl, Nat.zero_le _, HR2, HMM⟩
      case round =>
        obtain ⟨j, rfl, hj, HRq, HBq⟩ := hrel
        clear HR2 HMM
        have HFW := Aside0.mk (below_step HF.out HBq.out)
        by_cases hlt2 : j < n2
        · obtain ⟨ad, b, A9, c9, e1, kp, q0, q1, hl9, hC9⟩ := PO_at HM3.out.CO hlt2
          subst e1
          have HTK : Aside0 (O'.take (j + 1) = O'.take j ++ [O'.getD j default]) := ⟨by have := HOL.out; rw [List.take_add_one, List.getD_eq_getElem?_getD, List.getElem?_eq_getElem (by omega)]; rfl⟩
          have hxs : (O'.getD j default).f1.length ≤ 1000000 := HSM.out _ (by have := HOL.out; rw [List.getD_eq_getElem?_getD, List.getElem?_eq_getElem (by omega)]; exact List.getElem_mem _)
          generalize O'.getD j default = x at q0 q1 hl9 hC9 HTK hxs
          obtain ⟨A4', c4', rfl⟩ := Kd.R_slice HRq.out
          have hm : (O'.take j).length = j := by have := HOL.out; rw [List.length_take]; omega
          rw [hm] at HRq ⊢
          have HLM := Aside0.mk hm
          have HLX : Aside0 ((O'.take j ++ [x]).length = j + 1) := ⟨by rw [List.length_append, HLM.out]; rfl⟩
          have HC9 := Aside0.mk hC9
          have HXS := Aside0.mk hxs
          have HCLN : Aside0 (∀ W, Below w3.heap.size w3 W → Calls Try.prog 16 #[.slice A9 x.f1.length c9] W fun e w' => ∃ v, e = .returned v ∧ Kd.R (Kd.int .u8) 5 w' W.heap.size (fun _ => True) v x.f1 ∧ Below W.heap.size W w') := ⟨fun W hb => sclone_calls A9 c9 x.f1 W (Kd.C_below HC9.out hb) HXS.out⟩
          obtain ⟨f, hf⟩ : ∃ f, f = x.f0 := ⟨_, rfl⟩
          have HF0 := Aside0.mk hf
          rw [← hf] at q0
          obtain ⟨xl, hxl⟩ : ∃ xl, xl = x.f1.length := ⟨_, rfl⟩
          rw [← hxl] at q1 HCLN
          have kp1 := pw_cell_below HFW.out kp
          have i0 : (0 : Int) ≤ (j : Int) := by omega
          have i1 : (j : Int) < (n2 : Int) := by omega
          have HOWN : Aside0 (∀ k, Value.ownBlock (.slice A4' j c4') = some k → k < wr.heap.size) := ⟨R_ownlt HRq.out⟩
          have HFD := Aside0.mk (below_drew HFW.out)
          clear hC9 hxs hm hf hl9 hxl kp
          go_wp2_with fail
          go_region_held3 (fun w' => w'.cell? ⟨b, 0, none⟩ = some (.int .i64 f) ∧ w'.cell? ⟨b, 1, none⟩ = some (.slice A9 xl c9))
            (first | (with_reducible exact ⟨pw_cell_below (below_drew HFW.out) q0, pw_cell_below (below_drew HFW.out) q1⟩) | (with_reducible exact ⟨pw_cell_below HF4.out q0, pw_cell_below HF4.out q1⟩) | (with_reducible exact ⟨pw_cell_below (below_alloc HF4.out _) q0, pw_cell_below (below_alloc HF4.out _) q1⟩) | (with_reducible exact ⟨pw_cell_below HF5.out q0, pw_cell_below HF5.out q1⟩) | go_keep)
            (first
            | (go_at_call 16; refine (HCLN.out _ HFD.out).mono ?_; rintro e4 w4 ⟨v5, rfl, hR5, hb5⟩; obtain ⟨A10, c10, rfl⟩ := Kd.R_slice hR5; have HBA : Aside0 (Below wr.heap.size wr w4) := ⟨below_step (below_drew (Below.refl _ _)) hb5⟩; have HF4 := Aside0.mk (below_step HFW.out HBA.out); have HRW := Aside0.mk (Kd.R_below HRq.out HBA.out); have HBW := Aside0.mk (below_step HBq.out HBA.out); have HM : Aside0 (k27.M w4 w5.heap.size (fun k => wr.heap.size ≤ k) x [.int .i64 f, .slice A10 x.f1.length c10]) := ⟨by rw [HF0.out]; exact k27_mkM w4 w5.heap.size _ x (Kd.R_lower (Kd.R_mono (Kd.R_bound hR5) (fun k hk => hk.2.1)) (show w5.heap.size ≤ wr.heap.size from HBq.out.size))⟩; clear hR5 hb5)
            | (refine Kd.R_append_step (W := w4) k27 (w0 := w5) w5.heap.size rfl (.tmp 59) (.tmp 70) 23 27 (.agg #[.int .i64 0, .slice none 0 0]) 32 rfl Try.underlying23 info27' rfl (by decide) (by decide) (.slice A4' j c4') (O'.take j) x [.int .i64 f, .slice A10 x.f1.length c10] (fun _ => True) (fun k => wr.heap.size ≤ k) rfl rfl HM.out (fun k hk => ⟨trivial, fun e => by have := HOWN.out k e.symm; omega⟩) (fun _ _ => trivial) HRW.out HBW.out HBW.out.size (by rw [HLM.out]; omega) ?_; intro v6 w6 hR6 hb6 hg6 _; obtain ⟨A11, c11, rfl⟩ := Kd.R_slice hR6; rw [HLX.out] at hR6 ⊢; have HR6 := Aside0.mk hR6; have HB6 := Aside0.mk hb6; have HF5 := Aside0.mk (below_step HF.out hb6); clear hR6 hb6 hg6))
          all_goals
            go_wp2_with fail
            go_roundw
            case rel => exact ⟨j + 1, rfl, hlt2, ⟨by rw [HTK.out]; exact HR6.out⟩, HB6⟩
            case measure => simp only [intOf]; omega
        · obtain rfl : j = n2 := by omega
          obtain ⟨A8, c8, rfl⟩ := Kd.R_slice HRq.out
          have hm : (O'.take j).length = j := by have := HOL.out; rw [List.length_take]; omega
          rw [hm] at HRq ⊢
          go_wp2_with fail
          refine bodyPost_ret (results_tmp4 rfl _ _ _) rfl ⟨A7, c7, A8, c8, rfl, Kd.C_below HCI.out HBq.out, ?_, ?_, below_step HB3.out HFW.out⟩
          · have h := Kd.R_reads' HRq.out
            have h2 := h.2.2
            rw [← h.1, List.take_of_length_le (by rw [HOL.out]; exact Nat.le_refl _)] at h2
            exact h2
          · have h := Kd.R_reads' HRq.out
            exact h.2.1
end Go.Proofs.Ytpggphjnghhmeaa.Srt
