/-
  impl.tx: the transaction of inputs and outputs.
-/
import Derived.Test.YtpggphjnghhmeaaTxPre
import Derived.Deep.RegionHeld3
namespace Go.Proofs.Ytpggphjnghhmeaa.Srt
open Go.RowKit Go.Proofs.Ytpggphjnghhmeaa.Hand Go.Proofs.Ytpggphjnghhmeaa.PFnSorted Go.Proofs.YtpggphjnghhmeaaW.PrintWords Go.Proofs.YtpggphjnghhmeaaW.PrintLast Go.Proofs.YtpggphjnghhmeaaW.PrintMore

theorem size25 : (Try.prog.info? 5).map (fun i => (i.zero, i.size, i.bytes)) = some (some (.int .u8 0), 1, 1) := by kernel_rfl
theorem infoP50 : (Try.prog.info? 50).map (fun i => (i.zero, i.size, i.bytes)) = some (some (.pointer none), 1, 8) := by kernel_rfl
theorem infoP54 : (Try.prog.info? 54).map (fun i => (i.zero, i.size, i.bytes)) = some (some (.pointer none), 1, 8) := by kernel_rfl
section
variable {ops : Array Oper} {rest : List Oper} {o : Oper} {a : Act} {Q : Exit → Act → World → Prop} {W : World}
/-- An output's two cells, stored. -/
theorem out_store (hgd : o.guard = none) {p : Tmp} {v : Operand} (ho : o.op = .store 27 (.tmp p) v) (hN : o.dst = none) {g : Nat} {B : Nat} {w0 : World} {f : Int} {A : Option Addr} {l c : Nat} {T : TypeId} (hb : W.heap[g]? = some (.cells #[.int .i64 0, .slice none 0 0] T (0, 0))) (hB : Below B w0 W) (hg : B ≤ g)
    (hp : a.eval (.tmp p) = .pointer (some ⟨g, 0, none⟩)) (hv : a.eval v = .agg #[.int .i64 f, .slice A l c])
    (h : ∀ w1, w1.heap[g]? = some (.cells #[.int .i64 f, .slice A l c] T (0, 0)) → Below B w0 w1 → wpList Try.prog ops Q rest a w1) : wpList Try.prog ops Q (o :: rest) a W := by
  have k0 : W.cell? ⟨g, 0, none⟩ = some (.int .i64 0) := by rw [blk_cell hb]; rfl
  have k1 : W.cell? ⟨g, 1, none⟩ = some (.slice none 0 0) := by rw [blk_cell hb]; rfl
  have f0 := blk_frozen hb 0
  have f1 := blk_frozen hb 1
  have hr : (execOp a.eval o).run Try.prog W = .ok .skip ((W.setCell ⟨g, 0, none⟩ (.int .i64 f)).setCell ⟨g, 1, none⟩ (.slice A l c)) := by
    unfold execOp
    rw [ho]
    simp only [hp, hv]
    simp [go_sem, k0, k1, f0, f1]
  refine store_event hgd ho hN hr fun w1 e => ?_
  subst e
  exact h _ (blk_set (blk_set hb)) ((hB.setCell hg _).setCell hg _)
end
set_option maxRecDepth 100000 in
set_option maxHeartbeats 16000000 in
theorem tx_calls (A1 : Option Addr) (n1 c1 : Nat) (I : List In40) (A2 : Option Addr) (n2 c2 : Nat) (O : List S27) (w : World) (hI : Kd.C kIn w A1 n1 I) (h1 : n1 ≤ 12) (hO : Kd.C k27 w A2 n2 O) (h2 : n2 ≤ 12) (hs : small O) :
    Calls Try.prog 13 #[.slice A1 n1 c1, .slice A2 n2 c2] w fun e w' => ∃ g A3 c3 A4 c4, e = .returned (.pointer (some ⟨g, 0, none⟩)) ∧ Msg w' g A3 n1 c3 I A4 n2 c4 O ∧ Below w.heap.size w w' := by
  have HI := Aside0.mk hI
  have HO := Aside0.mk hO
  have HIL : Aside0 (I.length = n1) := ⟨hI.1⟩
  have HOL : Aside0 (O.length = n2) := ⟨hO.1⟩
  have HSM := Aside0.mk hs
  clear hI hO hs
  have HB := Aside0.mk (Below.refl w.heap.size w)
  go_enter Try.func13, Try.ntmps13
  go_wp2_with (first
    | ((with_reducible refine gate_dst (N := 19) rfl ?_); refine box_event ?hg (N := 19) ?hd (cs := #[.slice none 0 0, .slice none 0 0]) (t := 49) ?hr ?_; (case hd => rfl); (case hg => rfl); (case hr => first | (go_simp; done) | (go_simp; rfl)); intro g hg w1 hbox hb1; have HG1 := Aside0.mk hbox; have HB1 := Aside0.mk (below_step HB.out hb1); have HGE : Aside0 (w.heap.size ≤ g) := ⟨by rw [hg]; exact Nat.le_refl _⟩; clear hg hbox hb1)
    | fail)
  have HR1 : Aside0 (kPI.R 50 w1 w.heap.size (fun k => k ≠ g) (.slice none 0 0) (I.take 0)) := ⟨Kd.R_nil _ _ _ _ _⟩
  go_loopw [22] (fun v22 wr => ∃ (i : Nat) (v1 : Value), v22 = .int .i64 i ∧ i ≤ n1 ∧ Aside0 (wr.heap[g]? = some (.cells #[v1, .slice none 0 0] 49 (0, 0))) ∧ Aside0 (kPI.R 50 wr w.heap.size (fun k => k ≠ g) v1 (I.take i)) ∧ Aside0 (Below w.heap.size w wr)) (fun v22 _ => n1 - (intOf v22).toNat)
  case atStart => exact ⟨0, _, rfl, Nat.zero_le _, HG1, HR1, HB1⟩
  case round =>
    obtain ⟨i, v1, rfl, hi, HG, HR, HBr⟩ := hrel
    clear HG1 HR1 HB1 HB
    by_cases hlt : i < n1
    · obtain ⟨ad, e1, hx, hcell⟩ := In_at (Kd.C_below HI.out HBr.out) hlt
      subst e1
      have HTK : Aside0 (I.take (i + 1) = I.take i ++ [I.getD i default]) := ⟨by have := HIL.out; rw [List.take_add_one, List.getD_eq_getElem?_getD, List.getElem?_eq_getElem (by omega)]; rfl⟩
      generalize I.getD i default = x at hx hcell HTK
      obtain ⟨X8, hP⟩ : ∃ X8 : Array Value, X8 = (by8 x.h).toArray := ⟨_, rfl⟩
      obtain ⟨X33, hX⟩ : ∃ X33, X33 = cell40 x := ⟨_, rfl⟩
      have HCL : Aside0 (∀ j v, X33[j]? = some v → wr.cell? ((ad.add (i * 33)).add j) = some v) := ⟨by rw [hX]; exact hcell⟩
      have HX33 : Aside0 (X33.length = 33 ∧ ∀ v ∈ X33, v.oneCell' = true) := ⟨by rw [hX]; exact ⟨cell40_length hx, cell40_one x⟩⟩
      have HP := Aside0.mk hP
      have HXX := Aside0.mk hX
      have HH := Aside0.mk hx
      obtain ⟨A3, c3, rfl⟩ := Kd.R_slice HR.out
      have k0 : wr.cell? ⟨g, 0, none⟩ = some (.slice A3 (I.take i).length c3) := by rw [blk_cell HG.out]; rfl
      have hm : (I.take i).length = i := by have := HIL.out; rw [List.length_take]; omega
      rw [hm] at k0 HG HR
      have HLM := Aside0.mk hm
      have i0 : (0 : Int) ≤ (i : Int) := by omega
      have i1 : (i : Int) < (n1 : Int) := by omega
      clear hcell hP hX hx hm
      go_wp2_with (first
        | ((with_reducible show wpList _ _ _ _ _ _); (with_reducible refine load_any (o := ⟨some 25, _, _, _, _, _⟩) rfl 40 (.tmp 24) rfl (ad.add (i * 33)) rfl X33 _ HCL.out Try.underlying40 rfl (by rw [info40, HX33.out.1]) ?_))
        | ((with_reducible refine gate_dst (N := 7) rfl ?_); refine box_event ?hg (N := 7) ?hd (cs := (List.replicate 32 (Value.int .u8 0) ++ [Value.int .u32 0]).toArray) (t := 40) ?hr ?_; (case hd => rfl); (case hg => rfl); (case hr => first | (go_simp; done) | (go_simp; rfl)); intro g7 hg w2 hbox hb2; have HZ2 := Aside0.mk hbox; have HB2 := Aside0.mk hb2; have HG7 : Aside0 (g7 = wr.heap.size) := ⟨hg⟩; clear hg hbox hb2)
        | ((with_reducible refine gate_store (t := 40) (p := 7) rfl ?_); refine whole_store info40 rfl rfl rfl HZ2.out (by simp) X33 HX33.out.1 HX33.out.2 HB2.out (Nat.le_of_eq HG7.out.symm) rfl rfl ?_; intro w3 hX hB hK; have HS3 := Aside0.mk hX; have HB3 := Aside0.mk hB; clear hX hB hK)
        | fail)
      have HHX : Aside0 (w3.heap[g7]? = some (.cells (cell40 x).toArray 40 (0, 0))) := ⟨by rw [← HXX.out]; exact HS3.out⟩
      have hr7 : w3.rangeAt g7 0 X8.toList := by rw [HP.out]; exact hash_range HHX.out
      have hx7 := index_at HH.out HHX.out
      have k3 := pw_cell_below HB3.out k0
      have hu37 := Try.underlying37
      have hi37 : (Try.prog.info? 37).map (·.size) = some X8.toList.length := by rw [info37, HP.out]; simp [by8, HH.out]
      have hp8 : X8.size = 32 := by rw [HP.out]; simp [by8, HH.out]
      obtain ⟨xi, hxi⟩ : ∃ xi, xi = x.i := ⟨_, rfl⟩
      have HXI := Aside0.mk hxi
      rw [← hxi] at hx7
      obtain ⟨Y, hY⟩ : ∃ Y : Array Value, Y = (cell40 x).toArray := ⟨_, rfl⟩
      have hos := out_size X8 hp8
      have hout : outA X8 xi = Y := by rw [hY, HP.out, hxi]; exact outA_is x HH.out
      unfold outA at hout
      have hYs : Y.size = 33 := by rw [hY]; simp [cell40_length HH.out]
      have hfold := fun Z => fold_all Y Z 33 hYs
      have HY := Aside0.mk hY
      clear hxi k0 hY
      have HR3 := Aside0.mk (Kd.R_below HR.out HB3.out)
      have hg3 : g < w3.heap.size := blk_lt ((HB3.out.block g (blk_lt HG.out)).trans HG.out)
      have HG3 : Aside0 (w3.heap[g]? = some (.cells #[.slice A3 i c3, .slice none 0 0] 49 (0, 0))) := ⟨(HB3.out.block g (blk_lt HG.out)).trans HG.out⟩
      have HBW3 := Aside0.mk (below_step HBr.out HB3.out)
      have hba : Below w3.heap.size w3 ((w3.alloc (.cells Y 53)).drew) := below_drew (below_alloc (Below.refl _ _) _)
      have HRW : Aside0 (kPI.R 50 ((w3.alloc (.cells Y 53)).drew) w.heap.size (fun k => k ≠ g) (.slice A3 i c3) (I.take i)) := ⟨Kd.R_below HR3.out hba⟩
      have HBW : Aside0 (Below w.heap.size w ((w3.alloc (.cells Y 53)).drew)) := ⟨below_step HBW3.out hba⟩
      have HM : Aside0 (kPI.M ((w3.alloc (.cells Y 53)).drew) w.heap.size (fun k => k = w3.heap.size) x [.pointer (some ⟨w3.heap.size, 0, none⟩)]) := ⟨⟨w3.heap.size, rfl, HH.out, by rw [← HY.out]; show (w3.heap.push _)[w3.heap.size]? = _; simp, rfl, HBW3.out.size⟩⟩
      have HOWN : Aside0 (∀ k, Value.ownBlock (.slice A3 i c3) = some k → k ≠ g ∧ k < wr.heap.size) := ⟨fun k hk => ⟨HR.out.1 k hk, by obtain ⟨_, _, ho, _⟩ := HR.out; exact own_lt ho k hk⟩⟩
      have hsz : wr.heap.size ≤ w3.heap.size := HB3.out.size
      have k3a := pw_cell_below (below_alloc (Below.refl w3.heap.size w3) (.cells Y 53)) k3
      have k3b := pw_cell_below (below_alloc (below_alloc (Below.refl w3.heap.size w3) (.cells Y 53)) (.cells #[.pointer (some ⟨w3.heap.size, 0, none⟩)] 50)) k3
      have HSZ := Aside0.mk hsz
      have HG3L := Aside0.mk hg3
      have HBA := Aside0.mk hba
      have HS1 : Aside0 (((w3.alloc (.cells Y 53)).drew).heap.size = w3.heap.size + 1) := ⟨by show (w3.heap.push _).size = _; simp⟩
      have HLX : Aside0 ((I.take i ++ [x]).length = i + 1) := ⟨by rw [List.length_append, HLM.out]; rfl⟩
      clear hsz hg3 hba
      have hld : (Instr.loadAt 37 (.pointer (some ⟨g7, 0, none⟩))).run Try.prog w3 = .ok (.agg X8) w3 := run_loadAt_mid w3 g7 0 37 X8.toList _ hr7 hu37 rfl hi37
      have hld2 : (Instr.loadAt 37 (.pointer (some ⟨g7, 0, none⟩))).run Try.prog w3.drew = .ok (.agg X8) w3.drew := run_loadAt_mid w3.drew g7 0 37 X8.toList _ (range_keep hr7 (below_drew (Below.refl _ _))) hu37 rfl hi37
      clear hr7 hu37 hi37
      simp [go_sem] at hld2
      clear hld
      go_region_law
        (first | (refine Kd.R_append_step (W := (w3.alloc (.cells Y 53)).drew) kPI (w0 := w) w.heap.size rfl (.tmp 30) (.tmp 38) 46 50 (.pointer none) 8 rfl Try.underlying46 infoP50 rfl (by decide) (by decide) (.slice A3 i c3) (I.take i) x [.pointer (some ⟨w3.heap.size, 0, none⟩)] (fun k => k ≠ g) (fun k => k = w3.heap.size) rfl (by rw [HS1.out]; rfl) HM.out (fun k hk => by have := HG3L.out; have := HSZ.out; exact ⟨by omega, fun e => by have := (HOWN.out k e.symm).2; omega⟩) (fun k hk => by have := HG3L.out; have := HBA.out.size; omega) HRW.out HBW.out HBW.out.size (by rw [HLM.out]; omega) ?_; intro v4 w4 hR4 hb4 hg4 _; obtain ⟨A5, c5, rfl⟩ := Kd.R_slice hR4; rw [HLX.out] at hR4 ⊢; have HR4 := Aside0.mk hR4; have HB4 := Aside0.mk hb4; have HG4 : Aside0 (w4.heap[g]? = some (.cells #[.slice A3 i c3, .slice none 0 0] 49 (0, 0))) := ⟨((hg4.block g (Nat.lt_of_lt_of_le HG3L.out HBA.out.size) (fun e => (HOWN.out g e.symm).1 rfl)).trans (HBA.out.block g HG3L.out)).trans HG3.out⟩; have k4 : w4.cell? ⟨g, 0, none⟩ = some (.slice A3 i c3) := (by rw [blk_cell HG4.out]; rfl); have f4 := blk_frozen HG4.out 0; clear hR4 hb4 hg4))
      all_goals
        have HG5 : Aside0 ((w4.setCell ⟨g, 0, none⟩ (.slice A5 (i + 1) c5)).heap[g]? = some (.cells #[.slice A5 (i + 1) c5, .slice none 0 0] 49 (0, 0))) := ⟨blk_set (i := 0) (y := .slice A5 (i + 1) c5) HG4.out⟩
        have HR5 : Aside0 (kPI.R 50 (w4.setCell ⟨g, 0, none⟩ (.slice A5 (i + 1) c5)) w.heap.size (fun k => k ≠ g) (.slice A5 (i + 1) c5) (I.take (i + 1))) := ⟨by rw [HTK.out]; exact Kd.R_far (p := ⟨g, 0, none⟩) HR4.out (fun _ h => h) _⟩
        have HB5 : Aside0 (Below w.heap.size w (w4.setCell ⟨g, 0, none⟩ (.slice A5 (i + 1) c5))) := ⟨HB4.out.setCell HGE.out _⟩
        clear k4 f4
        generalize (w4.setCell ⟨g, 0, none⟩ (.slice A5 (i + 1) c5)) = w5 at HG5 HR5 HB5 ⊢
        go_wp2_with fail
        go_roundw
        case rel => exact ⟨i + 1, _, rfl, hlt, HG5, HR5, HB5⟩
        case measure => simp only [intOf]; omega
    · obtain rfl : i = n1 := by omega
      have HRI : Aside0 (kPI.R 50 wr w.heap.size (fun k => k ≠ g) v1 I) := ⟨by have h := HR.out; rwa [List.take_of_length_le (by rw [HIL.out]; exact Nat.le_refl _)] at h⟩
      clear HR
      go_wp2_with fail
      have HR2 : Aside0 (kPO.R 54 wr w.heap.size (fun k => k ≠ g) (.slice none 0 0) (O.take 0)) := ⟨Kd.R_nil _ _ _ _ _⟩
      go_loopw [45] (fun v45 wq => ∃ (j : Nat) (v2 : Value), v45 = .int .i64 j ∧ j ≤ n2 ∧ Aside0 (wq.heap[g]? = some (.cells #[v1, v2] 49 (0, 0))) ∧ Aside0 (kPI.R 50 wq w.heap.size (fun k => k ≠ g) v1 I) ∧ Aside0 (kPO.R 54 wq w.heap.size (fun k => k ≠ g) v2 (O.take j)) ∧ Aside0 (Below w.heap.size w wq)) (fun v45 _ => n2 - (intOf v45).toNat)
      case atStart => exact ⟨0, _, rfl, Nat.zero_le _, HG, HRI, HR2, HBr⟩
      case round =>
        obtain ⟨j, v2, rfl, hj, HGq, HRIq, HRq, HBq⟩ := hrel
        clear HG HRI HR2 HBr
        by_cases hlt2 : j < n2
        · obtain ⟨ad, A6, c6, e1, q0, q1, hl6, hC6⟩ := at_T27 (Kd.C_below HO.out HBq.out) (j : Int) (by omega) (by omega)
          subst e1
          rw [Int.toNat_natCast] at q0 q1
          have hjl : (rd_T27 O (j : Int)) = O.getD j default := rfl
          rw [hjl] at q0 q1 hl6 hC6
          have HTK : Aside0 (O.take (j + 1) = O.take j ++ [O.getD j default]) := ⟨by have := HOL.out; rw [List.take_add_one, List.getD_eq_getElem?_getD, List.getElem?_eq_getElem (by omega)]; rfl⟩
          have hxs : (O.getD j default).f1.length ≤ 1000000 := HSM.out _ (by have := HOL.out; rw [List.getD_eq_getElem?_getD, List.getElem?_eq_getElem (by omega)]; exact List.getElem_mem _)
          clear hjl
          generalize O.getD j default = x at q0 q1 hl6 hC6 HTK hxs
          obtain ⟨A4, c4, rfl⟩ := Kd.R_slice HRq.out
          obtain ⟨A3, c3, rfl⟩ := Kd.R_slice HRIq.out
          have k1 : wr.cell? ⟨g, 1, none⟩ = some (.slice A4 (O.take j).length c4) := by rw [blk_cell HGq.out]; rfl
          have hm : (O.take j).length = j := by have := HOL.out; rw [List.length_take]; omega
          rw [hm] at k1 HGq HRq
          have HLM := Aside0.mk hm
          have i0 : (0 : Int) ≤ (j : Int) := by omega
          have i1 : (j : Int) < (n2 : Int) := by omega
          have HC6 := Aside0.mk hC6
          have HXS := Aside0.mk hxs
          have HCLN : Aside0 (∀ W, Below wr.heap.size wr W → Calls Try.prog 17 #[.slice A6 x.f1.length c6] W fun e w' => ∃ v, e = .returned v ∧ Kd.R (Kd.int .u8) 5 w' W.heap.size (fun _ => True) v x.f1 ∧ Below W.heap.size W w') := ⟨fun W hb => clone17_calls A6 c6 x.f1 W (Kd.C_below HC6.out hb) HXS.out⟩
          obtain ⟨f, hf⟩ : ∃ f, f = x.f0 := ⟨_, rfl⟩
          have HF0 := Aside0.mk hf
          rw [← hf] at q0
          obtain ⟨xl, hxl⟩ : ∃ xl, xl = x.f1.length := ⟨_, rfl⟩
          rw [← hxl] at q1 HCLN
          clear hC6 hxs hm hf hl6 hxl
          go_wp2_with (first
            | ((with_reducible refine gate_dst (N := 9) rfl ?_); refine box_event ?hg (N := 9) ?hd (cs := #[.int .i64 0, .slice none 0 0]) (t := 27) ?hr ?_; (case hd => rfl); (case hg => rfl); (case hr => first | (go_simp; done) | (go_simp; rfl)); intro g9 hg w2 hbox hb2; have HZ2 := Aside0.mk hbox; have HB2 := Aside0.mk hb2; have HG9 : Aside0 (g9 = wr.heap.size) := ⟨hg⟩; clear hg hbox hb2)
            | ((with_reducible refine gate_store (t := 27) (p := 9) rfl ?_); refine out_store rfl rfl rfl HZ2.out HB2.out (Nat.le_of_eq HG9.out.symm) rfl rfl ?_; intro w3 hX hB; have HS3 := Aside0.mk hX; have HB3 := Aside0.mk hB; clear hX hB)
            | fail)
          have p0 : w3.cell? ⟨g9, 0, none⟩ = some (.int .i64 f) := by rw [blk_cell HS3.out]; rfl
          have p1 : w3.cell? ⟨g9, 1, none⟩ = some (.slice A6 xl c6) := by rw [blk_cell HS3.out]; rfl
          have k3 := pw_cell_below HB3.out k1
          have HB3D := Aside0.mk (below_drew HB3.out)
          have HBW3 := Aside0.mk (below_step HBq.out HB3.out)
          have HSZ := Aside0.mk HB3.out.size
          have HGL := Aside0.mk (blk_lt HGq.out)
          have HOWN : Aside0 (∀ k, Value.ownBlock (.slice A4 j c4) = some k → k ≠ g ∧ k < wr.heap.size) := ⟨fun k hk => ⟨HRq.out.1 k hk, R_ownlt HRq.out k hk⟩⟩
          have HLX : Aside0 ((O.take j ++ [x]).length = j + 1) := ⟨by rw [List.length_append, HLM.out]; rfl⟩
          clear k1 q0 q1
          go_region_law
            (first
            | (refine step_calls (o := ⟨some 58, _, _, _, _, _⟩) rfl (f := 17) (vals := #[.slice A6 xl c6]) (by go_simp) (HCLN.out _ HB3D.out) ?_; rintro e4 w4 ⟨v5, rfl, hR5, hb5⟩; obtain ⟨A7, c7, rfl⟩ := Kd.R_slice hR5; refine ⟨_, rfl, ?_⟩; have hb34 : Below w3.heap.size w3 w4 := below_step (below_drew (Below.refl _ _)) hb5; have p04 := pw_cell_below hb34 p0; have k4 := pw_cell_below hb34 k3; have k4a := pw_cell_below (below_alloc (Below.refl w4.heap.size w4) (.cells #[.int .i64 f, .slice A7 x.f1.length c7] 56)) k4; have k4b := pw_cell_below (below_alloc (below_alloc (Below.refl w4.heap.size w4) (.cells #[.int .i64 f, .slice A7 x.f1.length c7] 56)) (.cells #[.pointer (some ⟨w4.heap.size, 0, none⟩)] 54)) k4; have HBA : Aside0 (Below wr.heap.size wr (w4.alloc (.cells #[.int .i64 f, .slice A7 x.f1.length c7] 56))) := ⟨below_alloc (below_step HB3.out hb34) _⟩; have HS1 : Aside0 ((w4.alloc (.cells #[.int .i64 f, .slice A7 x.f1.length c7] 56)).heap.size = w4.heap.size + 1) := ⟨by show (w4.heap.push _).size = _; simp⟩; have HRW := Aside0.mk (Kd.R_below HRq.out HBA.out); have HRIW := Aside0.mk (Kd.R_below HRIq.out HBA.out); have HBW := Aside0.mk (below_step HBq.out HBA.out); have H34 := Aside0.mk hb34.size; have HM : Aside0 (kPO.M (w4.alloc (.cells #[.int .i64 f, .slice A7 x.f1.length c7] 56)) w.heap.size (fun k => w3.heap.size ≤ k) x [.pointer (some ⟨w4.heap.size, 0, none⟩)]) := ⟨⟨w4.heap.size, .slice A7 x.f1.length c7, rfl, by rw [← HF0.out]; show (w4.heap.push _)[w4.heap.size]? = _; simp, Kd.R_lower (Kd.R_below (Kd.R_mono (Kd.R_bound hR5) (fun k hk => hk.2.1)) (below_alloc (Below.refl _ _) _)) (show w.heap.size ≤ w3.drew.heap.size from HBW3.out.size), H34.out, Nat.le_trans HBW3.out.size H34.out⟩⟩; clear hR5 hb5 hb34)
            | (refine Kd.R_append_step (W := (w4.alloc (.cells #[.int .i64 f, .slice A7 x.f1.length c7] 56))) kPO (w0 := w) w.heap.size rfl (.tmp 53) (.tmp 61) 47 54 (.pointer none) 8 rfl Try.underlying47 infoP54 rfl (by decide) (by decide) (.slice A4 j c4) (O.take j) x [.pointer (some ⟨w4.heap.size, 0, none⟩)] (fun k => k ≠ g) (fun k => w3.heap.size ≤ k) rfl (by rw [HS1.out]; rfl) HM.out (fun k hk => by have := HGL.out; have := HSZ.out; exact ⟨by omega, fun e => by have := (HOWN.out k e.symm).2; omega⟩) (fun k hk => by have := HGL.out; have := HBA.out.size; omega) HRW.out HBW.out HBW.out.size (by rw [HLM.out]; omega) ?_; intro v5 w5 hR5 hb5 hg5 _; obtain ⟨A8, c8, rfl⟩ := Kd.R_slice hR5; rw [HLX.out] at hR5 ⊢; have HR5 := Aside0.mk hR5; have HB5 := Aside0.mk hb5; have HRI5 := Aside0.mk (RI_grown HRIW.out hg5 (R_typed HRW.out)); have HG5 : Aside0 (w5.heap[g]? = some (.cells #[.slice A3 I.length c3, .slice A4 j c4] 49 (0, 0))) := ⟨((hg5.block g (Nat.lt_of_lt_of_le HGL.out HBA.out.size) (fun e => (HOWN.out g e.symm).1 rfl)).trans (HBA.out.block g HGL.out)).trans HGq.out⟩; have k5 : w5.cell? ⟨g, 1, none⟩ = some (.slice A4 j c4) := (by rw [blk_cell HG5.out]; rfl); have f5 := blk_frozen HG5.out 1; clear hR5 hb5 hg5))
          all_goals
            have HG6 : Aside0 ((w5.setCell ⟨g, 1, none⟩ (.slice A8 (j + 1) c8)).heap[g]? = some (.cells #[.slice A3 I.length c3, .slice A8 (j + 1) c8] 49 (0, 0))) := ⟨blk_set (i := 1) (y := .slice A8 (j + 1) c8) HG5.out⟩
            have HRI6 : Aside0 (kPI.R 50 (w5.setCell ⟨g, 1, none⟩ (.slice A8 (j + 1) c8)) w.heap.size (fun k => k ≠ g) (.slice A3 I.length c3) I) := ⟨Kd.R_far (p := ⟨g, 1, none⟩) HRI5.out (fun _ h => h) _⟩
            have HR6 : Aside0 (kPO.R 54 (w5.setCell ⟨g, 1, none⟩ (.slice A8 (j + 1) c8)) w.heap.size (fun k => k ≠ g) (.slice A8 (j + 1) c8) (O.take (j + 1))) := ⟨by rw [HTK.out]; exact Kd.R_far (p := ⟨g, 1, none⟩) HR5.out (fun _ h => h) _⟩
            have HB6 : Aside0 (Below w.heap.size w (w5.setCell ⟨g, 1, none⟩ (.slice A8 (j + 1) c8))) := ⟨HB5.out.setCell HGE.out _⟩
            clear k5 f5
            generalize (w5.setCell ⟨g, 1, none⟩ (.slice A8 (j + 1) c8)) = w6 at HG6 HRI6 HR6 HB6 ⊢
            go_wp2_with fail
            go_roundw
            case rel => exact ⟨j + 1, _, rfl, hlt2, HG6, HRI6, HR6, HB6⟩
            case measure => simp only [intOf]; omega
        · obtain rfl : j = n2 := by omega
          obtain ⟨A3, c3, rfl⟩ := Kd.R_slice HRIq.out
          obtain ⟨A4, c4, rfl⟩ := Kd.R_slice HRq.out
          have HRO : Aside0 (kPO.R 54 wr w.heap.size (fun k => k ≠ g) (.slice A4 O.length c4) O) := ⟨by have h := HRq.out; rwa [List.take_of_length_le (by rw [HOL.out]; exact Nat.le_refl _)] at h⟩
          go_wp2_with fail
          refine bodyPost_ret (results_tmp rfl _ _ _) rfl ⟨g, A3, c3, A4, c4, rfl, ⟨?_, ?_, ?_⟩, HBq.out⟩
          · have h := HGq.out
            rw [List.take_of_length_le (by rw [HOL.out]; exact Nat.le_refl _), HIL.out, HOL.out] at h
            exact h
          · have h := (Kd.R_reads' HRIq.out).2.2
            rwa [HIL.out] at h
          · have h := (Kd.R_reads' HRO.out).2.2
            rwa [HOL.out] at h
end Go.Proofs.Ytpggphjnghhmeaa.Srt
