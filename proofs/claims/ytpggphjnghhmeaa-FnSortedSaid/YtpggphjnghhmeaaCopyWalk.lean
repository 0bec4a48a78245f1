/-
  The transaction's copy.
-/
import Derived.Test.YtpggphjnghhmeaaTxWalk
namespace Go.Proofs.Ytpggphjnghhmeaa.Srt
open Go.RowKit Go.Proofs.Ytpggphjnghhmeaa.Hand Go.Proofs.Ytpggphjnghhmeaa.PFnSorted Go.Proofs.YtpggphjnghhmeaaW.PrintWords Go.Proofs.YtpggphjnghhmeaaW.PrintLast Go.Proofs.YtpggphjnghhmeaaW.PrintMore

/-- A message of the call's own. -/
structure Own (w : World) (base g : Nat) (v1 : Value) (I : List In40) (v2 : Value) (O : List S27) : Prop where
  blk : w.heap[g]? = some (.cells #[v1, v2] 49 (0, 0))
  RI : kPI.R 50 w base (fun k => k ≠ g) v1 I
  RO : kPO.R 54 w base (fun k => k ≠ g) v2 O
  ge : base ≤ g
set_option maxRecDepth 100000 in
set_option maxHeartbeats 16000000 in
theorem copy_calls (gs : Nat) (A1 : Option Addr) (n1 c1 : Nat) (I : List In40) (A2 : Option Addr) (n2 c2 : Nat) (O : List S27) (w : World) (hM : Msg w gs A1 n1 c1 I A2 n2 c2 O) (h1 : n1 ≤ 12) (h2 : n2 ≤ 12) (hs : small O) :
    Calls Try.prog 19 #[.pointer (some ⟨gs, 0, none⟩)] w fun e w' => ∃ g v1 v2, e = .returned (.pointer (some ⟨g, 0, none⟩)) ∧ Own w' w.heap.size g v1 I v2 O ∧ Below w.heap.size w w' := by
  obtain ⟨s0, s1⟩ := hM.cells
  have HI := Aside0.mk hM.CI
  have HO := Aside0.mk hM.CO
  have HIL : Aside0 (I.length = n1) := ⟨hM.CI.1⟩
  have HOL : Aside0 (O.length = n2) := ⟨hM.CO.1⟩
  have HSM := Aside0.mk hs
  clear hM hs
  have HB := Aside0.mk (Below.refl w.heap.size w)
  go_enter Try.func19, Try.ntmps19
  go_wp2_with (first
    | ((with_reducible refine gate_dst (N := 10) rfl ?_); refine box_event ?hg (N := 10) ?hd (cs := #[.slice none 0 0, .slice none 0 0]) (t := 49) ?hr ?_; (case hd => rfl); (case hg => rfl); (case hr => first | (go_simp; done) | (go_simp; rfl)); intro g hg w1 hbox hb1; have HG1 := Aside0.mk hbox; have HB1 := Aside0.mk (below_step HB.out hb1); have HGE : Aside0 (w.heap.size ≤ g) := ⟨by rw [hg]; exact Nat.le_refl _⟩; have s2 := pw_cell_below hb1 s0; clear hg hbox hb1)
    | fail)
  have HR1 : Aside0 (kPI.R 50 w1 w.heap.size (fun k => k ≠ g) (.slice none 0 0) (I.take 0)) := ⟨Kd.R_nil _ _ _ _ _⟩
  clear s0 s2
  go_loopw [16] (fun v16 wr => ∃ (i : Nat) (v1 : Value), v16 = .int .i64 i ∧ i ≤ n1 ∧ Aside0 (wr.heap[g]? = some (.cells #[v1, .slice none 0 0] 49 (0, 0))) ∧ Aside0 (kPI.R 50 wr w.heap.size (fun k => k ≠ g) v1 (I.take i)) ∧ Aside0 (Below w.heap.size w wr)) (fun v16 _ => n1 - (intOf v16).toNat)
  case atStart => exact ⟨0, _, rfl, Nat.zero_le _, HG1, HR1, HB1⟩
  case round =>
    obtain ⟨i, v1, rfl, hi, HG, HR, HBr⟩ := hrel
    clear HG1 HR1 HB1 HB
    by_cases hlt : i < n1
    · obtain ⟨ad, b, e1, kp, hx, hbb⟩ := PI_at (Kd.C_below HI.out HBr.out) hlt
      subst e1
      have HTK : Aside0 (I.take (i + 1) = I.take i ++ [I.getD i default]) := ⟨by have := HIL.out; rw [List.take_add_one, List.getD_eq_getElem?_getD, List.getElem?_eq_getElem (by omega)]; rfl⟩
      generalize I.getD i default = x at hx hbb HTK
      obtain ⟨X33, hX⟩ : ∃ X33, X33 = cell40 x := ⟨_, rfl⟩
      rw [← hX] at hbb
      have HX33 : Aside0 (X33.length = 33 ∧ ∀ v ∈ X33, v.oneCell' = true) := ⟨by rw [hX]; exact ⟨cell40_length hx, cell40_one x⟩⟩
      have HXX := Aside0.mk hX
      have HH := Aside0.mk hx
      have HBB := Aside0.mk hbb
      obtain ⟨A3, c3, rfl⟩ := Kd.R_slice HR.out
      have k0 : wr.cell? ⟨g, 0, none⟩ = some (.slice A3 (I.take i).length c3) := by rw [blk_cell HG.out]; rfl
      have hm : (I.take i).length = i := by have := HIL.out; rw [List.length_take]; omega
      rw [hm] at k0 HG HR
      have HLM := Aside0.mk hm
      have HLX : Aside0 ((I.take i ++ [x]).length = i + 1) := ⟨by rw [List.length_append, HLM.out]; rfl⟩
      have i0 : (0 : Int) ≤ (i : Int) := by omega
      have i1 : (i : Int) < (n1 : Int) := by omega
      have HOWN : Aside0 (∀ k, Value.ownBlock (.slice A3 i c3) = some k → k ≠ g ∧ k < wr.heap.size) := ⟨fun k hk => ⟨HR.out.1 k hk, R_ownlt HR.out k hk⟩⟩
      have HGL := Aside0.mk (blk_lt HG.out)
      clear hX hx hm hbb
      go_wp2_with (first
        | ((with_reducible show wpList _ _ _ _ _ _); (with_reducible refine wpList_load_mid (op := ⟨some 22, _, _, _, _, _⟩) rfl 53 (.tmp 21) rfl b 0 rfl X33 _ (row_range HBB.out) Try.underlying53 rfl (by rw [info53, HX33.out.1]) ?_))
        | ((with_reducible refine gate_dst (N := 6) rfl ?_); refine box_event ?hg (N := 6) ?hd (cs := (List.replicate 32 (Value.int .u8 0) ++ [Value.int .u32 0]).toArray) (t := 53) ?hr ?_; (case hd => rfl); (case hg => rfl); (case hr => first | (go_simp; done) | (go_simp; rfl)); intro g6 hg w2 hbox hb2; have HZ2 := Aside0.mk hbox; have HB2 := Aside0.mk hb2; have HG6 : Aside0 (g6 = wr.heap.size) := ⟨hg⟩; clear hg hbox hb2)
        | ((with_reducible refine gate_store (t := 53) (p := 6) rfl ?_); refine whole_store info53 rfl rfl rfl HZ2.out (by simp) X33 HX33.out.1 HX33.out.2 HB2.out (Nat.le_of_eq HG6.out.symm) rfl rfl ?_; intro w3 hX hB hK; have HS3 := Aside0.mk hX; have HB3 := Aside0.mk hB; have k3 := pw_cell_below hB k0; have HR3 := Aside0.mk (Kd.R_below HR.out hB); have HBW := Aside0.mk (below_step HBr.out hB); have HM : Aside0 (kPI.M w3 w.heap.size (fun k => k = g6) x [.pointer (some ⟨g6, 0, none⟩)]) := ⟨⟨g6, rfl, HH.out, by rw [← HXX.out]; exact hX, rfl, by rw [HG6.out]; exact HBr.out.size⟩⟩; clear hX hB hK k0)
        | ((with_reducible refine gate_builtin (b := .append) (xs := #[.tmp 27, .tmp 28]) rfl ?_); refine Kd.R_append (W := w3) kPI (w0 := w) w.heap.size rfl (.tmp 27) (.tmp 28) 46 50 (.pointer none) 8 rfl Try.underlying46 infoP50 rfl (by decide) (by decide) (.slice A3 i c3) (I.take i) x [.pointer (some ⟨g6, 0, none⟩)] (fun k => k ≠ g) (fun k => k = g6) rfl rfl HM.out (fun k hk => by have := HGL.out; have := HG6.out; exact ⟨by omega, fun e => by have := (HOWN.out k e.symm).2; omega⟩) (fun k hk => by have := HGL.out; have := HB3.out.size; omega) HR3.out HBW.out HBW.out.size (by rw [HLM.out]; omega) ?_; intro v4 w4 hR4 hb4 hg4 _; obtain ⟨A5, c5, rfl⟩ := Kd.R_slice hR4; rw [HLX.out] at hR4 ⊢; have HR4 := Aside0.mk hR4; have HB4 := Aside0.mk hb4; have HG4 : Aside0 (w4.heap[g]? = some (.cells #[.slice A3 i c3, .slice none 0 0] 49 (0, 0))) := ⟨((hg4.block g (Nat.lt_of_lt_of_le HGL.out HB3.out.size) (fun e => (HOWN.out g e.symm).1 rfl)).trans (HB3.out.block g HGL.out)).trans HG.out⟩; have k4 : w4.cell? ⟨g, 0, none⟩ = some (.slice A3 i c3) := (by rw [blk_cell HG4.out]; rfl); have f4 := blk_frozen HG4.out 0; clear hR4 hb4 hg4 k3)
        | fail)
      have HG5 : Aside0 ((w4.setCell ⟨g, 0, none⟩ (.slice A5 (i + 1) c5)).heap[g]? = some (.cells #[.slice A5 (i + 1) c5, .slice none 0 0] 49 (0, 0))) := ⟨blk_set (i := 0) (y := .slice A5 (i + 1) c5) HG4.out⟩
      have HR5 : Aside0 (kPI.R 50 (w4.setCell ⟨g, 0, none⟩ (.slice A5 (i + 1) c5)) w.heap.size (fun k => k ≠ g) (.slice A5 (i + 1) c5) (I.take (i + 1))) := ⟨by rw [HTK.out]; exact Kd.R_far (p := ⟨g, 0, none⟩) HR4.out (fun _ h => h) _⟩
      have HB5 : Aside0 (Below w.heap.size w (w4.setCell ⟨g, 0, none⟩ (.slice A5 (i + 1) c5))) := ⟨HB4.out.setCell HGE.out _⟩
      clear k4 f4
      go_roundw
      case rel => exact ⟨i + 1, _, rfl, hlt, HG5, HR5, HB5⟩
      case measure => simp only [intOf]; omega
    · obtain rfl : i = n1 := by omega
      have HRI : Aside0 (kPI.R 50 wr w.heap.size (fun k => k ≠ g) v1 I) := ⟨by have h := HR.out; rwa [List.take_of_length_le (by rw [HIL.out]; exact Nat.le_refl _)] at h⟩
      clear HR
      have s3 := pw_cell_below HBr.out s1
      go_wp2_with fail
      have HR2 : Aside0 (kPO.R 54 wr w.heap.size (fun k => k ≠ g) (.slice none 0 0) (O.take 0)) := ⟨Kd.R_nil _ _ _ _ _⟩
      clear s3 s1
      go_loopw [38] (fun v38 wq => ∃ (j : Nat) (v2 : Value), v38 = .int .i64 j ∧ j ≤ n2 ∧ Aside0 (wq.heap[g]? = some (.cells #[v1, v2] 49 (0, 0))) ∧ Aside0 (kPI.R 50 wq w.heap.size (fun k => k ≠ g) v1 I) ∧ Aside0 (kPO.R 54 wq w.heap.size (fun k => k ≠ g) v2 (O.take j)) ∧ Aside0 (Below w.heap.size w wq)) (fun v38 _ => n2 - (intOf v38).toNat)
      case atStart => exact ⟨0, _, rfl, Nat.zero_le _, HG, HRI, HR2, HBr⟩
      case round =>
        obtain ⟨j, v2, rfl, hj, HGq, HRIq, HRq, HBq⟩ := hrel
        clear HG HRI HR2 HBr
        by_cases hlt2 : j < n2
        · obtain ⟨ad, b, A6, c6, e1, kp, q0, q1, hl6, hC6⟩ := PO_at HO.out hlt2
          subst e1
          have HTK : Aside0 (O.take (j + 1) = O.take j ++ [O.getD j default]) := ⟨by have := HOL.out; rw [List.take_add_one, List.getD_eq_getElem?_getD, List.getElem?_eq_getElem (by omega)]; rfl⟩
          have hxs : (O.getD j default).f1.length ≤ 1000000 := HSM.out _ (by have := HOL.out; rw [List.getD_eq_getElem?_getD, List.getElem?_eq_getElem (by omega)]; exact List.getElem_mem _)
          generalize O.getD j default = x at q0 q1 hl6 hC6 HTK hxs
          have kp1 := pw_cell_below HBq.out kp
          have HC6 : Aside0 (Kd.C (Kd.int .u8) wr A6 x.f1.length x.f1) := ⟨Kd.C_below hC6 HBq.out⟩
          obtain ⟨A4, c4, rfl⟩ := Kd.R_slice HRq.out
          have k1 : wr.cell? ⟨g, 1, none⟩ = some (.slice A4 (O.take j).length c4) := by rw [blk_cell HGq.out]; rfl
          have hm : (O.take j).length = j := by have := HOL.out; rw [List.length_take]; omega
          rw [hm] at k1 HGq HRq
          have HLM := Aside0.mk hm
          have i0 : (0 : Int) ≤ (j : Int) := by omega
          have i1 : (j : Int) < (n2 : Int) := by omega
          have HXS := Aside0.mk hxs
          obtain ⟨f, hf⟩ : ∃ f, f = x.f0 := ⟨_, rfl⟩
          have HF0 := Aside0.mk hf
          rw [← hf] at q0
          have p0 := pw_cell_below HBq.out q0
          have p1 := pw_cell_below HBq.out q1
          have HGL := Aside0.mk (blk_lt HGq.out)
          have HOWN : Aside0 (∀ k, Value.ownBlock (.slice A4 j c4) = some k → k ≠ g ∧ k < wr.heap.size) := ⟨fun k hk => ⟨HRq.out.1 k hk, R_ownlt HRq.out k hk⟩⟩
          have HLX : Aside0 ((O.take j ++ [x]).length = j + 1) := ⟨by rw [List.length_append, HLM.out]; rfl⟩
          have HQ := Aside0.mk (And.intro q0 q1)
          clear hC6 hxs hm hf hl6 q0 q1 kp
          go_wp2_with fail
          go_region_law
            (first
            | (refine Kd.R_append_rows_step (Kd.int .u8) (w0 := wr) wr.heap.size rfl (.const (.slice none 0 0)) (.tmp 54) 25 5 (.int .u8 0) 1 rfl Try.underlying25 info5' rfl (by decide) (by decide) (.slice none 0 0) [] x.f1 A6 x.f1.length c6 (fun _ => True) (fun _ => False) rfl rfl (Kd.R_nil _ _ _ _ _) (Kd.C_below HC6.out (below_drew (Below.refl _ _))) (fun _ _ h => h) (fun _ h => h.elim) (fun _ _ => trivial) (below_drew (Below.refl _ _)) (Nat.le_refl _) (by have := HXS.out; simp; omega) ?_; intro v5 w4 hR5 hb5 _ _; rw [List.nil_append] at hR5; obtain ⟨A7, c7, rfl⟩ := Kd.R_slice hR5; have p04 := pw_cell_below hb5 p0; have k4 := pw_cell_below hb5 k1; have k4a := pw_cell_below (below_alloc (Below.refl w4.heap.size w4) (.cells #[.int .i64 f, .slice A7 x.f1.length c7] 56)) k4; have k4b := pw_cell_below (below_alloc (below_alloc (Below.refl w4.heap.size w4) (.cells #[.int .i64 f, .slice A7 x.f1.length c7] 56)) (.cells #[.pointer (some ⟨w4.heap.size, 0, none⟩)] 54)) k4; have HBA : Aside0 (Below wr.heap.size wr (w4.alloc (.cells #[.int .i64 f, .slice A7 x.f1.length c7] 56))) := ⟨below_then hb5 hb5.size (below_alloc (Below.refl _ _) _)⟩; have HS1 : Aside0 ((w4.alloc (.cells #[.int .i64 f, .slice A7 x.f1.length c7] 56)).heap.size = w4.heap.size + 1) := ⟨by show (w4.heap.push _).size = _; simp⟩; have HRW := Aside0.mk (Kd.R_below HRq.out HBA.out); have HRIW := Aside0.mk (Kd.R_below HRIq.out HBA.out); have HBW := Aside0.mk (below_step HBq.out HBA.out); have H34 := Aside0.mk hb5.size; have HM : Aside0 (kPO.M (w4.alloc (.cells #[.int .i64 f, .slice A7 x.f1.length c7] 56)) w.heap.size (fun k => wr.heap.size ≤ k) x [.pointer (some ⟨w4.heap.size, 0, none⟩)]) := ⟨⟨w4.heap.size, .slice A7 x.f1.length c7, rfl, by rw [← HF0.out]; show (w4.heap.push _)[w4.heap.size]? = _; simp, Kd.R_lower (Kd.R_below (Kd.R_mono (Kd.R_bound hR5) (fun k hk => hk.2.1)) (below_alloc (Below.refl _ _) _)) HBq.out.size, H34.out, Nat.le_trans HBq.out.size H34.out⟩⟩; clear hR5 hb5)
            | (refine Kd.R_append_step (W := (w4.alloc (.cells #[.int .i64 f, .slice A7 x.f1.length c7] 56))) kPO (w0 := w) w.heap.size rfl (.tmp 46) (.tmp 58) 47 54 (.pointer none) 8 rfl Try.underlying47 infoP54 rfl (by decide) (by decide) (.slice A4 j c4) (O.take j) x [.pointer (some ⟨w4.heap.size, 0, none⟩)] (fun k => k ≠ g) (fun k => wr.heap.size ≤ k) rfl (by rw [HS1.out]; rfl) HM.out (fun k hk => by have := HGL.out; exact ⟨by omega, fun e => by have := (HOWN.out k e.symm).2; omega⟩) (fun k hk => by have := HGL.out; have := HBA.out.size; omega) HRW.out HBW.out HBW.out.size (by rw [HLM.out]; omega) ?_; intro v5 w5 hR5 hb5 hg5 _; obtain ⟨A8, c8, rfl⟩ := Kd.R_slice hR5; rw [HLX.out] at hR5 ⊢; have HR5 := Aside0.mk hR5; have HB5 := Aside0.mk hb5; have HRI5 := Aside0.mk (RI_grown HRIW.out hg5 (R_typed HRW.out)); have HG5 : Aside0 (w5.heap[g]? = some (.cells #[v1, .slice A4 j c4] 49 (0, 0))) := ⟨((hg5.block g (Nat.lt_of_lt_of_le HGL.out HBA.out.size) (fun e => (HOWN.out g e.symm).1 rfl)).trans (HBA.out.block g HGL.out)).trans HGq.out⟩; have k5 : w5.cell? ⟨g, 1, none⟩ = some (.slice A4 j c4) := (by rw [blk_cell HG5.out]; rfl); have f5 := blk_frozen HG5.out 1; clear hR5 hb5 hg5))
          all_goals
            have HG6 : Aside0 ((w5.setCell ⟨g, 1, none⟩ (.slice A8 (j + 1) c8)).heap[g]? = some (.cells #[v1, .slice A8 (j + 1) c8] 49 (0, 0))) := ⟨blk_set (i := 1) (y := .slice A8 (j + 1) c8) HG5.out⟩
            have HRI6 : Aside0 (kPI.R 50 (w5.setCell ⟨g, 1, none⟩ (.slice A8 (j + 1) c8)) w.heap.size (fun k => k ≠ g) v1 I) := ⟨Kd.R_far (p := ⟨g, 1, none⟩) HRI5.out (fun _ h => h) _⟩
            have HR6 : Aside0 (kPO.R 54 (w5.setCell ⟨g, 1, none⟩ (.slice A8 (j + 1) c8)) w.heap.size (fun k => k ≠ g) (.slice A8 (j + 1) c8) (O.take (j + 1))) := ⟨by rw [HTK.out]; exact Kd.R_far (p := ⟨g, 1, none⟩) HR5.out (fun _ h => h) _⟩
            have HB6 : Aside0 (Below w.heap.size w (w5.setCell ⟨g, 1, none⟩ (.slice A8 (j + 1) c8))) := ⟨HB5.out.setCell HGE.out _⟩
            clear k5 f5
            generalize (w5.setCell ⟨g, 1, none⟩ (.slice A8 (j + 1) c8)) = w6 at HG6 HRI6 HR6 HB6 ⊢
            go_wp2_with fail
            go_roundw
            case rel => exact ⟨j + 1, _, rfl, hlt2, HG6, HRI6, HR6, HB6⟩
            case measure => simp only [intOf]; omega
        · obtain rfl : j = n2 := by omega
          have HRO : Aside0 (kPO.R 54 wr w.heap.size (fun k => k ≠ g) v2 O) := ⟨by have h := HRq.out; rwa [List.take_of_length_le (by rw [HOL.out]; exact Nat.le_refl _)] at h⟩
          go_wp2_with fail
          exact bodyPost_ret (results_tmp rfl _ _ _) rfl ⟨g, v1, v2, rfl, ⟨HGq.out, HRIq.out, HRO.out, HGE.out⟩, HBq.out⟩
end Go.Proofs.Ytpggphjnghhmeaa.Srt
