/-
  The law FnPoint, walked behind its guards.
-/
import Derived.Test.YthmfbkmdhnfbnaaImplPoint
import Derived.Test.YthmfbkmdhnfbnaaAddedLaw
namespace Go.Proofs.Ythmfbkmdhnfbnaa.BloomW
open Go.RowKit Go.Proofs.Ythmfbkmdhnfbnaa.Hand Go.Proofs.YthmfbkmdhnfbnaaW.PrintWords Go.Proofs.YthmfbkmdhnfbnaaW.PrintLast Go.Proofs.YthmfbkmdhnfbnaaW.PrintMore Mur Blo

set_option maxHeartbeats 16000000 in
theorem point_main (A : Option Addr) (c : Nat) (D : List Int) (fu : Nat) (tw fl : Int) (hs : List Int) (i : Int) (w : World) (hD : Kd.C (Kd.int .u8) w A D.length D) (hDr : ∀ x ∈ D, 0 ≤ x ∧ x < 256)
    (hl : hs.length = 32) (h0 : 0 ≤ i) (h1 : i < 4294967296) (hr : ∀ x ∈ hs, 0 ≤ x ∧ x < 256)
    (hn0 : 1 ≤ D.length) (hn : D.length ≤ 200) (hf : fu ≤ 50) (hfl0 : 0 ≤ fl) (hfl1 : fl ≤ 2)
    (H1 : ∀ w1, Below w.heap.size w w1 → Calls Try.prog 10 #[.agg #[.slice A D.length c, .int .u32 fu, .int .u32 tw, .int .i64 fl]] w1 fun e w' => e = .returned (.bool true) ∧ Below w1.heap.size w1 w')
    (H4 : ∀ w1, Below w.heap.size w w1 → Calls Try.prog 12 #[.agg #[.slice A D.length c, .int .u32 fu, .int .u32 tw, .int .i64 fl]] w1 fun e w' => e = .returned (.bool true) ∧ Below w1.heap.size w1 w') :
    Calls Try.prog 5 #[.agg #[.slice A D.length c, .int .u32 fu, .int .u32 tw, .int .i64 fl], .agg (hx hs), .int .u32 i] w fun e w' => e = .returned (.bool true) ∧ Below w.heap.size w w' := by
  obtain ⟨n, hnn⟩ : ∃ n, n = D.length := ⟨_, rfl⟩
  have HDL := Aside0.mk hnn
  obtain ⟨X, hX⟩ : ∃ X, X = hx hs := ⟨_, rfl⟩
  obtain ⟨L, hL⟩ : ∃ L, L = hs ++ le4 i := ⟨_, rfl⟩
  have hLl : L.length = 36 := by rw [hL]; exact len36 hs i hl
  have HLr : Aside0 (∀ x ∈ L, 0 ≤ x ∧ x < 256) := ⟨by rw [hL]; exact le4_range hr h0 h1⟩
  obtain ⟨R, hR⟩ : ∃ R, R = added D (bitsL fu tw n L) := ⟨_, rfl⟩
  have HRL : Aside0 (R.length = n) := ⟨by rw [hR, added_length, ← hnn]⟩
  obtain ⟨B, hB⟩ : ∃ B, B = might D (bitsL fu tw n L) := ⟨_, rfl⟩
  have hxs : X.size = 32 := by rw [hX]; simp [hx, hl]
  have HXS : Aside0 ((Try.prog.info? 40).map (·.size) = some X.size) := ⟨by rw [size40, hxs]⟩
  have HPT : Aside0 (∀ w2, Below w.heap.size w w2 → Calls Try.prog 18 #[.agg X, .int .u32 i] w2 fun e w' => ∃ A1 c1, e = .returned (.slice A1 36 c1) ∧ Kd.C (Kd.int .u8) w' A1 36 L ∧ 36 ≤ c1 ∧ Below w2.heap.size w2 w') := ⟨fun w2 h2 => by
    rw [hX]
    refine (point_calls hs i w2 hl h0 h1).mono fun e w' ⟨v, a, b, d⟩ => ?_
    rw [← hL] at b
    obtain ⟨A1, c1, rfl⟩ := Kd.R_slice b
    have g := Kd.R_reads' b
    rw [hLl] at a g
    exact ⟨A1, c1, a, g.2.2, g.2.1, d⟩⟩
  have HAP : Aside0 (∀ w2, Below w.heap.size w w2 → Calls Try.prog 19 #[.agg #[.slice A n c, .int .u32 fu, .int .u32 tw, .int .i64 fl], .agg X, .int .u32 i] w2 fun e w' => ∃ A1 c1, e = .returned (.tuple #[.agg #[.slice A1 n c1, .int .u32 fu, .int .u32 tw, .int .i64 fl], .bool true]) ∧ Kd.C (Kd.int .u8) w' A1 n R ∧ n ≤ c1 ∧ Below w2.heap.size w2 w') := ⟨fun w2 h2 => by
    rw [hX, hnn]
    refine (implAddPoint_calls A c D fu tw fl hs i w2 (Kd.C_below hD h2) hl h0 h1 hr (by omega) (by omega) hf hfl0 (by omega)).mono fun e w' ⟨v, a, b, d⟩ => ?_
    rw [← hL, ← hnn, ← hR] at b
    obtain ⟨A1, c1, rfl⟩ := Kd.R_slice b
    have g := Kd.R_reads' b
    rw [HRL.out] at a g
    rw [← hnn]
    exact ⟨A1, c1, a, g.2.2, g.2.1, d⟩⟩
  have HMP : Aside0 (∀ w2, Below w.heap.size w w2 → Calls Try.prog 20 #[.agg #[.slice A n c, .int .u32 fu, .int .u32 tw, .int .i64 fl], .agg X, .int .u32 i] w2 fun e w' => e = .returned (.tuple #[.bool B, .bool true]) ∧ Below w2.heap.size w2 w') := ⟨fun w2 h2 => by
    rw [hX, hnn, hB, hL, hnn]
    exact implMatchPoint_calls A c D fu tw fl hs i w2 (Kd.C_below hD h2) hDr hl h0 h1 hr (by omega) (by omega) hf hfl0 (by omega)⟩
  have HSA : Aside0 (∀ w2 Ai ci, Below w.heap.size w w2 → Kd.C (Kd.int .u8) w2 Ai 36 L → 36 ≤ ci → Calls Try.prog 13 #[.agg #[.slice A n c, .int .u32 fu, .int .u32 tw, .int .i64 fl], .slice Ai 36 ci] w2 fun e w' => ∃ A1 c1, e = .returned (.slice A1 n c1) ∧ Kd.C (Kd.int .u8) w' A1 n R ∧ n ≤ c1 ∧ Below w2.heap.size w2 w') := ⟨fun w2 Ai ci h2 hC hc => by
    have h := added_calls A c D fu tw fl Ai ci L w2 (Kd.C_below hD h2) (by rw [hLl]; exact hC) (by omega) (by omega) HLr.out (by omega) (by omega) hf
    rw [hLl, ← hnn] at h
    refine h.mono fun e w' ⟨v, a, b, d⟩ => ?_
    rw [← hR] at b
    obtain ⟨A1, c1, rfl⟩ := Kd.R_slice b
    have g := Kd.R_reads' b
    rw [HRL.out] at a g
    exact ⟨A1, c1, a, g.2.2, g.2.1, d⟩⟩
  have HMI : Aside0 (∀ w2 Ai ci, Below w.heap.size w w2 → Kd.C (Kd.int .u8) w2 Ai 36 L → 36 ≤ ci → Calls Try.prog 17 #[.agg #[.slice A n c, .int .u32 fu, .int .u32 tw, .int .i64 fl], .slice Ai 36 ci] w2 fun e w' => e = .returned (.bool B) ∧ Below w2.heap.size w2 w') := ⟨fun w2 Ai ci h2 hC hc => by
    have h := might_calls A c D fu tw fl Ai ci L w2 (Kd.C_below hD h2) (by rw [hLl]; exact hC) (by omega) (by omega) HLr.out (by omega) (by omega) hf
    rw [hLl, ← hnn, ← hB] at h
    exact h⟩
  have HSM : Aside0 (∀ W A1 c1 A2 c2, Kd.C (Kd.int .u8) W A1 n R → n ≤ c1 → Kd.C (Kd.int .u8) W A2 n R → n ≤ c2 → Calls Try.prog 15 #[.slice A1 n c1, .slice A2 n c2] W fun e w' => e = .returned (.bool true) ∧ Below W.heap.size W w') := ⟨fun W A1 c1 A2 c2 h1 h2 h3 h4 => by
    have h := PFnAdded.laws_same.calls A1 c1 R A2 c2 R true W (by rw [HRL.out]; exact h1) (by rw [HRL.out]; exact h2) (by rw [HRL.out]; exact h3) (by rw [HRL.out]; exact h4) (by simp [PFnAdded.laws_same.f])
    rw [HRL.out] at h
    exact h.mono fun e w' ⟨a, b⟩ => ⟨a, b.below⟩⟩
  rw [← hnn] at H1 H4
  rw [← hnn, ← hX]
  have H1 := Aside0.mk H1
  have H4 := Aside0.mk H4
  clear hD hDr hl hr hn0 hn hnn hX hL hR hB hxs hLl
  go_enter Try.func5, Try.ntmps5
  have HB0 := Aside0.mk (below_alloc (below_alloc (Below.refl w.heap.size w) (boxO A n c fu tw fl)) (.cells X 40 (0, 0)))
  have HG0 : Aside0 (((w.alloc (boxO A n c fu tw fl)).alloc (.cells X 40 (0, 0))).heap[w.heap.size]? = some (boxO A n c fu tw fl)) := ⟨blk_below (box_new w (boxO A n c fu tw fl)) (below_alloc (Below.refl _ _) _)⟩
  have HX0 : Aside0 (((w.alloc (boxO A n c fu tw fl)).alloc (.cells X 40 (0, 0))).heap[w.heap.size + 1]? = some (.cells X 40 (0, 0))) := ⟨by
    have := box_new (w.alloc (boxO A n c fu tw fl)) (.cells X 40 (0, 0))
    simpa using this⟩
  go_wp2_with fail
  refine (H1.out _ HB0.out).mono ?_
  rintro e w1 ⟨rfl, hb1⟩
  have HB1 := Aside0.mk (below_step HB0.out hb1)
  have HG1 := Aside0.mk (blk_below HG0.out hb1)
  have HX1 := Aside0.mk (blk_below HX0.out hb1)
  clear hb1
  obtain ⟨k0, k1, k2, k3⟩ := box_cells HG1.out
  go_wp2_with fail
  refine (H4.out _ HB1.out).mono ?_
  rintro e w2 ⟨rfl, hb2⟩
  have HB2 := Aside0.mk (below_step HB1.out hb2)
  have HG2 := Aside0.mk (blk_below HG1.out hb2)
  have HX2 := Aside0.mk (blk_below HX1.out hb2)
  clear hb2 k0 k1 k2 k3
  go_wp2_with (first | ((with_reducible show wpList _ _ _ _ _ _); (with_reducible refine wpList_load_row (o := ⟨some 18, _, _, _, _, _⟩) rfl 40 (.tmp 4) rfl (w.heap.size + 1) rfl 40 X (0, 0) _ HX2.out Try.underlying40 rfl HXS.out ?_)) | fail)
  refine (HPT.out _ HB2.out).mono ?_
  rintro e w3 ⟨A3, c3, rfl, hC3, hc3, hb3⟩
  have HB3 := Aside0.mk (below_step HB2.out hb3)
  have HG3 := Aside0.mk (blk_below HG2.out hb3)
  have HX3 := Aside0.mk (blk_below HX2.out hb3)
  have HC3 := Aside0.mk hC3
  have HC3c := Aside0.mk hc3
  clear hb3 hC3 hc3
  obtain ⟨k0, k1, k2, k3⟩ := box_cells HG3.out
  go_wp2_with (first | ((with_reducible show wpList _ _ _ _ _ _); (with_reducible refine wpList_load_row (o := ⟨some 23, _, _, _, _, _⟩) rfl 40 (.tmp 4) rfl (w.heap.size + 1) rfl 40 X (0, 0) _ HX3.out Try.underlying40 rfl HXS.out ?_)) | fail)
  refine (HAP.out _ HB3.out).mono ?_
  rintro e w4 ⟨A4, c4, rfl, hC4, hc4, hb4⟩
  have HB4 := Aside0.mk (below_step HB3.out hb4)
  have HG4 := Aside0.mk (blk_below HG3.out hb4)
  have HX4 := Aside0.mk (blk_below HX3.out hb4)
  have HC34 := Aside0.mk (Kd.C_below HC3.out hb4)
  have HC4 := Aside0.mk hC4
  have HC4c := Aside0.mk hc4
  clear hb4 hC4 hc4 k0 k1 k2 k3
  have HBA := Aside0.mk (below_alloc (Below.refl w4.heap.size w4) (boxO A4 n c4 fu tw fl))
  obtain ⟨k0, k1, k2, k3⟩ := box_cells (blk_below HG4.out HBA.out)
  go_wp2_with (first | ((with_reducible show wpList _ _ _ _ _ _); (with_reducible refine wpList_load_row (o := ⟨some 30, _, _, _, _, _⟩) rfl 40 (.tmp 4) rfl (w.heap.size + 1) rfl 40 X (0, 0) _ (blk_below HX4.out HBA.out) Try.underlying40 rfl HXS.out ?_)) | fail)
  refine (HMP.out _ (below_step HB4.out HBA.out)).mono ?_
  rintro e w5 ⟨rfl, hb5⟩
  have HB45 := Aside0.mk (below_step HBA.out hb5)
  have HB5 := Aside0.mk (below_step HB4.out HB45.out)
  have HG5 := Aside0.mk (blk_below HG4.out HB45.out)
  have HT5 : Aside0 (w5.heap[w4.heap.size]? = some (boxO A4 n c4 fu tw fl)) := ⟨blk_below (box_new _ _) hb5⟩
  have HC35 := Aside0.mk (Kd.C_below HC34.out HB45.out)
  have HC5 := Aside0.mk (Kd.C_below HC4.out HB45.out)
  clear hb5 k0 k1 k2 k3
  obtain ⟨k0, k1, k2, k3⟩ := box_cells HG5.out
  obtain ⟨q0, q1, q2, q3⟩ := box_cells HT5.out
  clear h1
  go_wp2_with fail
  go_region_held3 (fun w' => w'.cell? ⟨w.heap.size, 0, none⟩ = some (.slice A n c) ∧ w'.cell? ⟨w.heap.size, 1, none⟩ = some (.int .u32 fu) ∧ w'.cell? ⟨w.heap.size, 2, none⟩ = some (.int .u32 tw) ∧ w'.cell? ⟨w.heap.size, 3, none⟩ = some (.int .i64 fl) ∧ w'.cell? ⟨w4.heap.size, 0, none⟩ = some (.slice A4 n c4))
    (first | (with_reducible exact ⟨pw_cell_below HB8.out k0, pw_cell_below HB8.out k1, pw_cell_below HB8.out k2, pw_cell_below HB8.out k3, pw_cell_below HB8.out q0⟩) | (with_reducible exact ⟨pw_cell_below HB7.out k0, pw_cell_below HB7.out k1, pw_cell_below HB7.out k2, pw_cell_below HB7.out k3, pw_cell_below HB7.out q0⟩) | (with_reducible exact ⟨pw_cell_below HB6.out k0, pw_cell_below HB6.out k1, pw_cell_below HB6.out k2, pw_cell_below HB6.out k3, pw_cell_below HB6.out q0⟩) | go_keep)
    (first | (go_at_call 13; refine (HSA.out w5.drew A3 c3 (below_drew HB5.out) HC35.out HC3c.out).mono ?_; rintro e w6 ⟨A6, c6, rfl, hC6, hc6, hb6⟩; have HB6 := Aside0.mk (below_step (below_drew (Below.refl w5.heap.size w5)) hb6); have HC6 := Aside0.mk hC6; have HC6c := Aside0.mk hc6; have HC56 := Aside0.mk (Kd.C_below HC5.out HB6.out); clear hC6 hc6 hb6) | (go_at_call 15; refine (HSM.out w6 A4 c4 A6 c6 HC56.out HC4c.out HC6.out HC6c.out).mono ?_; rintro e w7 ⟨rfl, hb7⟩; have HB7 := Aside0.mk (below_step HB6.out hb7); clear hb7) | (go_at_call 17; refine (HMI.out w7 A3 c3 (below_step HB5.out HB7.out) (Kd.C_below HC35.out HB7.out) HC3c.out).mono ?_; rintro e w8 ⟨rfl, hb8⟩; have HB8 := Aside0.mk (below_step HB7.out hb8); clear hb8))
  go_wp2
  go_ret
  exact ⟨rfl, below_step HB5.out HB8.out⟩

theorem point_stop (A : Option Addr) (c : Nat) (D : List Int) (fu tw fl : Int) (X : Array Value) (i : Int) (w : World) (b1 b4 : Bool)
    (H1 : ∀ w1, Below w.heap.size w w1 → Calls Try.prog 10 #[.agg #[.slice A D.length c, .int .u32 fu, .int .u32 tw, .int .i64 fl]] w1 fun e w' => e = .returned (.bool b1) ∧ Below w1.heap.size w1 w')
    (H4 : ∀ w1, Below w.heap.size w w1 → Calls Try.prog 12 #[.agg #[.slice A D.length c, .int .u32 fu, .int .u32 tw, .int .i64 fl]] w1 fun e w' => e = .returned (.bool b4) ∧ Below w1.heap.size w1 w')
    (hs : ¬ (b1 = true ∧ b4 = true)) :
    Calls Try.prog 5 #[.agg #[.slice A D.length c, .int .u32 fu, .int .u32 tw, .int .i64 fl], .agg X, .int .u32 i] w fun e w' => e = .returned (.bool true) ∧ Below w.heap.size w w' := by
  have H1 := Aside0.mk H1
  have H4 := Aside0.mk H4
  have hs := Aside0.mk hs
  go_enter Try.func5, Try.ntmps5
  have HB0 := Aside0.mk (below_alloc (below_alloc (Below.refl w.heap.size w) (boxO A D.length c fu tw fl)) (.cells X 40 (0, 0)))
  have HG0 : Aside0 (((w.alloc (boxO A D.length c fu tw fl)).alloc (.cells X 40 (0, 0))).heap[w.heap.size]? = some (boxO A D.length c fu tw fl)) := ⟨blk_below (box_new w (boxO A D.length c fu tw fl)) (below_alloc (Below.refl _ _) _)⟩
  go_wp2_with fail
  refine (H1.out _ HB0.out).mono ?_
  rintro e w1 ⟨rfl, hb1⟩
  have HB1 := Aside0.mk (below_step HB0.out hb1)
  have HG1 := Aside0.mk (blk_below HG0.out hb1)
  clear hb1
  cases b1
  · go_wp2
    all_goals (go_ret; exact ⟨rfl, HB1.out⟩)
  obtain ⟨k0, k1, k2, k3⟩ := box_cells HG1.out
  go_wp2_with fail
  refine (H4.out _ HB1.out).mono ?_
  rintro e w2 ⟨rfl, hb2⟩
  have HB2 := Aside0.mk (below_step HB1.out hb2)
  clear hb2
  cases b4
  · go_wp2
    all_goals (go_ret; exact ⟨rfl, HB2.out⟩)
  exact (hs.out (by simp)).elim

theorem point_law (A : Option Addr) (c : Nat) (D : List Int) (fu tw fl : Int) (hs : List Int) (i : Int) (w : World) (hfu : 0 ≤ fu) (hD : Kd.C (Kd.int .u8) w A D.length D) (hDc : D.length ≤ c) (hDr : ∀ x ∈ D, 0 ≤ x ∧ x < 256)
    (hl : hs.length = 32) (hr : ∀ x ∈ hs, 0 ≤ x ∧ x < 256) (h0 : 0 ≤ i) (h1 : i < 4294967296) :
    Calls Try.prog 5 #[.agg #[.slice A D.length c, .int .u32 fu, .int .u32 tw, .int .i64 fl], .agg (hx hs), .int .u32 i] w fun e w' => e = .returned (.bool true) ∧ Below w.heap.size w w' := by
  have H1 : ∀ w1, Below w.heap.size w w1 → Calls Try.prog 10 #[.agg #[.slice A D.length c, .int .u32 fu, .int .u32 tw, .int .i64 fl]] w1 fun e w' => e = .returned (.bool (decide (D.length ≤ 2147483647))) ∧ Below w1.heap.size w1 w' := fun w1 hw => PFnAdded.laws_zzFits1.calls A c D fu tw fl _ w1 (Kd.C_below hD hw) hDc (zz1_f D fu tw fl)
  have H4 : ∀ w1, Below w.heap.size w w1 → Calls Try.prog 12 #[.agg #[.slice A D.length c, .int .u32 fu, .int .u32 tw, .int .i64 fl]] w1 fun e w' => e = .returned (.bool (isB D.length fu fl)) ∧ Below w1.heap.size w1 w' := fun w1 hw => PFnAdded.spec_IsBloom.calls A c D fu tw fl _ w1 (Kd.C_below hD hw) hDc (isB_f D fu tw fl)
  by_cases hall : decide (D.length ≤ 2147483647) = true ∧ isB D.length fu fl = true
  · obtain ⟨a1, a4⟩ := hall
    rw [a1] at H1
    rw [a4] at H4
    obtain ⟨c1, c2, c3, c4, c5, c6⟩ := of_decide_eq_true a4
    obtain ⟨m, rfl⟩ := Int.eq_ofNat_of_zero_le hfu
    exact point_main A c D m tw fl hs i w hD hDr hl h0 h1 hr c1 c2 (by omega) c5 c6 H1 H4
  · exact point_stop A c D fu tw fl _ i w _ _ H1 H4 hall
end Go.Proofs.Ythmfbkmdhnfbnaa.BloomW
