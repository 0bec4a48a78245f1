-- The kit printed this; of its text spec.Base58 alone is kept, over another print's spec.rebased.
import Derived.Test.YtpgfhcobfaceeaaDoorPFnBase58x0
import Derived.Test.YtpgfhcobfaceeaaDoorPFnUnBase58x
namespace Go.Proofs.YtpgfhcobfaceeaaDoor.PFnBase58
open Go.RowKit Go.Proofs.YtpgfhcobfaceeaaDoorW.PrintWords Go.Proofs.YtpgfhcobfaceeaaDoorW.PrintLast Go.Proofs.YtpgfhcobfaceeaaDoorW.PrintMore
open PFnUnBase58
attribute [local go_sem] max2_int min2_int max_two min_two max_three min_three max_four min_four   -- for this text's walks alone
set_option linter.unusedVariables false
set_option linter.unusedSimpArgs false

/-! ### spec_Base58: function 11 -/
mutual
def spec_Base58.l0 : Nat → List Int → List Int → List Int → List Int → Int → Int → Option (ByteArray)
  | 0, _, _, _, _, _, _ => none
  | k + 1, x0, x3, x4, x12, x13, x14 => if x14 < x13 then (if 0 ≤ x14 then (if x14 < (x12.length : Int) then (if x3.length < 17592186044416 then (spec_Base58.l0 k x0 (x3 ++ [wrap64 (rd x12 x14)]) x4 x12 x13 (wrap64 (x14 + 1))) else (none)) else (none)) else (none)) else (spec_Base58.l1 k x0 x3 x4 0)
def spec_Base58.j2 : Nat → List Int → List Int → Option (ByteArray)
  | 0, _, _ => none
  | k + 1, x3, x4 => (spec_rebased.f k x3 256 58).bind fun t147 => (spec_Base58.l2 k x4 t147 (t147.length : Int) 0)
def spec_Base58.l2 : Nat → List Int → List Int → Int → Int → Option (ByteArray)
  | 0, _, _, _, _ => none
  | k + 1, x4, x41, x42, x43 => if x43 < x42 then (if 0 ≤ x43 then (if x43 < (x41.length : Int) then (if 0 ≤ (rd x41 x43) then (if (rd x41 x43) < 58 then (if x4.length < 140737488355328 then (spec_Base58.l2 k (x4 ++ [bt (⟨#[49, 50, 51, 52, 53, 54, 55, 56, 57, 65, 66, 67, 68, 69, 70, 71, 72, 74, 75, 76, 77, 78, 80, 81, 82, 83, 84, 85, 86, 87, 88, 89, 90, 97, 98, 99, 100, 101, 102, 103, 104, 105, 106, 107, 109, 110, 111, 112, 113, 114, 115, 116, 117, 118, 119, 120, 121, 122]⟩ : ByteArray) (rd x41 x43)]) x41 x42 (wrap64 (x43 + 1))) else (none)) else (none)) else (none)) else (none)) else (none)) else (some (strOfNums x4))
def spec_Base58.l1 : Nat → List Int → List Int → List Int → Int → Option (ByteArray)
  | 0, _, _, _, _ => none
  | k + 1, x0, x3, x4, x7 => if x7 < (x0.length : Int) then (if 0 ≤ x7 then (if (rd x0 x7) = 0 then (if x4.length < 140737488355328 then (spec_Base58.l1 k x0 x3 (x4 ++ [49]) (wrap64 (x7 + 1))) else (none)) else (spec_Base58.j2 k x3 x4)) else (none)) else (spec_Base58.j2 k x3 x4)
end
def spec_Base58.f (k : Nat) (l0 : List Int) : Option (ByteArray) := spec_Base58.l0 k l0 (([] : List Int)) (([] : List Int)) l0 (l0.length : Int) 0
theorem spec_Base58.mono_l : ∀ k, (∀ y0 y1 y2 y3 y4 y5, LeO (spec_Base58.l0 k y0 y1 y2 y3 y4 y5) (spec_Base58.l0 (k + 1) y0 y1 y2 y3 y4 y5)) ∧ (∀ y0 y1, LeO (spec_Base58.j2 k y0 y1) (spec_Base58.j2 (k + 1) y0 y1)) ∧ (∀ y0 y1 y2 y3, LeO (spec_Base58.l2 k y0 y1 y2 y3) (spec_Base58.l2 (k + 1) y0 y1 y2 y3)) ∧ (∀ y0 y1 y2 y3, LeO (spec_Base58.l1 k y0 y1 y2 y3) (spec_Base58.l1 (k + 1) y0 y1 y2 y3))
  | 0 => ⟨fun _ _ _ _ _ _ r h => by simp [spec_Base58.l0] at h, fun _ _ r h => by simp [spec_Base58.j2] at h, fun _ _ _ _ r h => by simp [spec_Base58.l2] at h, fun _ _ _ _ r h => by simp [spec_Base58.l1] at h⟩
  | k + 1 => by
    obtain ⟨ih0, ih1, ih2, ih3⟩ := spec_Base58.mono_l k
    refine ⟨?_, ?_, ?_, ?_⟩
    · intro y0 y1 y2 y3 y4 y5
      unfold spec_Base58.l0
      repeat' first
      | (with_reducible exact ih0 _ _ _ _ _ _)
      | (with_reducible exact ih1 _ _)
      | (with_reducible exact ih2 _ _ _ _)
      | (with_reducible exact ih3 _ _ _ _)
      | (with_reducible exact spec_rebased.mono _ _ _ _)
      | (with_reducible exact LeO.refl _)
      | (with_reducible exact LeO.none _)
      | (with_reducible refine LeO.ite ?_ ?_)
      | (with_reducible refine LeO.bind ?_ (fun _ => ?_))
      | exact ih0 _ _ _ _ _ _
      | exact ih1 _ _
      | exact ih2 _ _ _ _
      | exact ih3 _ _ _ _
      | exact spec_rebased.mono _ _ _ _
      | exact LeO.none _
      | refine LeO.ite ?_ ?_
      | refine LeO.bind ?_ (fun _ => ?_)
    · intro y0 y1
      unfold spec_Base58.j2
      repeat' first
      | (with_reducible exact ih0 _ _ _ _ _ _)
      | (with_reducible exact ih1 _ _)
      | (with_reducible exact ih2 _ _ _ _)
      | (with_reducible exact ih3 _ _ _ _)
      | (with_reducible exact spec_rebased.mono _ _ _ _)
      | (with_reducible exact LeO.refl _)
      | (with_reducible exact LeO.none _)
      | (with_reducible refine LeO.ite ?_ ?_)
      | (with_reducible refine LeO.bind ?_ (fun _ => ?_))
      | exact ih0 _ _ _ _ _ _
      | exact ih1 _ _
      | exact ih2 _ _ _ _
      | exact ih3 _ _ _ _
      | exact spec_rebased.mono _ _ _ _
      | exact LeO.none _
      | refine LeO.ite ?_ ?_
      | refine LeO.bind ?_ (fun _ => ?_)
    · intro y0 y1 y2 y3
      unfold spec_Base58.l2
      repeat' first
      | (with_reducible exact ih0 _ _ _ _ _ _)
      | (with_reducible exact ih1 _ _)
      | (with_reducible exact ih2 _ _ _ _)
      | (with_reducible exact ih3 _ _ _ _)
      | (with_reducible exact spec_rebased.mono _ _ _ _)
      | (with_reducible exact LeO.refl _)
      | (with_reducible exact LeO.none _)
      | (with_reducible refine LeO.ite ?_ ?_)
      | (with_reducible refine LeO.bind ?_ (fun _ => ?_))
      | exact ih0 _ _ _ _ _ _
      | exact ih1 _ _
      | exact ih2 _ _ _ _
      | exact ih3 _ _ _ _
      | exact spec_rebased.mono _ _ _ _
      | exact LeO.none _
      | refine LeO.ite ?_ ?_
      | refine LeO.bind ?_ (fun _ => ?_)
    · intro y0 y1 y2 y3
      unfold spec_Base58.l1
      repeat' first
      | (with_reducible exact ih0 _ _ _ _ _ _)
      | (with_reducible exact ih1 _ _)
      | (with_reducible exact ih2 _ _ _ _)
      | (with_reducible exact ih3 _ _ _ _)
      | (with_reducible exact spec_rebased.mono _ _ _ _)
      | (with_reducible exact LeO.refl _)
      | (with_reducible exact LeO.none _)
      | (with_reducible refine LeO.ite ?_ ?_)
      | (with_reducible refine LeO.bind ?_ (fun _ => ?_))
      | exact ih0 _ _ _ _ _ _
      | exact ih1 _ _
      | exact ih2 _ _ _ _
      | exact ih3 _ _ _ _
      | exact spec_rebased.mono _ _ _ _
      | exact LeO.none _
      | refine LeO.ite ?_ ?_
      | refine LeO.bind ?_ (fun _ => ?_)
theorem spec_Base58.mono : ∀ a0 k, LeO (spec_Base58.f k a0) (spec_Base58.f (k + 1) a0) := by
  intro a0 k
  obtain ⟨ih0, ih1, ih2, ih3⟩ := spec_Base58.mono_l k
  unfold spec_Base58.f
  repeat' first
      | (with_reducible exact ih0 _ _ _ _ _ _)
      | (with_reducible exact ih1 _ _)
      | (with_reducible exact ih2 _ _ _ _)
      | (with_reducible exact ih3 _ _ _ _)
      | (with_reducible exact spec_rebased.mono _ _ _ _)
      | (with_reducible exact LeO.refl _)
      | (with_reducible exact LeO.none _)
      | (with_reducible refine LeO.ite ?_ ?_)
      | (with_reducible refine LeO.bind ?_ (fun _ => ?_))
      | exact ih0 _ _ _ _ _ _
      | exact ih1 _ _
      | exact ih2 _ _ _ _
      | exact ih3 _ _ _ _
      | exact spec_rebased.mono _ _ _ _
      | exact LeO.none _
      | refine LeO.ite ?_ ?_
      | refine LeO.bind ?_ (fun _ => ?_)
set_option maxHeartbeats 8000000 in
set_option maxRecDepth 100000 in
theorem spec_Base58.calls (k : Nat) (A0 : Option Addr) (c0 : Nat) (l0 : List Int) (r : ByteArray) (w : World) (hr0 : Kd.C (Kd.int .u8) w A0 l0.length l0) (hc0 : l0.length ≤ c0) (h : spec_Base58.f k l0 = some r) :
    Calls Tryd.prog 11 #[.slice A0 l0.length c0] w fun e w' => e = .returned (.string r) ∧ Below w.heap.size w w' := by
  have HR0 := Aside0.mk hr0
  have HC0 := Aside0.mk hc0
  clear hr0 hc0
  have HB := Aside0.mk (Below.refl w.heap.size w)
  have H : (spec_Base58.l0 k l0 (([] : List Int)) (([] : List Int)) l0 (l0.length : Int) 0) = some r := h
  clear h
  obtain ⟨y133, hy133⟩ : ∃ y_ : List Int, y_ = (([] : List Int)) := ⟨_, rfl⟩
  replace H : (spec_Base58.l0 k l0 y133 (([] : List Int)) l0 (l0.length : Int) 0) = some r := by first | (rw [hy133]; with_reducible exact H) | (have H2_ := (Option.bind_some _ _).symm.trans H; rw [hy133]; with_reducible exact H2_) | (have H2_ := (Option.bind_some _ _).symm.trans H; with_reducible exact H2_) | with_reducible exact H | (rw [hy133]; exact H) | exact H
  have Ny133 := Aside0.mk hy133
  clear hy133
  obtain ⟨y136, hy136⟩ : ∃ y_ : List Int, y_ = (([] : List Int)) := ⟨_, rfl⟩
  replace H : (spec_Base58.l0 k l0 y133 y136 l0 (l0.length : Int) 0) = some r := by first | (rw [hy136]; with_reducible exact H) | (have H2_ := (Option.bind_some _ _).symm.trans H; rw [hy136]; with_reducible exact H2_) | (have H2_ := (Option.bind_some _ _).symm.trans H; with_reducible exact H2_) | with_reducible exact H | (rw [hy136]; exact H) | exact H
  have Ny136 := Aside0.mk hy136
  clear hy136
  have H' := Aside0.mk H
  clear H
  go_enter Tryd.func11, Tryd.ntmps11
  go_wp2_with (first | ((with_reducible refine gate_dst (N := 10) rfl ?_); refine Kd.R_lit (Kd.int .i64) _ 3 ?hg (N := 10) ?hd (xs := ([] : List Int)) (inner := []) (ok := fun _ => True) (okp := fun _ => True) ?hr ?hp (fun _ hk => hk) trivial (Below.refl _ _) (Nat.le_refl _) (by simp) ?_; (case hd => rfl); (case hg => rfl); (case hr => first | (go_simp; done) | (go_simp; rfl)); (case hp => exact (Reps.none _ _)); intro v134 w2 ho3 hb hg_ hnew_; clear hg_ hnew_; (first | rw [← Ny133.out] at ho3 | (simp only [Int.reduceToNat] at ho3; rw [← Ny133.out] at ho3)); have n0_ := Aside0.mk (Kd.R_lower ho3 (below_size (by repeat (first | (with_reducible first | exact HB.out | apply below_alloc | apply pw_below_drewN | apply below_drew1) | exact HB.out)))); have n1_ := Aside0.mk (below_step (by repeat (first | (with_reducible first | exact HB.out | apply below_alloc | apply pw_below_drewN | apply below_drew1) | exact HB.out)) hb); clear HB; have HO135 := n0_; have HB := n1_; clear n0_ n1_; clear hb ho3) | ((with_reducible refine gate_dst (N := 11) rfl ?_); refine Kd.R_lit (Kd.int .u8) _ 5 ?hg (N := 11) ?hd (xs := ([] : List Int)) (inner := []) (ok := fun _ => True) (okp := fun _ => True) ?hr ?hp (fun _ hk => hk) trivial (Below.refl _ _) (Nat.le_refl _) (by simp) ?_; (case hd => rfl); (case hg => rfl); (case hr => first | (go_simp; done) | (go_simp; rfl)); (case hp => exact (Reps.none _ _)); intro v137 w4 ho5 hb hg_ hnew_; clear hg_ hnew_; (first | rw [← Ny136.out] at ho5 | (simp only [Int.reduceToNat] at ho5; rw [← Ny136.out] at ho5)); have n0_ := Aside0.mk (Kd.R_below (by (with_reducible repeat (first | apply Kd.R_alloc | apply Kd.R_drewN | apply Kd.R_drew)); exact HO135.out) hb); have n1_ := Aside0.mk (Kd.R_lower ho5 (below_size (by repeat (first | (with_reducible first | exact HB.out | apply below_alloc | apply pw_below_drewN | apply below_drew1) | exact HB.out)))); have n2_ := Aside0.mk (below_step (by repeat (first | (with_reducible first | exact HB.out | apply below_alloc | apply pw_below_drewN | apply below_drew1) | exact HB.out)) hb); clear HO135; clear HB; have HO135 := n0_; have HO138 := n1_; have HB := n2_; clear n0_ n1_ n2_; clear hb ho5))
  go_loopg [3, 14] k (fun kq v3 v14 w' => ∃ (x3_1 : List Int) (x14_1 : Int), v14 = .int .i64 x14_1 ∧ Aside0 (spec_Base58.l0 kq l0 x3_1 y136 l0 (l0.length : Int) x14_1 = some r) ∧ Aside0 (kq ≤ k) ∧ Aside0 (Kd.R (Kd.int .i64) 3 w' w.heap.size (fun _ => True) v3 x3_1) ∧ Aside0 (Kd.R (Kd.int .u8) 5 w' w.heap.size (fun _ => True) v137 y136) ∧ Aside0 (Below w.heap.size w w'))
  case atStart => exact ⟨(y133), (0), (by first | rfl | (simp; done) | (simp [*]; done)), H', ⟨Nat.le_refl _⟩, ⟨by (with_reducible repeat (first | apply Kd.R_alloc | apply Kd.R_drewN | apply Kd.R_drew)); exact HO135.out⟩, ⟨by (with_reducible repeat (first | apply Kd.R_alloc | apply Kd.R_drewN | apply Kd.R_drew)); exact HO138.out⟩, ⟨by repeat (first | (with_reducible first | exact HB.out | apply below_alloc | apply pw_below_drewN | apply below_drew1) | exact HB.out)⟩⟩
  case round =>
    clear H'
    try clear c1
    try clear p2
    obtain ⟨x3_1, x14_1, rfl, HA, HK1, HO_3, HO_4, HB⟩ := hrel
    cases gk with
    | zero => exact absurd HA.out (by simp [spec_Base58.l0])
    | succ k1 =>
      have H := HA.out
      clear HA
      simp only [spec_Base58.l0] at H
      by_cases c6 : x14_1 < (l0.length : Int)
      · rw [if_pos c6] at H
        have c6b0 : decide (x14_1 < (l0.length : Int)) = true := decide_eq_true c6
        clear c6
        by_cases c7 : 0 ≤ x14_1
        · rw [if_pos c7] at H
          have c7b0 : decide (0 ≤ x14_1) = true := decide_eq_true c7
          clear c7
          by_cases c8 : x14_1 < (l0.length : Int)
          · rw [if_pos c8] at H
            have c8b0 : decide (x14_1 < (l0.length : Int)) = true := decide_eq_true c8
            clear c8
            by_cases c9 : x3_1.length < 17592186044416
            · rw [if_pos c9] at H
              have LMc9 := Aside0.mk c9
              clear c9
              obtain ⟨y140, hy140⟩ : ∃ y_ : List Int, y_ = (x3_1 ++ [wrap64 (rd l0 x14_1)]) := ⟨_, rfl⟩
              replace H : (spec_Base58.l0 k1 l0 y140 y136 l0 (l0.length : Int) (wrap64 (x14_1 + 1))) = some r := by first | (rw [hy140]; with_reducible exact H) | (have H2_ := (Option.bind_some _ _).symm.trans H; rw [hy140]; with_reducible exact H2_) | (have H2_ := (Option.bind_some _ _).symm.trans H; with_reducible exact H2_) | with_reducible exact H | (rw [hy140]; exact H) | exact H
              have Ny140 := Aside0.mk hy140
              clear hy140
              have H' := Aside0.mk H
              clear H
              have p139 : 0 ≤ (x14_1 : Int) := of_decide_eq_true (by first | (with_reducible assumption) | assumption)
              have q139 : x14_1 < (l0.length : Int) := of_decide_eq_true (by first | (with_reducible assumption) | assumption)
              obtain ⟨ad139, e139, hx139_0⟩ := Kd.at_int HR0.out x14_1 p139 q139
              cases e139
              replace hx139_0 := (HB.out.cell (World.block_lt_of_cell? w _ hx139_0)).trans hx139_0
              replace p139 := eq_true p139
              replace q139 := eq_true q139
              go_wp2_with (first | ((with_reducible refine gate_builtin (b := .append) (xs := #[.tmp 18, .tmp 21]) rfl ?_); at_builtin; refine Kd.R_append (Kd.int .i64) (w0 := w) w.heap.size rfl (.tmp 18) (.tmp 21) 35 3 (.int .i64 0) 8 rfl Tryd.underlying35 info3 rfl (by decide) (by omega) u3 x3_1 (wrap64 (rd l0 x14_1)) [.int .i64 (wrap64 (rd l0 x14_1))] (fun _ => True) (fun _ => False) rfl rfl ?aP (fun _ hk => hk.elim) ?aF ?aO ?aB ?aS ?aL ?_; (case aP => exact rfl); (case aB => exact (by repeat (first | (with_reducible first | exact HB.out | apply below_alloc | apply pw_below_drewN | apply below_drew1) | exact HB.out))); (case aF => exact (fun _ _ => trivial)); (case aO => exact (by (with_reducible repeat (first | apply Kd.R_alloc | apply Kd.R_drewN | apply Kd.R_drew)); exact HO_3.out)); (case aS => exact (below_size (by repeat (first | (with_reducible first | exact HB.out | apply below_alloc | apply pw_below_drewN | apply below_drew1) | exact HB.out)))); (case aL => have := LMc9.out; omega); intro v141 w10 ho hb hg hat; rw [← Ny140.out] at ho; have n0_ := Aside0.mk (Kd.R_over' (by (with_reducible repeat (first | apply Kd.R_alloc | apply Kd.R_drewN | apply Kd.R_drew)); exact HO_4.out) (Kd.R_typed (by (with_reducible repeat (first | apply Kd.R_alloc | apply Kd.R_drewN | apply Kd.R_drew)); exact HO_3.out)) (by decide) hg); have n1_ := Aside0.mk (hb); have n2_ := Aside0.mk (ho); clear HO_4; clear HB; clear HO_3; have HO_4 := n0_; have HB := n1_; have HO142 := n2_; clear n0_ n1_ n2_; clear ho hb hg hat))
              go_roundg k1
              case measure => have := HK1.out; omega
              case rel => exact ⟨(y140), (wrap64 (x14_1 + 1)), (by first | rfl | (simp; done) | (simp [*]; done)), H', ⟨by have := HK1.out; omega⟩, ⟨by (with_reducible repeat (first | apply Kd.R_alloc | apply Kd.R_drewN | apply Kd.R_drew)); exact HO142.out⟩, ⟨by (with_reducible repeat (first | apply Kd.R_alloc | apply Kd.R_drewN | apply Kd.R_drew)); exact HO_4.out⟩, ⟨by repeat (first | (with_reducible first | exact HB.out | apply below_alloc | apply pw_below_drewN | apply below_drew1) | exact HB.out)⟩⟩
            · rw [if_neg c9] at H
              exact absurd H (by simp)
          · rw [if_neg c8] at H
            exact absurd H (by simp)
        · rw [if_neg c7] at H
          exact absurd H (by simp)
      · rw [if_neg c6] at H
        have c6b0 : decide (x14_1 < (l0.length : Int)) = false := decide_eq_false c6
        clear c6
        have HC11 := Aside0.mk H
        clear H
        go_upto_block 2 with (fail)
        go_cut [4] (fun v4 wc => ∃ (kq : Nat) (x4_10 : List Int), Aside0 (spec_Base58.j2 kq x3_1 x4_10 = some r) ∧ Aside0 (kq ≤ k1) ∧ Aside0 (Kd.R (Kd.int .i64) 3 wc w.heap.size (fun _ => True) u3 x3_1) ∧ Aside0 (Kd.R (Kd.int .u8) 5 wc w.heap.size (fun _ => True) v4 x4_10) ∧ Aside0 (Below w.heap.size w wc))
        case first =>
          have H := HC11.out
          clear HC11
          have H' := Aside0.mk H
          clear H
          go_wp2
          go_loopg [4, 7] k1 (fun kq v4 v7 w' => ∃ (x4_2 : List Int) (x7_2 : Int), v7 = .int .i64 x7_2 ∧ Aside0 (spec_Base58.l1 kq l0 x3_1 x4_2 x7_2 = some r) ∧ Aside0 (kq ≤ k1) ∧ Aside0 (Kd.R (Kd.int .i64) 3 w' w.heap.size (fun _ => True) u3 x3_1) ∧ Aside0 (Kd.R (Kd.int .u8) 5 w' w.heap.size (fun _ => True) v4 x4_2) ∧ Aside0 (Below w.heap.size w w'))
          case atStart => exact ⟨(y136), (0), (by first | rfl | (simp; done) | (simp [*]; done)), H', ⟨Nat.le_refl _⟩, ⟨by (with_reducible repeat (first | apply Kd.R_alloc | apply Kd.R_drewN | apply Kd.R_drew)); exact HO_3.out⟩, ⟨by (with_reducible repeat (first | apply Kd.R_alloc | apply Kd.R_drewN | apply Kd.R_drew)); exact HO_4.out⟩, ⟨by repeat (first | (with_reducible first | exact HB.out | apply below_alloc | apply pw_below_drewN | apply below_drew1) | exact HB.out)⟩⟩
          case round =>
            clear H'
            try clear c1
            try clear p1
            try clear q1
            try clear hx1
            try clear p2
            try clear c6
            try clear c6b0
            try clear p6
            try clear c7
            try clear c7b0
            try clear c8
            try clear c8b0
            try clear c9
            try clear c11
            try clear hx139_0
            try clear p139
            try clear p2
            try clear q139
            obtain ⟨x4_2, x7_2, rfl, HA, HK2, HO_3, HO_4, HB⟩ := hrel
            cases gk with
            | zero => exact absurd HA.out (by simp [spec_Base58.l1])
            | succ k2 =>
              have H := HA.out
              clear HA
              simp only [spec_Base58.l1] at H
              by_cases c12 : x7_2 < (l0.length : Int)
              · rw [if_pos c12] at H
                have c12b0 : decide (x7_2 < (l0.length : Int)) = true := decide_eq_true c12
                clear c12
                (first | rw [c12b0] | (simp only [i64_w, i32_w]; rw [c12b0]) | skip)
                by_cases c13 : 0 ≤ x7_2
                · rw [if_pos c13] at H
                  have c13b0 : decide (0 ≤ x7_2) = true := decide_eq_true c13
                  clear c13
                  by_cases c14 : (rd l0 x7_2) = 0
                  · rw [if_pos c14] at H
                    have c14b0 : ((rd l0 x7_2) == 0) = true := beq_iff_eq.mpr c14
                    have c14b1 : ((rd l0 x7_2) != 0) = false := bne_eq_false_iff_eq.mpr c14
                    clear c14
                    by_cases c15 : x4_2.length < 140737488355328
                    · rw [if_pos c15] at H
                      have LMc15 := Aside0.mk c15
                      clear c15
                      obtain ⟨y144, hy144⟩ : ∃ y_ : List Int, y_ = (x4_2 ++ [49]) := ⟨_, rfl⟩
                      replace H : (spec_Base58.l1 k2 l0 x3_1 y144 (wrap64 (x7_2 + 1))) = some r := by first | (rw [hy144]; with_reducible exact H) | (have H2_ := (Option.bind_some _ _).symm.trans H; rw [hy144]; with_reducible exact H2_) | (have H2_ := (Option.bind_some _ _).symm.trans H; with_reducible exact H2_) | with_reducible exact H | (rw [hy144]; exact H) | exact H
                      have Ny144 := Aside0.mk hy144
                      clear hy144
                      have H' := Aside0.mk H
                      clear H
                      have p143 : 0 ≤ (x7_2 : Int) := of_decide_eq_true (by first | (with_reducible assumption) | assumption)
                      have q143 : x7_2 < (l0.length : Int) := of_decide_eq_true (by first | (with_reducible assumption) | assumption)
                      obtain ⟨ad143, e143, hx143_0⟩ := Kd.at_int HR0.out x7_2 p143 q143
                      cases e143
                      replace hx143_0 := (HB.out.cell (World.block_lt_of_cell? w _ hx143_0)).trans hx143_0
                      replace p143 := eq_true p143
                      replace q143 := eq_true q143
                      go_wp2_with (first | ((with_reducible refine gate_builtin (b := .append) (xs := #[.tmp 37, .tmp 38]) rfl ?_); at_builtin; refine Kd.R_append (Kd.int .u8) (w0 := w) w.heap.size rfl (.tmp 37) (.tmp 38) 22 5 (.int .u8 0) 1 rfl Tryd.underlying22 info5 rfl (by decide) (by omega) u4 x4_2 49 [.int .u8 49] (fun _ => True) (fun _ => False) rfl rfl ?aP (fun _ hk => hk.elim) ?aF ?aO ?aB ?aS ?aL ?_; (case aP => exact rfl); (case aB => exact (by repeat (first | (with_reducible first | exact HB.out | apply below_alloc | apply pw_below_drewN | apply below_drew1) | exact HB.out))); (case aF => exact (fun _ _ => trivial)); (case aO => exact (by (with_reducible repeat (first | apply Kd.R_alloc | apply Kd.R_drewN | apply Kd.R_drew)); exact HO_4.out)); (case aS => exact (below_size (by repeat (first | (with_reducible first | exact HB.out | apply below_alloc | apply pw_below_drewN | apply below_drew1) | exact HB.out)))); (case aL => have := LMc15.out; omega); intro v145 w16 ho hb hg hat; rw [← Ny144.out] at ho; have n0_ := Aside0.mk (Kd.R_over' (by (with_reducible repeat (first | apply Kd.R_alloc | apply Kd.R_drewN | apply Kd.R_drew)); exact HO_3.out) (Kd.R_typed (by (with_reducible repeat (first | apply Kd.R_alloc | apply Kd.R_drewN | apply Kd.R_drew)); exact HO_4.out)) (by decide) hg); have n1_ := Aside0.mk (hb); have n2_ := Aside0.mk (ho); clear HO_3; clear HB; clear HO_4; have HO_3 := n0_; have HB := n1_; have HO146 := n2_; clear n0_ n1_ n2_; clear ho hb hg hat))
                      go_roundg k2
                      case measure => have := HK1.out; have := HK2.out; omega
                      case rel => exact ⟨(y144), (wrap64 (x7_2 + 1)), (by first | rfl | (simp; done) | (simp [*]; done)), H', ⟨by have := HK1.out; have := HK2.out; omega⟩, ⟨by (with_reducible repeat (first | apply Kd.R_alloc | apply Kd.R_drewN | apply Kd.R_drew)); exact HO_3.out⟩, ⟨by (with_reducible repeat (first | apply Kd.R_alloc | apply Kd.R_drewN | apply Kd.R_drew)); exact HO146.out⟩, ⟨by repeat (first | (with_reducible first | exact HB.out | apply below_alloc | apply pw_below_drewN | apply below_drew1) | exact HB.out)⟩⟩
                    · rw [if_neg c15] at H
                      exact absurd H (by simp)
                  · rw [if_neg c14] at H
                    have c14b0 : ((rd l0 x7_2) == 0) = false := beq_eq_false_iff_ne.mpr c14
                    have c14b1 : ((rd l0 x7_2) != 0) = true := bne_iff_ne.mpr c14
                    have H' := Aside0.mk H
                    clear H
                    have p143 : 0 ≤ (x7_2 : Int) := of_decide_eq_true (by first | (with_reducible assumption) | assumption)
                    have q143 : x7_2 < (l0.length : Int) := of_decide_eq_true (by first | (with_reducible assumption) | assumption)
                    obtain ⟨ad143, e143, hx143_0⟩ := Kd.at_int HR0.out x7_2 p143 q143
                    cases e143
                    replace hx143_0 := (HB.out.cell (World.block_lt_of_cell? w _ hx143_0)).trans hx143_0
                    replace p143 := eq_true p143
                    replace q143 := eq_true q143
                    go_wp2
                    go_meet
                    case rel => exact ⟨_, (x4_2), H', ⟨by have := HK1.out; have := HK2.out; first | omega | exact Nat.le_refl _⟩, ⟨by (with_reducible repeat (first | apply Kd.R_alloc | apply Kd.R_drewN | apply Kd.R_drew)); exact HO_3.out⟩, ⟨by (with_reducible repeat (first | apply Kd.R_alloc | apply Kd.R_drewN | apply Kd.R_drew)); exact HO_4.out⟩, ⟨by repeat (first | (with_reducible first | exact HB.out | apply below_alloc | apply pw_below_drewN | apply below_drew1) | exact HB.out)⟩⟩
                · rw [if_neg c13] at H
                  exact absurd H (by simp)
              · rw [if_neg c12] at H
                have c12b0 : decide (x7_2 < (l0.length : Int)) = false := decide_eq_false c12
                clear c12
                (first | rw [c12b0] | (simp only [i64_w, i32_w]; rw [c12b0]) | skip)
                have H' := Aside0.mk H
                clear H
                go_wp2
                go_meet
                case rel => exact ⟨_, (x4_2), H', ⟨by have := HK1.out; have := HK2.out; first | omega | exact Nat.le_refl _⟩, ⟨by (with_reducible repeat (first | apply Kd.R_alloc | apply Kd.R_drewN | apply Kd.R_drew)); exact HO_3.out⟩, ⟨by (with_reducible repeat (first | apply Kd.R_alloc | apply Kd.R_drewN | apply Kd.R_drew)); exact HO_4.out⟩, ⟨by repeat (first | (with_reducible first | exact HB.out | apply below_alloc | apply pw_below_drewN | apply below_drew1) | exact HB.out)⟩⟩
        case rest =>
          clear HC11
          try clear c1
          try clear p1
          try clear q1
          try clear hx1
          try clear p2
          try clear c6
          try clear c6b0
          try clear p6
          try clear c7
          try clear c7b0
          try clear c8
          try clear c8b0
          try clear c9
          try clear c11
          try clear c12
          try clear c12b0
          try clear c13
          try clear c13b0
          try clear p13
          try clear q13
          try clear hx13
          try clear c14
          try clear c14b0
          try clear c14b1
          try clear p14
          try clear q14
          try clear hx14
          try clear c15
          try clear hx139_0
          try clear hx143_0
          try clear p1
          try clear p139
          try clear p143
          try clear p2
          try clear p6
          try clear q1
          try clear q139
          try clear q143
          obtain ⟨kq, x4_10, HA, HJ10, HO_3, HO_4, HB⟩ := hcut
          cases kq with
          | zero => exact absurd HA.out (by simp [spec_Base58.j2])
          | succ kj10 =>
            have H := HA.out
            clear HA
            simp only [spec_Base58.j2] at H
            replace H := Option.bind_eq_some_iff.mp H
            obtain ⟨t147, A170, H⟩ := H
            replace H : (spec_Base58.l2 kj10 x4_10 t147 (t147.length : Int) 0) = some r := H
            have A17 := Aside0.mk A170
            clear A170
            have H' := Aside0.mk H
            clear H
            obtain ⟨Ao18, co18, eo18⟩ := Kd.R_slice HO_3.out
            subst eo18
            go_wp2_with (first | ((with_reducible refine gate_callee (f := 16) rfl ?_); refine goesL_ (some 41) rfl rfl Tryd.func16 (by kernel_rfl) rfl #[.slice Ao18 x3_1.length co18, .int .i64 256, .int .i64 58] rfl (by (try simp only [List.map_toArray, List.map_cons, List.map_nil]); first | done | rfl | (simp only [List.length_drop, List.length_take]; rfl)) ?_; (with_reducible refine (spec_rebased.calls kj10 _ _ x3_1 256 58 t147 _ ?side1 ?side2 A17.out).mono ?_); (case side1 => repeat (first | exact (Kd.R_reads' HO_3.out).2.2 | (with_reducible refine Kd.C_alloc ?_ _) | (with_reducible refine Kd.C_drewN ?_ _) | (with_reducible refine Kd.C_drew ?_))); (case side2 => exact (Kd.R_reads' HO_3.out).2.1); rintro e w19 ⟨v148, rfl, ho0, hb⟩; refine ⟨_, rfl, ?_⟩; have n0_ := Aside0.mk (Kd.R_elder' (by (with_reducible repeat (first | apply Kd.R_alloc | apply Kd.R_drewN | apply Kd.R_drew)); exact HO_3.out) (Kd.R_base ho0) hb); have n1_ := Aside0.mk (Kd.R_below (by (with_reducible repeat (first | apply Kd.R_alloc | apply Kd.R_drewN | apply Kd.R_drew)); exact HO_4.out) hb); have n2_ := Aside0.mk (Kd.R_lower (Kd.R_new' ho0 (Kd.R_lt (by (with_reducible repeat (first | apply Kd.R_alloc | apply Kd.R_drewN | apply Kd.R_drew)); exact HO_3.out))) (below_size (by repeat (first | (with_reducible first | exact HB.out | apply below_alloc | apply pw_below_drewN | apply below_drew1) | exact HB.out)))); have n3_ := Aside0.mk (below_step (by repeat (first | (with_reducible first | exact HB.out | apply below_alloc | apply pw_below_drewN | apply below_drew1) | exact HB.out)) hb); clear HO_3; clear HO_4; clear HB; have HO_3 := n0_; have HO_4 := n1_; have HO149 := n2_; have HB := n3_; clear n0_ n1_ n2_ n3_; (try clear hb); (try clear hb2); (try clear hk); (try clear hi); (try clear ho0); obtain ⟨Ao20, co20, eo20⟩ := Kd.R_slice HO149.out; subst eo20))
            go_loopg [4, 43] kj10 (fun kq v4 v43 w' => ∃ (x4_3 : List Int) (x43_3 : Int), v43 = .int .i64 x43_3 ∧ Aside0 (spec_Base58.l2 kq x4_3 t147 (t147.length : Int) x43_3 = some r) ∧ Aside0 (kq ≤ kj10) ∧ Aside0 (Kd.R (Kd.int .u8) 5 w' w.heap.size (fun _ => True) v4 x4_3) ∧ Aside0 (Kd.R (Kd.int .i64) 3 w' w.heap.size (fun _ => True) (.slice Ao20 t147.length co20) t147) ∧ Aside0 (Below w.heap.size w w'))
            case atStart => exact ⟨(x4_10), (0), (by first | rfl | (simp; done) | (simp [*]; done)), H', ⟨Nat.le_refl _⟩, ⟨by (with_reducible repeat (first | apply Kd.R_alloc | apply Kd.R_drewN | apply Kd.R_drew)); exact HO_4.out⟩, ⟨by (with_reducible repeat (first | apply Kd.R_alloc | apply Kd.R_drewN | apply Kd.R_drew)); exact Kd.R_mono HO149.out (fun _ hk => trivial)⟩, ⟨by repeat (first | (with_reducible first | exact HB.out | apply below_alloc | apply pw_below_drewN | apply below_drew1) | exact HB.out)⟩⟩
            case round =>
              clear H'
              try clear c1
              try clear p1
              try clear q1
              try clear hx1
              try clear p2
              try clear c6
              try clear c6b0
              try clear p6
              try clear c7
              try clear c7b0
              try clear c8
              try clear c8b0
              try clear c9
              try clear c11
              try clear c12
              try clear c12b0
              try clear c13
              try clear c13b0
              try clear p13
              try clear q13
              try clear hx13
              try clear c14
              try clear c14b0
              try clear c14b1
              try clear p14
              try clear q14
              try clear hx14
              try clear c15
              try clear c16
              try clear hx139_0
              try clear hx143_0
              try clear p1
              try clear p13
              try clear p139
              try clear p14
              try clear p143
              try clear p2
              try clear p6
              try clear q1
              try clear q13
              try clear q139
              try clear q14
              try clear q143
              obtain ⟨x4_3, x43_3, rfl, HA, HK3, HO_4, HO_41, HB⟩ := hrel
              cases gk with
              | zero => exact absurd HA.out (by simp [spec_Base58.l2])
              | succ k3 =>
                have H := HA.out
                clear HA
                simp only [spec_Base58.l2] at H
                by_cases c21 : x43_3 < (t147.length : Int)
                · rw [if_pos c21] at H
                  have c21b0 : decide (x43_3 < (t147.length : Int)) = true := decide_eq_true c21
                  clear c21
                  by_cases c22 : 0 ≤ x43_3
                  · rw [if_pos c22] at H
                    have c22b0 : decide (0 ≤ x43_3) = true := decide_eq_true c22
                    clear c22
                    by_cases c23 : x43_3 < (t147.length : Int)
                    · rw [if_pos c23] at H
                      have c23b0 : decide (x43_3 < (t147.length : Int)) = true := decide_eq_true c23
                      clear c23
                      by_cases c24 : 0 ≤ (rd t147 x43_3)
                      · rw [if_pos c24] at H
                        have c24b0 : decide (0 ≤ (rd t147 x43_3)) = true := decide_eq_true c24
                        clear c24
                        by_cases c25 : (rd t147 x43_3) < 58
                        · rw [if_pos c25] at H
                          have c25b0 : decide ((rd t147 x43_3) < 58) = true := decide_eq_true c25
                          clear c25
                          by_cases c27 : x4_3.length < 140737488355328
                          · rw [if_pos c27] at H
                            have LMc27 := Aside0.mk c27
                            clear c27
                            obtain ⟨y151, hy151⟩ : ∃ y_ : List Int, y_ = (x4_3 ++ [bt (⟨#[49, 50, 51, 52, 53, 54, 55, 56, 57, 65, 66, 67, 68, 69, 70, 71, 72, 74, 75, 76, 77, 78, 80, 81, 82, 83, 84, 85, 86, 87, 88, 89, 90, 97, 98, 99, 100, 101, 102, 103, 104, 105, 106, 107, 109, 110, 111, 112, 113, 114, 115, 116, 117, 118, 119, 120, 121, 122]⟩ : ByteArray) (rd t147 x43_3)]) := ⟨_, rfl⟩
                            replace H : (spec_Base58.l2 k3 y151 t147 (t147.length : Int) (wrap64 (x43_3 + 1))) = some r := by first | (rw [hy151]; with_reducible exact H) | (have H2_ := (Option.bind_some _ _).symm.trans H; rw [hy151]; with_reducible exact H2_) | (have H2_ := (Option.bind_some _ _).symm.trans H; with_reducible exact H2_) | with_reducible exact H | (rw [hy151]; exact H) | exact H
                            have Ny151 := Aside0.mk hy151
                            clear hy151
                            have H' := Aside0.mk H
                            clear H
                            have p150 : 0 ≤ (x43_3 : Int) := of_decide_eq_true (by first | (with_reducible assumption) | assumption)
                            have q150 : x43_3 < (t147.length : Int) := of_decide_eq_true (by first | (with_reducible assumption) | assumption)
                            obtain ⟨ad150, e150, hx150_0⟩ := Kd.at_int (Kd.R_reads' HO_41.out).2.2 x43_3 p150 q150
                            cases e150
                            replace p150 := eq_true p150
                            replace q150 := eq_true q150
                            have p26 : 0 ≤ ((rd t147 x43_3) : Int) := of_decide_eq_true (by first | (with_reducible assumption) | assumption)
                            have q26 : (rd t147 x43_3) < (58 : Int) := of_decide_eq_true (by first | (with_reducible assumption) | assumption)
                            have hx26 := bt_at (⟨#[49, 50, 51, 52, 53, 54, 55, 56, 57, 65, 66, 67, 68, 69, 70, 71, 72, 74, 75, 76, 77, 78, 80, 81, 82, 83, 84, 85, 86, 87, 88, 89, 90, 97, 98, 99, 100, 101, 102, 103, 104, 105, 106, 107, 109, 110, 111, 112, 113, 114, 115, 116, 117, 118, 119, 120, 121, 122]⟩ : ByteArray) (rd t147 x43_3)
                            replace p26 := eq_true p26
                            replace q26 := eq_true q26
                            go_wp2_with (first | ((with_reducible refine gate_builtin (b := .append) (xs := #[.tmp 47, .tmp 50]) rfl ?_); at_builtin; refine Kd.R_append (Kd.int .u8) (w0 := w) w.heap.size rfl (.tmp 47) (.tmp 50) 22 5 (.int .u8 0) 1 rfl Tryd.underlying22 info5 rfl (by decide) (by omega) u4 x4_3 (bt (⟨#[49, 50, 51, 52, 53, 54, 55, 56, 57, 65, 66, 67, 68, 69, 70, 71, 72, 74, 75, 76, 77, 78, 80, 81, 82, 83, 84, 85, 86, 87, 88, 89, 90, 97, 98, 99, 100, 101, 102, 103, 104, 105, 106, 107, 109, 110, 111, 112, 113, 114, 115, 116, 117, 118, 119, 120, 121, 122]⟩ : ByteArray) (rd t147 x43_3)) [.int .u8 (bt (⟨#[49, 50, 51, 52, 53, 54, 55, 56, 57, 65, 66, 67, 68, 69, 70, 71, 72, 74, 75, 76, 77, 78, 80, 81, 82, 83, 84, 85, 86, 87, 88, 89, 90, 97, 98, 99, 100, 101, 102, 103, 104, 105, 106, 107, 109, 110, 111, 112, 113, 114, 115, 116, 117, 118, 119, 120, 121, 122]⟩ : ByteArray) (rd t147 x43_3))] (fun _ => True) (fun _ => False) rfl rfl ?aP (fun _ hk => hk.elim) ?aF ?aO ?aB ?aS ?aL ?_; (case aP => exact rfl); (case aB => exact (by repeat (first | (with_reducible first | exact HB.out | apply below_alloc | apply pw_below_drewN | apply below_drew1) | exact HB.out))); (case aF => exact (fun _ _ => trivial)); (case aO => exact (by (with_reducible repeat (first | apply Kd.R_alloc | apply Kd.R_drewN | apply Kd.R_drew)); exact HO_4.out)); (case aS => exact (below_size (by repeat (first | (with_reducible first | exact HB.out | apply below_alloc | apply pw_below_drewN | apply below_drew1) | exact HB.out)))); (case aL => have := LMc27.out; omega); intro v152 w28 ho hb hg hat; rw [← Ny151.out] at ho; have n0_ := Aside0.mk (Kd.R_over' (by (with_reducible repeat (first | apply Kd.R_alloc | apply Kd.R_drewN | apply Kd.R_drew)); exact HO_41.out) (Kd.R_typed (by (with_reducible repeat (first | apply Kd.R_alloc | apply Kd.R_drewN | apply Kd.R_drew)); exact HO_4.out)) (by decide) hg); have n1_ := Aside0.mk (hb); have n2_ := Aside0.mk (ho); clear HO_41; clear HB; clear HO_4; have HO_41 := n0_; have HB := n1_; have HO153 := n2_; clear n0_ n1_ n2_; clear ho hb hg hat))
                            go_roundg k3
                            case measure => have := HK1.out; have := HJ10.out; have := HK3.out; omega
                            case rel => exact ⟨(y151), (wrap64 (x43_3 + 1)), (by first | rfl | (simp; done) | (simp [*]; done)), H', ⟨by have := HK1.out; have := HJ10.out; have := HK3.out; omega⟩, ⟨by (with_reducible repeat (first | apply Kd.R_alloc | apply Kd.R_drewN | apply Kd.R_drew)); exact HO153.out⟩, ⟨by (with_reducible repeat (first | apply Kd.R_alloc | apply Kd.R_drewN | apply Kd.R_drew)); exact HO_41.out⟩, ⟨by repeat (first | (with_reducible first | exact HB.out | apply below_alloc | apply pw_below_drewN | apply below_drew1) | exact HB.out)⟩⟩
                          · rw [if_neg c27] at H
                            exact absurd H (by simp)
                        · rw [if_neg c25] at H
                          exact absurd H (by simp)
                      · rw [if_neg c24] at H
                        exact absurd H (by simp)
                    · rw [if_neg c23] at H
                      exact absurd H (by simp)
                  · rw [if_neg c22] at H
                    exact absurd H (by simp)
                · rw [if_neg c21] at H
                  have c21b0 : decide (x43_3 < (t147.length : Int)) = false := decide_eq_false c21
                  clear c21
                  obtain rfl := Option.some.inj H
                  have hcv29 := own_string (P := Tryd.prog) Tryd.underlying22 Tryd.underlying5 Tryd.underlying9 (Kd.own_of_R HO_4.out)
                  go_wp2
                  go_ret
                  exact ⟨by first | rfl | (simp [errW_none, errW_some] <;> rfl) | (simp [*, errW_none, errW_some] <;> rfl), by repeat (first | (with_reducible first | exact HB.out | apply below_alloc | apply pw_below_drewN | apply below_drew1) | exact HB.out)⟩

-- NOT PRINTED: function 4 (laws_FnBase58)

end Go.Proofs.YtpgfhcobfaceeaaDoor.PFnBase58
