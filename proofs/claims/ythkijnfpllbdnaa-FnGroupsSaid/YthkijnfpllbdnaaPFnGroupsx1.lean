-- PRINTED BY print.sh 35421559b90ae4d0a3588c463048766b98c2df88dd9212a6774a882060cdf62d: not written by this session
import Derived.Test.YthkijnfpllbdnaaPFnGroupsx0
namespace Go.Proofs.Ythkijnfpllbdnaa.PFnGroups
open Go.RowKit Go.Proofs.YthkijnfpllbdnaaW.PrintWords Go.Proofs.YthkijnfpllbdnaaW.PrintLast Go.Proofs.YthkijnfpllbdnaaW.PrintMore
attribute [local go_sem] max2_int min2_int max_two min_two max_three min_three max_four min_four   -- for this text's walks alone
set_option linter.unusedVariables false
set_option linter.unusedSimpArgs false

-- NOT PRINTED: function 9 (errors_New)

-- NOT PRINTED: function 7 (bech32_ConvertBits)

-- NOT PRINTED: function 8 (impl_clone)

-- NOT PRINTED: function 4 (impl_Regroup)

/-! ### laws_same: function 5 -/
def laws_same.f (l0 : List Int) (l1 : List Int) : Option (Bool) := some ((strOfNums l0).toList == (strOfNums l1).toList)
set_option maxHeartbeats 8000000 in
set_option maxRecDepth 100000 in
theorem laws_same.calls (A0 : Option Addr) (c0 : Nat) (l0 : List Int) (A1 : Option Addr) (c1 : Nat) (l1 : List Int) (r : Bool) (w : World) (hr0 : Kd.C (Kd.int .u8) w A0 l0.length l0) (hc0 : l0.length ≤ c0) (hr1 : Kd.C (Kd.int .u8) w A1 l1.length l1) (hc1 : l1.length ≤ c1) (h : laws_same.f l0 l1 = some r) :
    Calls Try.prog 5 #[.slice A0 l0.length c0, .slice A1 l1.length c1] w fun e w' => e = .returned (.bool r) ∧ Drawn0 w w' := by
  have HR0 := Aside0.mk hr0
  have HC0 := Aside0.mk hc0
  clear hr0 hc0
  have HR1 := Aside0.mk hr1
  have HC1 := Aside0.mk hc1
  clear hr1 hc1
  have H : (some ((strOfNums l0).toList == (strOfNums l1).toList)) = some r := h
  clear h
  obtain rfl := Option.some.inj H
  have hcv3 := Kd.C_string (P := Try.prog) (A := A0) (c := c0) Try.underlying22 Try.underlying5 Try.underlying9 HR0.out
  have hcv4 := Kd.C_string (P := Try.prog) (A := A1) (c := c1) Try.underlying22 Try.underlying5 Try.underlying9 HR1.out
  go_enter Try.func5, Try.ntmps5
  go_wp2
  go_ret
  exact ⟨by first | rfl | (simp; done) | (simp [*]; done), by repeat (first | exact Drawn0.refl _ | apply Drawn0.step)⟩

/-! ### spec_Groups: function 6 -/
mutual
def spec_Groups.l0 : Nat → List Int → List Int → Int → Option (List Int)
  | 0, _, _, _ => none
  | k + 1, x0, x3, x4 => if x4 < (wrap64 (8 * (x0.length : Int))) then (spec_Groups.l1 k x0 x3 x4 0 x4) else (some x3)
def spec_Groups.l1 : Nat → List Int → List Int → Int → Int → Int → Option (List Int)
  | 0, _, _, _, _, _ => none
  | k + 1, x0, x3, x4, x5, x6 => if x6 < (wrap64 (x4 + 5)) then (if x6 < (wrap64 (8 * (x0.length : Int))) then (if 0 ≤ (wrap64 (Int.tdiv x6 8)) then (if (wrap64 (Int.tdiv x6 8)) < (x0.length : Int) then (if 0 ≤ (wrap64 (7 - (Int.tmod x6 8))) then (spec_Groups.l1 k x0 x3 x4 (Go.bits .or .u8 ((x5 * 2) % 256) (Go.bits .and .u8 (shr .u8 (rd x0 (wrap64 (Int.tdiv x6 8))) (wrap64 (7 - (Int.tmod x6 8)))) 1)) (wrap64 (x6 + 1))) else (none)) else (none)) else (none)) else (spec_Groups.l1 k x0 x3 x4 ((x5 * 2) % 256) (wrap64 (x6 + 1)))) else (if x3.length < 140737488355328 then (spec_Groups.l0 k x0 (x3 ++ [x5]) (wrap64 (x4 + 5))) else (none))
end
def spec_Groups.f (k : Nat) (l0 : List Int) : Option (List Int) := spec_Groups.l0 k l0 (([] : List Int)) 0
theorem spec_Groups.mono_l : ∀ k, (∀ y0 y1 y2, LeO (spec_Groups.l0 k y0 y1 y2) (spec_Groups.l0 (k + 1) y0 y1 y2)) ∧ (∀ y0 y1 y2 y3 y4, LeO (spec_Groups.l1 k y0 y1 y2 y3 y4) (spec_Groups.l1 (k + 1) y0 y1 y2 y3 y4))
  | 0 => ⟨fun _ _ _ r h => by simp [spec_Groups.l0] at h, fun _ _ _ _ _ r h => by simp [spec_Groups.l1] at h⟩
  | k + 1 => by
    obtain ⟨ih0, ih1⟩ := spec_Groups.mono_l k
    refine ⟨?_, ?_⟩
    · intro y0 y1 y2
      unfold spec_Groups.l0
      repeat' first
      | (with_reducible exact ih0 _ _ _)
      | (with_reducible exact ih1 _ _ _ _ _)
      | (with_reducible exact LeO.refl _)
      | (with_reducible exact LeO.none _)
      | (with_reducible refine LeO.ite ?_ ?_)
      | (with_reducible refine LeO.bind ?_ (fun _ => ?_))
      | exact ih0 _ _ _
      | exact ih1 _ _ _ _ _
      | exact LeO.none _
      | refine LeO.ite ?_ ?_
      | refine LeO.bind ?_ (fun _ => ?_)
    · intro y0 y1 y2 y3 y4
      unfold spec_Groups.l1
      repeat' first
      | (with_reducible exact ih0 _ _ _)
      | (with_reducible exact ih1 _ _ _ _ _)
      | (with_reducible exact LeO.refl _)
      | (with_reducible exact LeO.none _)
      | (with_reducible refine LeO.ite ?_ ?_)
      | (with_reducible refine LeO.bind ?_ (fun _ => ?_))
      | exact ih0 _ _ _
      | exact ih1 _ _ _ _ _
      | exact LeO.none _
      | refine LeO.ite ?_ ?_
      | refine LeO.bind ?_ (fun _ => ?_)
theorem spec_Groups.mono : ∀ a0 k, LeO (spec_Groups.f k a0) (spec_Groups.f (k + 1) a0) := by
  intro a0 k
  obtain ⟨ih0, ih1⟩ := spec_Groups.mono_l k
  unfold spec_Groups.f
  repeat' first
      | (with_reducible exact ih0 _ _ _)
      | (with_reducible exact ih1 _ _ _ _ _)
      | (with_reducible exact LeO.refl _)
      | (with_reducible exact LeO.none _)
      | (with_reducible refine LeO.ite ?_ ?_)
      | (with_reducible refine LeO.bind ?_ (fun _ => ?_))
      | exact ih0 _ _ _
      | exact ih1 _ _ _ _ _
      | exact LeO.none _
      | refine LeO.ite ?_ ?_
      | refine LeO.bind ?_ (fun _ => ?_)
set_option maxHeartbeats 8000000 in
set_option maxRecDepth 100000 in
theorem spec_Groups.calls (k : Nat) (A0 : Option Addr) (c0 : Nat) (l0 : List Int) (r : List Int) (w : World) (hr0 : Kd.C (Kd.int .u8) w A0 l0.length l0) (hc0 : l0.length ≤ c0) (h : spec_Groups.f k l0 = some r) :
    Calls Try.prog 6 #[.slice A0 l0.length c0] w fun e w' => ∃ v0_ : Value, e = .returned (v0_) ∧ Kd.R (Kd.int .u8) 5 w' w.heap.size (fun _ => True) v0_ r ∧ Below w.heap.size w w' := by
  have HR0 := Aside0.mk hr0
  have HC0 := Aside0.mk hc0
  clear hr0 hc0
  have HB := Aside0.mk (Below.refl w.heap.size w)
  have H : (spec_Groups.l0 k l0 (([] : List Int)) 0) = some r := h
  clear h
  obtain ⟨y102, hy102⟩ : ∃ y_ : List Int, y_ = (([] : List Int)) := ⟨_, rfl⟩
  replace H : (spec_Groups.l0 k l0 y102 0) = some r := by first | (rw [hy102]; with_reducible exact H) | (have H2_ := (Option.bind_some _ _).symm.trans H; rw [hy102]; with_reducible exact H2_) | (have H2_ := (Option.bind_some _ _).symm.trans H; with_reducible exact H2_) | with_reducible exact H | (rw [hy102]; exact H) | exact H
  have Ny102 := Aside0.mk hy102
  clear hy102
  have H' := Aside0.mk H
  clear H
  go_enter Try.func6, Try.ntmps6
  go_wp2_with (first | ((with_reducible refine gate_dst (N := 7) rfl ?_); refine Kd.R_lit (Kd.int .u8) _ 5 ?hg (N := 7) ?hd (xs := ([] : List Int)) (inner := []) (ok := fun _ => True) (okp := fun _ => True) ?hr ?hp (fun _ hk => hk) trivial (Below.refl _ _) (Nat.le_refl _) (by simp) ?_; (case hd => rfl); (case hg => rfl); (case hr => first | (go_simp; done) | (go_simp; rfl)); (case hp => exact (Reps.none _ _)); intro v103 w2 ho3 hb hg_ hnew_; clear hg_ hnew_; (first | rw [← Ny102.out] at ho3 | (simp only [Int.reduceToNat] at ho3; rw [← Ny102.out] at ho3)); have n0_ := Aside0.mk (Kd.R_lower ho3 (below_size (by repeat (first | (with_reducible first | exact HB.out | apply below_alloc | apply pw_below_drewN | apply below_drew1) | exact HB.out)))); have n1_ := Aside0.mk (below_step (by repeat (first | (with_reducible first | exact HB.out | apply below_alloc | apply pw_below_drewN | apply below_drew1) | exact HB.out)) hb); clear HB; have HO104 := n0_; have HB := n1_; clear n0_ n1_; clear hb ho3))
  go_loopg [3, 4] k (fun kq v3 v4 w' => ∃ (x3_1 : List Int) (x4_1 : Int), v4 = .int .i64 x4_1 ∧ Aside0 (spec_Groups.l0 kq l0 x3_1 x4_1 = some r) ∧ Aside0 (kq ≤ k) ∧ Aside0 (Kd.R (Kd.int .u8) 5 w' w.heap.size (fun _ => True) v3 x3_1) ∧ Aside0 (Below w.heap.size w w'))
  case atStart => exact ⟨(y102), (0), (by first | rfl | (simp; done) | (simp [*]; done)), H', ⟨Nat.le_refl _⟩, ⟨by (with_reducible repeat (first | apply Kd.R_alloc | apply Kd.R_drewN | apply Kd.R_drew)); exact HO104.out⟩, ⟨by repeat (first | (with_reducible first | exact HB.out | apply below_alloc | apply pw_below_drewN | apply below_drew1) | exact HB.out)⟩⟩
  case round =>
    clear H'
    try clear p2
    obtain ⟨x3_1, x4_1, rfl, HA, HK1, HO_3, HB⟩ := hrel
    cases gk with
    | zero => exact absurd HA.out (by simp [spec_Groups.l0])
    | succ k1 =>
      have H := HA.out
      clear HA
      simp only [spec_Groups.l0] at H
      by_cases c4 : x4_1 < (wrap64 (8 * (l0.length : Int)))
      · rw [if_pos c4] at H
        have c4b0 : decide (x4_1 < (wrap64 (8 * (l0.length : Int)))) = true := decide_eq_true c4
        clear c4
        have H' := Aside0.mk H
        clear H
        go_wp2
        go_loopg [5, 6] k1 (fun kq v5 v6 w' => ∃ (x5_2 : Int) (x6_2 : Int), v5 = .int .u8 x5_2 ∧ v6 = .int .i64 x6_2 ∧ Aside0 (spec_Groups.l1 kq l0 x3_1 x4_1 x5_2 x6_2 = some r) ∧ Aside0 (kq ≤ k1) ∧ Aside0 (Kd.R (Kd.int .u8) 5 w' w.heap.size (fun _ => True) u3 x3_1) ∧ Aside0 (Below w.heap.size w w'))
        case atStart => exact ⟨(0), (x4_1), (by first | rfl | (simp; done) | (simp [*]; done)), (by first | rfl | (simp; done) | (simp [*]; done)), H', ⟨Nat.le_refl _⟩, ⟨by (with_reducible repeat (first | apply Kd.R_alloc | apply Kd.R_drewN | apply Kd.R_drew)); exact HO_3.out⟩, ⟨by repeat (first | (with_reducible first | exact HB.out | apply below_alloc | apply pw_below_drewN | apply below_drew1) | exact HB.out)⟩⟩
        case round =>
          clear H'
          try clear p2
          try clear c4
          try clear c4b0
          try clear p2
          obtain ⟨x5_2, x6_2, rfl, rfl, HA, HK2, HO_3, HB⟩ := hrel
          cases gk with
          | zero => exact absurd HA.out (by simp [spec_Groups.l1])
          | succ k2 =>
            have H := HA.out
            clear HA
            simp only [spec_Groups.l1] at H
            by_cases c5 : x6_2 < (wrap64 (x4_1 + 5))
            · rw [if_pos c5] at H
              have c5b0 : decide (x6_2 < (wrap64 (x4_1 + 5))) = true := decide_eq_true c5
              clear c5
              by_cases c6 : x6_2 < (wrap64 (8 * (l0.length : Int)))
              · rw [if_pos c6] at H
                have c6b0 : decide (x6_2 < (wrap64 (8 * (l0.length : Int)))) = true := decide_eq_true c6
                clear c6
                obtain ⟨ji7, hji7⟩ : ∃ j_ : Int, (wrap64 (Int.tdiv x6_2 8)) = j_ := ⟨_, rfl⟩
                replace H : (if 0 ≤ (ji7) then (if (ji7) < (l0.length : Int) then (if 0 ≤ (wrap64 (7 - (Int.tmod x6_2 8))) then (spec_Groups.l1 k2 l0 x3_1 x4_1 (Go.bits .or .u8 ((x5_2 * 2) % 256) (Go.bits .and .u8 (shr .u8 (rd l0 (ji7)) (wrap64 (7 - (Int.tmod x6_2 8)))) 1)) (wrap64 (x6_2 + 1))) else (none)) else (none)) else (none)) = some r := by first | (rw [hji7] at H; exact H) | (simp only [hji7] at H ⊢; exact H)
                have hji7w : (IntKind.i64.wrap (Int.tdiv x6_2 8)) = ji7 := (i64_w _).trans hji7
                by_cases c8 : 0 ≤ (ji7)
                · rw [if_pos c8] at H
                  have c8b0 : decide (0 ≤ (ji7)) = true := decide_eq_true c8
                  clear c8
                  by_cases c9 : (ji7) < (l0.length : Int)
                  · rw [if_pos c9] at H
                    have c9b0 : decide ((ji7) < (l0.length : Int)) = true := decide_eq_true c9
                    clear c9
                    obtain ⟨ji10, hji10⟩ : ∃ j_ : Int, (wrap64 (7 - (Int.tmod x6_2 8))) = j_ := ⟨_, rfl⟩
                    replace H : (if 0 ≤ (ji10) then (spec_Groups.l1 k2 l0 x3_1 x4_1 (Go.bits .or .u8 ((x5_2 * 2) % 256) (Go.bits .and .u8 (shr .u8 (rd l0 (ji7)) (ji10)) 1)) (wrap64 (x6_2 + 1))) else (none)) = some r := by first | (rw [hji10] at H; exact H) | (simp only [hji10] at H ⊢; exact H)
                    have hji10w : (IntKind.i64.wrap (7 - (Int.tmod x6_2 8))) = ji10 := (i64_w _).trans hji10
                    by_cases c11 : 0 ≤ (ji10)
                    · rw [if_pos c11] at H
                      have c11b0 := eq_true c11
                      have c11b1 : decide (0 ≤ (ji10)) = true := decide_eq_true c11
                      clear c11
                      obtain ⟨ji12, hji12⟩ : ∃ j_ : Int, (shr .u8 (rd l0 (ji7)) (ji10)) = j_ := ⟨_, rfl⟩
                      replace H : (spec_Groups.l1 k2 l0 x3_1 x4_1 (Go.bits .or .u8 ((x5_2 * 2) % 256) (Go.bits .and .u8 (ji12) 1)) (wrap64 (x6_2 + 1))) = some r := by first | (rw [hji12] at H; exact H) | (simp only [hji12] at H ⊢; exact H)
                      have hji12_ : ((rd l0 (ji7)) / 2 ^ min (ji10).toNat 8) = ji12 := hji12
                      have hji12z : (ji10) ≤ 8 → ((rd l0 (ji7)) / 2 ^ (ji10).toNat) = ji12 := shr_small hji12
                      have H' := Aside0.mk H
                      clear H
                      have p105 : 0 ≤ ((ji7) : Int) := of_decide_eq_true (by first | (with_reducible assumption) | assumption)
                      have q105 : (ji7) < (l0.length : Int) := of_decide_eq_true (by first | (with_reducible assumption) | assumption)
                      obtain ⟨ad105, e105, hx105_0⟩ := Kd.at_int HR0.out (ji7) p105 q105
                      cases e105
                      replace hx105_0 := (HB.out.cell (World.block_lt_of_cell? w _ hx105_0)).trans hx105_0
                      replace p105 := eq_true p105
                      replace q105 := eq_true q105
                      go_wp2
                      go_roundg k2
                      case measure => have := HK1.out; have := HK2.out; omega
                      case rel => exact ⟨(Go.bits .or .u8 ((x5_2 * 2) % 256) (Go.bits .and .u8 (ji12) 1)), (wrap64 (x6_2 + 1)), (by first | rfl | (simp; done) | (simp only [← hji12] <;> (first | rfl | simp)) | (simp [*]; done)), (by first | rfl | (simp; done) | (simp [*]; done)), H', ⟨by have := HK1.out; have := HK2.out; omega⟩, ⟨by (with_reducible repeat (first | apply Kd.R_alloc | apply Kd.R_drewN | apply Kd.R_drew)); exact HO_3.out⟩, ⟨by repeat (first | (with_reducible first | exact HB.out | apply below_alloc | apply pw_below_drewN | apply below_drew1) | exact HB.out)⟩⟩
                    · rw [if_neg c11] at H
                      exact absurd H (by simp)
                  · rw [if_neg c9] at H
                    exact absurd H (by simp)
                · rw [if_neg c8] at H
                  exact absurd H (by simp)
              · rw [if_neg c6] at H
                have c6b0 : decide (x6_2 < (wrap64 (8 * (l0.length : Int)))) = false := decide_eq_false c6
                clear c6
                have H' := Aside0.mk H
                clear H
                go_wp2
                go_roundg k2
                case measure => have := HK1.out; have := HK2.out; omega
                case rel => exact ⟨((x5_2 * 2) % 256), (wrap64 (x6_2 + 1)), (by first | rfl | (simp; done) | (simp [*]; done)), (by first | rfl | (simp; done) | (simp [*]; done)), H', ⟨by have := HK1.out; have := HK2.out; omega⟩, ⟨by (with_reducible repeat (first | apply Kd.R_alloc | apply Kd.R_drewN | apply Kd.R_drew)); exact HO_3.out⟩, ⟨by repeat (first | (with_reducible first | exact HB.out | apply below_alloc | apply pw_below_drewN | apply below_drew1) | exact HB.out)⟩⟩
            · rw [if_neg c5] at H
              have c5b0 : decide (x6_2 < (wrap64 (x4_1 + 5))) = false := decide_eq_false c5
              clear c5
              by_cases c13 : x3_1.length < 140737488355328
              · rw [if_pos c13] at H
                have LMc13 := Aside0.mk c13
                clear c13
                obtain ⟨y106, hy106⟩ : ∃ y_ : List Int, y_ = (x3_1 ++ [x5_2]) := ⟨_, rfl⟩
                replace H : (spec_Groups.l0 k2 l0 y106 (wrap64 (x4_1 + 5))) = some r := by first | (rw [hy106]; with_reducible exact H) | (have H2_ := (Option.bind_some _ _).symm.trans H; rw [hy106]; with_reducible exact H2_) | (have H2_ := (Option.bind_some _ _).symm.trans H; with_reducible exact H2_) | with_reducible exact H | (rw [hy106]; exact H) | exact H
                have Ny106 := Aside0.mk hy106
                clear hy106
                have H' := Aside0.mk H
                clear H
                go_wp2_with (first | ((with_reducible refine gate_builtin (b := .append) (xs := #[.tmp 41, .tmp 43]) rfl ?_); at_builtin; refine Kd.R_append (Kd.int .u8) (w0 := w) w.heap.size rfl (.tmp 41) (.tmp 43) 22 5 (.int .u8 0) 1 rfl Try.underlying22 info5 rfl (by decide) (by omega) u3 x3_1 x5_2 [.int .u8 x5_2] (fun _ => True) (fun _ => False) rfl rfl ?aP (fun _ hk => hk.elim) ?aF ?aO ?aB ?aS ?aL ?_; (case aP => exact rfl); (case aB => exact (by repeat (first | (with_reducible first | exact HB.out | apply below_alloc | apply pw_below_drewN | apply below_drew1) | exact HB.out))); (case aF => exact (fun _ _ => trivial)); (case aO => exact (by (with_reducible repeat (first | apply Kd.R_alloc | apply Kd.R_drewN | apply Kd.R_drew)); exact HO_3.out)); (case aS => exact (below_size (by repeat (first | (with_reducible first | exact HB.out | apply below_alloc | apply pw_below_drewN | apply below_drew1) | exact HB.out)))); (case aL => have := LMc13.out; omega); intro v107 w14 ho hb hg hat; rw [← Ny106.out] at ho; have n0_ := Aside0.mk (hb); have n1_ := Aside0.mk (ho); clear HB; clear HO_3; have HB := n0_; have HO108 := n1_; clear n0_ n1_; clear ho hb hg hat))
                go_roundg k2
                case measure => have := HK1.out; have := HK2.out; omega
                case rel => exact ⟨(y106), (wrap64 (x4_1 + 5)), (by first | rfl | (simp; done) | (simp [*]; done)), H', ⟨by have := HK1.out; have := HK2.out; omega⟩, ⟨by (with_reducible repeat (first | apply Kd.R_alloc | apply Kd.R_drewN | apply Kd.R_drew)); exact HO108.out⟩, ⟨by repeat (first | (with_reducible first | exact HB.out | apply below_alloc | apply pw_below_drewN | apply below_drew1) | exact HB.out)⟩⟩
              · rw [if_neg c13] at H
                exact absurd H (by simp)
      · rw [if_neg c4] at H
        have c4b0 : decide (x4_1 < (wrap64 (8 * (l0.length : Int)))) = false := decide_eq_false c4
        clear c4
        obtain rfl := Option.some.inj H
        go_wp2
        go_ret
        exact ⟨_, by first | rfl | (simp [errW_none, errW_some] <;> rfl) | (simp [*, errW_none, errW_some] <;> rfl), by (with_reducible repeat (first | apply Kd.R_alloc | apply Kd.R_drewN | apply Kd.R_drew)); exact HO_3.out, by repeat (first | (with_reducible first | exact HB.out | apply below_alloc | apply pw_below_drewN | apply below_drew1) | exact HB.out)⟩

-- NOT PRINTED: function 3 (laws_FnGroups)

end Go.Proofs.Ythkijnfpllbdnaa.PFnGroups
