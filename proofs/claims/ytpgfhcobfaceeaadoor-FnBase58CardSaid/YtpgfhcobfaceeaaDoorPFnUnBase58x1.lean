-- PRINTED BY print.sh 35421559b90ae4d0a3588c463048766b98c2df88dd9212a6774a882060cdf62d: not written by this session
import Derived.Test.YtpgfhcobfaceeaaDoorPFnUnBase58x0
namespace Go.Proofs.YtpgfhcobfaceeaaDoor.PFnUnBase58
open Go.RowKit Go.Proofs.YtpgfhcobfaceeaaDoorW.PrintWords Go.Proofs.YtpgfhcobfaceeaaDoorW.PrintLast Go.Proofs.YtpgfhcobfaceeaaDoorW.PrintMore
attribute [local go_sem] max2_int min2_int max_two min_two max_three min_three max_four min_four   -- for this text's walks alone
set_option linter.unusedVariables false
set_option linter.unusedSimpArgs false

/-! ### spec_indexOf: function 15 -/
def spec_indexOf.l0 : Nat → ByteArray → Int → Int → Option (Int)
  | 0, _, _, _ => none
  | k + 1, x0, x1, x5 => if x5 < (x0.size : Int) then (if 0 ≤ x5 then (if (bt x0 x5) = x1 then (some x5) else (spec_indexOf.l0 k x0 x1 (wrap64 (x5 + 1)))) else (none)) else (some (-1))
def spec_indexOf.f (k : Nat) (a0 : ByteArray) (a1 : Int) : Option (Int) := spec_indexOf.l0 k a0 a1 0
theorem spec_indexOf.mono_l : ∀ k, (∀ y0 y1 y2, LeO (spec_indexOf.l0 k y0 y1 y2) (spec_indexOf.l0 (k + 1) y0 y1 y2))
  | 0 => fun _ _ _ r h => by simp [spec_indexOf.l0] at h
  | k + 1 => by
    have ih0 := spec_indexOf.mono_l k
    · intro y0 y1 y2
      unfold spec_indexOf.l0
      repeat' first
      | (with_reducible exact ih0 _ _ _)
      | (with_reducible exact LeO.refl _)
      | (with_reducible exact LeO.none _)
      | (with_reducible refine LeO.ite ?_ ?_)
      | (with_reducible refine LeO.bind ?_ (fun _ => ?_))
      | exact ih0 _ _ _
      | exact LeO.none _
      | refine LeO.ite ?_ ?_
      | refine LeO.bind ?_ (fun _ => ?_)
theorem spec_indexOf.mono : ∀ a0 a1 k, LeO (spec_indexOf.f k a0 a1) (spec_indexOf.f (k + 1) a0 a1) := by
  intro a0 a1 k
  have ih0 := spec_indexOf.mono_l k
  unfold spec_indexOf.f
  repeat' first
      | (with_reducible exact ih0 _ _ _)
      | (with_reducible exact LeO.refl _)
      | (with_reducible exact LeO.none _)
      | (with_reducible refine LeO.ite ?_ ?_)
      | (with_reducible refine LeO.bind ?_ (fun _ => ?_))
      | exact ih0 _ _ _
      | exact LeO.none _
      | refine LeO.ite ?_ ?_
      | refine LeO.bind ?_ (fun _ => ?_)
set_option maxHeartbeats 8000000 in
set_option maxRecDepth 100000 in
theorem spec_indexOf.calls (k : Nat) (a0 : ByteArray) (a1 : Int) (r : Int) (w : World) (h : spec_indexOf.f k a0 a1 = some r) :
    Calls Tryd.prog 15 #[.string a0, .int .u8 a1] w fun e w' => e = .returned (.int .i64 r) ∧ Drawn0 w w' := by
  have H : (spec_indexOf.l0 k a0 a1 0) = some r := h
  clear h
  have H' := Aside0.mk H
  clear H
  go_enter Tryd.func15, Tryd.ntmps15
  go_wp2
  go_loopg [5] k (fun kq v5 w' => ∃ (x5_1 : Int), v5 = .int .i64 x5_1 ∧ Aside0 (spec_indexOf.l0 kq a0 a1 x5_1 = some r) ∧ Aside0 (kq ≤ k) ∧ Drawn0 w w')
  case atStart => exact ⟨(0), (by first | rfl | (simp; done) | (simp [*]; done)), H', ⟨Nat.le_refl _⟩, by repeat (first | exact Drawn0.refl _ | apply Drawn0.step)⟩
  case round =>
    clear H'
    try clear c1
    try clear p2
    obtain ⟨x5_1, rfl, HA, HK1, ⟨m1, rfl⟩⟩ := hrel
    cases gk with
    | zero => exact absurd HA.out (by simp [spec_indexOf.l0])
    | succ k1 =>
      have H := HA.out
      clear HA
      simp only [spec_indexOf.l0] at H
      by_cases c3 : x5_1 < (a0.size : Int)
      · rw [if_pos c3] at H
        have c3b0 : decide (x5_1 < (a0.size : Int)) = true := decide_eq_true c3
        clear c3
        by_cases c4 : 0 ≤ x5_1
        · rw [if_pos c4] at H
          have c4b0 : decide (0 ≤ x5_1) = true := decide_eq_true c4
          clear c4
          by_cases c6 : (bt a0 x5_1) = a1
          · rw [if_pos c6] at H
            have c6b0 : ((bt a0 x5_1) == a1) = true := beq_iff_eq.mpr c6
            have c6b1 : ((bt a0 x5_1) != a1) = false := bne_eq_false_iff_eq.mpr c6
            clear c6
            obtain rfl := Option.some.inj H
            have p5 : 0 ≤ (x5_1 : Int) := of_decide_eq_true (by first | (with_reducible assumption) | assumption)
            have q5 : x5_1 < (a0.size : Int) := of_decide_eq_true (by first | (with_reducible assumption) | assumption)
            have hx5 := bt_at a0 x5_1
            replace p5 := eq_true p5
            replace q5 := eq_true q5
            go_wp2
            go_ret
            exact ⟨by first | rfl | (simp; done) | (simp [*]; done), by repeat (first | exact Drawn0.refl _ | apply Drawn0.step)⟩
          · rw [if_neg c6] at H
            have c6b0 : ((bt a0 x5_1) == a1) = false := beq_eq_false_iff_ne.mpr c6
            have c6b1 : ((bt a0 x5_1) != a1) = true := bne_iff_ne.mpr c6
            have H' := Aside0.mk H
            clear H
            have p5 : 0 ≤ (x5_1 : Int) := of_decide_eq_true (by first | (with_reducible assumption) | assumption)
            have q5 : x5_1 < (a0.size : Int) := of_decide_eq_true (by first | (with_reducible assumption) | assumption)
            have hx5 := bt_at a0 x5_1
            replace p5 := eq_true p5
            replace q5 := eq_true q5
            go_wp2
            go_roundg k1
            case measure => have := HK1.out; omega
            case rel => exact ⟨(wrap64 (x5_1 + 1)), (by first | rfl | (simp; done) | (simp [*]; done)), H', ⟨by have := HK1.out; omega⟩, by repeat (first | exact Drawn0.refl _ | apply Drawn0.step)⟩
        · rw [if_neg c4] at H
          exact absurd H (by simp)
      · rw [if_neg c3] at H
        have c3b0 : decide (x5_1 < (a0.size : Int)) = false := decide_eq_false c3
        clear c3
        obtain rfl := Option.some.inj H
        go_wp2
        go_ret
        exact ⟨by first | rfl | (simp; done) | (simp [*]; done), by repeat (first | exact Drawn0.refl _ | apply Drawn0.step)⟩

/-! ### spec_rebased: function 16 -/
mutual
def spec_rebased.l0 : Nat → Int → Int → List Int → List Int → Int → Int → Option (List Int)
  | 0, _, _, _, _, _, _ => none
  | k + 1, x1, x2, x7, x12, x13, x14 => if x14 < x13 then (if 0 ≤ x14 then (if x14 < (x12.length : Int) then (spec_rebased.l1 k x1 x2 x7 (rd x12 x14) (wrap64 ((x7.length : Int) - 1)) x12 x13 x14) else (none)) else (none)) else (some x7)
def spec_rebased.l1 : Nat → Int → Int → List Int → Int → Int → List Int → Int → Int → Option (List Int)
  | 0, _, _, _, _, _, _, _, _ => none
  | k + 1, x1, x2, x7, x9, x10, x12, x13, x14 => if x10 ≥ 0 then (if 0 ≤ x10 then (if x10 < (x7.length : Int) then (if x2 = 0 then (none) else (spec_rebased.l1 k x1 x2 (x7.set (x10 : Int).toNat (Int.tmod (wrap64 (x9 + (wrap64 ((rd x7 x10) * x1)))) x2)) (wrap64 (Int.tdiv (wrap64 (x9 + (wrap64 ((rd x7 x10) * x1)))) x2)) (wrap64 (x10 - 1)) x12 x13 x14)) else (none)) else (none)) else (spec_rebased.l2 k x1 x2 x7 x9 x12 x13 x14)
def spec_rebased.l2 : Nat → Int → Int → List Int → Int → List Int → Int → Int → Option (List Int)
  | 0, _, _, _, _, _, _, _ => none
  | k + 1, x1, x2, x7, x9, x12, x13, x14 => if x9 > 0 then (if x2 = 0 then (none) else ((some (([Int.tmod x9 x2] : List Int) : List Int)).bind fun y107 => (if y107.length + x7.length < 17592186044416 then (spec_rebased.l2 k x1 x2 (y107 ++ x7) (wrap64 (Int.tdiv x9 x2)) x12 x13 x14) else (none)))) else (spec_rebased.l0 k x1 x2 x7 x12 x13 (wrap64 (x14 + 1)))
end
def spec_rebased.f (k : Nat) (l0 : List Int) (a1 : Int) (a2 : Int) : Option (List Int) := spec_rebased.l0 k a1 a2 (([] : List Int)) l0 (l0.length : Int) 0
theorem spec_rebased.mono_l : ∀ k, (∀ y0 y1 y2 y3 y4 y5, LeO (spec_rebased.l0 k y0 y1 y2 y3 y4 y5) (spec_rebased.l0 (k + 1) y0 y1 y2 y3 y4 y5)) ∧ (∀ y0 y1 y2 y3 y4 y5 y6 y7, LeO (spec_rebased.l1 k y0 y1 y2 y3 y4 y5 y6 y7) (spec_rebased.l1 (k + 1) y0 y1 y2 y3 y4 y5 y6 y7)) ∧ (∀ y0 y1 y2 y3 y4 y5 y6, LeO (spec_rebased.l2 k y0 y1 y2 y3 y4 y5 y6) (spec_rebased.l2 (k + 1) y0 y1 y2 y3 y4 y5 y6))
  | 0 => ⟨fun _ _ _ _ _ _ r h => by simp [spec_rebased.l0] at h, fun _ _ _ _ _ _ _ _ r h => by simp [spec_rebased.l1] at h, fun _ _ _ _ _ _ _ r h => by simp [spec_rebased.l2] at h⟩
  | k + 1 => by
    obtain ⟨ih0, ih1, ih2⟩ := spec_rebased.mono_l k
    refine ⟨?_, ?_, ?_⟩
    · intro y0 y1 y2 y3 y4 y5
      unfold spec_rebased.l0
      repeat' first
      | (with_reducible exact ih0 _ _ _ _ _ _)
      | (with_reducible exact ih1 _ _ _ _ _ _ _ _)
      | (with_reducible exact ih2 _ _ _ _ _ _ _)
      | (with_reducible exact LeO.refl _)
      | (with_reducible exact LeO.none _)
      | (with_reducible refine LeO.ite ?_ ?_)
      | (with_reducible refine LeO.bind ?_ (fun _ => ?_))
      | exact ih0 _ _ _ _ _ _
      | exact ih1 _ _ _ _ _ _ _ _
      | exact ih2 _ _ _ _ _ _ _
      | exact LeO.none _
      | refine LeO.ite ?_ ?_
      | refine LeO.bind ?_ (fun _ => ?_)
    · intro y0 y1 y2 y3 y4 y5 y6 y7
      unfold spec_rebased.l1
      repeat' first
      | (with_reducible exact ih0 _ _ _ _ _ _)
      | (with_reducible exact ih1 _ _ _ _ _ _ _ _)
      | (with_reducible exact ih2 _ _ _ _ _ _ _)
      | (with_reducible exact LeO.refl _)
      | (with_reducible exact LeO.none _)
      | (with_reducible refine LeO.ite ?_ ?_)
      | (with_reducible refine LeO.bind ?_ (fun _ => ?_))
      | exact ih0 _ _ _ _ _ _
      | exact ih1 _ _ _ _ _ _ _ _
      | exact ih2 _ _ _ _ _ _ _
      | exact LeO.none _
      | refine LeO.ite ?_ ?_
      | refine LeO.bind ?_ (fun _ => ?_)
    · intro y0 y1 y2 y3 y4 y5 y6
      unfold spec_rebased.l2
      repeat' first
      | (with_reducible exact ih0 _ _ _ _ _ _)
      | (with_reducible exact ih1 _ _ _ _ _ _ _ _)
      | (with_reducible exact ih2 _ _ _ _ _ _ _)
      | (with_reducible exact LeO.refl _)
      | (with_reducible exact LeO.none _)
      | (with_reducible refine LeO.ite ?_ ?_)
      | (with_reducible refine LeO.bind ?_ (fun _ => ?_))
      | exact ih0 _ _ _ _ _ _
      | exact ih1 _ _ _ _ _ _ _ _
      | exact ih2 _ _ _ _ _ _ _
      | exact LeO.none _
      | refine LeO.ite ?_ ?_
      | refine LeO.bind ?_ (fun _ => ?_)
theorem spec_rebased.mono : ∀ a0 a1 a2 k, LeO (spec_rebased.f k a0 a1 a2) (spec_rebased.f (k + 1) a0 a1 a2) := by
  intro a0 a1 a2 k
  obtain ⟨ih0, ih1, ih2⟩ := spec_rebased.mono_l k
  unfold spec_rebased.f
  repeat' first
      | (with_reducible exact ih0 _ _ _ _ _ _)
      | (with_reducible exact ih1 _ _ _ _ _ _ _ _)
      | (with_reducible exact ih2 _ _ _ _ _ _ _)
      | (with_reducible exact LeO.refl _)
      | (with_reducible exact LeO.none _)
      | (with_reducible refine LeO.ite ?_ ?_)
      | (with_reducible refine LeO.bind ?_ (fun _ => ?_))
      | exact ih0 _ _ _ _ _ _
      | exact ih1 _ _ _ _ _ _ _ _
      | exact ih2 _ _ _ _ _ _ _
      | exact LeO.none _
      | refine LeO.ite ?_ ?_
      | refine LeO.bind ?_ (fun _ => ?_)
set_option maxHeartbeats 8000000 in
set_option maxRecDepth 100000 in
theorem spec_rebased.calls (k : Nat) (A0 : Option Addr) (c0 : Nat) (l0 : List Int) (a1 : Int) (a2 : Int) (r : List Int) (w : World) (hr0 : Kd.C (Kd.int .i64) w A0 l0.length l0) (hc0 : l0.length ≤ c0) (h : spec_rebased.f k l0 a1 a2 = some r) :
    Calls Tryd.prog 16 #[.slice A0 l0.length c0, .int .i64 a1, .int .i64 a2] w fun e w' => ∃ v0_ : Value, e = .returned (v0_) ∧ Kd.R (Kd.int .i64) 3 w' w.heap.size (fun _ => True) v0_ r ∧ Below w.heap.size w w' := by
  have HR0 := Aside0.mk hr0
  have HC0 := Aside0.mk hc0
  clear hr0 hc0
  have HB := Aside0.mk (Below.refl w.heap.size w)
  have H : (spec_rebased.l0 k a1 a2 (([] : List Int)) l0 (l0.length : Int) 0) = some r := h
  clear h
  obtain ⟨y101, hy101⟩ : ∃ y_ : List Int, y_ = (([] : List Int)) := ⟨_, rfl⟩
  replace H : (spec_rebased.l0 k a1 a2 y101 l0 (l0.length : Int) 0) = some r := by first | (rw [hy101]; with_reducible exact H) | (have H2_ := (Option.bind_some _ _).symm.trans H; rw [hy101]; with_reducible exact H2_) | (have H2_ := (Option.bind_some _ _).symm.trans H; with_reducible exact H2_) | with_reducible exact H | (rw [hy101]; exact H) | exact H
  have Ny101 := Aside0.mk hy101
  clear hy101
  have H' := Aside0.mk H
  clear H
  go_enter Tryd.func16, Tryd.ntmps16
  go_wp2_with (first | ((with_reducible refine gate_dst (N := 11) rfl ?_); refine Kd.R_lit (Kd.int .i64) _ 3 ?hg (N := 11) ?hd (xs := ([] : List Int)) (inner := []) (ok := fun _ => True) (okp := fun _ => True) ?hr ?hp (fun _ hk => hk) trivial (Below.refl _ _) (Nat.le_refl _) (by simp) ?_; (case hd => rfl); (case hg => rfl); (case hr => first | (go_simp; done) | (go_simp; rfl)); (case hp => exact (Reps.none _ _)); intro v102 w4 ho5 hb hg_ hnew_; clear hg_ hnew_; (first | rw [← Ny101.out] at ho5 | (simp only [Int.reduceToNat] at ho5; rw [← Ny101.out] at ho5)); have n0_ := Aside0.mk (Kd.R_lower ho5 (below_size (by repeat (first | (with_reducible first | exact HB.out | apply below_alloc | apply pw_below_drewN | apply below_drew1) | exact HB.out)))); have n1_ := Aside0.mk (below_step (by repeat (first | (with_reducible first | exact HB.out | apply below_alloc | apply pw_below_drewN | apply below_drew1) | exact HB.out)) hb); clear HB; have HO103 := n0_; have HB := n1_; clear n0_ n1_; clear hb ho5))
  go_loopg [7, 14] k (fun kq v7 v14 w' => ∃ (x7_1 : List Int) (x14_1 : Int), v14 = .int .i64 x14_1 ∧ Aside0 (spec_rebased.l0 kq a1 a2 x7_1 l0 (l0.length : Int) x14_1 = some r) ∧ Aside0 (kq ≤ k) ∧ Aside0 (Kd.R (Kd.int .i64) 3 w' w.heap.size (fun _ => True) v7 x7_1) ∧ Aside0 (Below w.heap.size w w'))
  case atStart => exact ⟨(y101), (0), (by first | rfl | (simp; done) | (simp [*]; done)), H', ⟨Nat.le_refl _⟩, ⟨by (with_reducible repeat (first | apply Kd.R_alloc | apply Kd.R_drewN | apply Kd.R_drew)); exact HO103.out⟩, ⟨by repeat (first | (with_reducible first | exact HB.out | apply below_alloc | apply pw_below_drewN | apply below_drew1) | exact HB.out)⟩⟩
  case round =>
    clear H'
    try clear c1
    try clear p2
    obtain ⟨x7_1, x14_1, rfl, HA, HK1, HO_7, HB⟩ := hrel
    cases gk with
    | zero => exact absurd HA.out (by simp [spec_rebased.l0])
    | succ k1 =>
      have H := HA.out
      clear HA
      simp only [spec_rebased.l0] at H
      by_cases c6 : x14_1 < (l0.length : Int)
      · rw [if_pos c6] at H
        have c6b0 : decide (x14_1 < (l0.length : Int)) = true := decide_eq_true c6
        clear c6
        by_cases c7 : 0 ≤ x14_1
        · rw [if_pos c7] at H
          have c7b0 : decide (0 ≤ x14_1) = true := decide_eq_true c7
          clear c7
          by_cases c8 : x14_1 < (l0.length : Int)
          · rw [if_pos c8] at H
            have c8b0 : decide (x14_1 < (l0.length : Int)) = true := decide_eq_true c8
            clear c8
            have H' := Aside0.mk H
            clear H
            have p104 : 0 ≤ (x14_1 : Int) := of_decide_eq_true (by first | (with_reducible assumption) | assumption)
            have q104 : x14_1 < (l0.length : Int) := of_decide_eq_true (by first | (with_reducible assumption) | assumption)
            obtain ⟨ad104, e104, hx104_0⟩ := Kd.at_int HR0.out x14_1 p104 q104
            cases e104
            replace hx104_0 := (HB.out.cell (World.block_lt_of_cell? w _ hx104_0)).trans hx104_0
            replace p104 := eq_true p104
            replace q104 := eq_true q104
            obtain ⟨Ao9, co9, eo9⟩ := Kd.R_slice HO_7.out
            subst eo9
            go_wp2
            go_loopg [9, 10] k1 (fun kq v9 v10 w' => ∃ (x7_2 : List Int) (x9_2 : Int) (x10_2 : Int), v9 = .int .i64 x9_2 ∧ v10 = .int .i64 x10_2 ∧ Aside0 (spec_rebased.l1 kq a1 a2 x7_2 x9_2 x10_2 l0 (l0.length : Int) x14_1 = some r) ∧ Aside0 (kq ≤ k1) ∧ Aside0 (Kd.R (Kd.int .i64) 3 w' w.heap.size (fun _ => True) (.slice Ao9 x7_1.length co9) x7_2) ∧ Aside0 (Below w.heap.size w w'))
            case atStart => exact ⟨(x7_1), (rd l0 x14_1), (wrap64 ((x7_1.length : Int) - 1)), (by first | rfl | (simp; done) | (simp [*]; done)), (by first | rfl | (simp; done) | (simp [*]; done)), H', ⟨Nat.le_refl _⟩, ⟨by (with_reducible repeat (first | apply Kd.R_alloc | apply Kd.R_drewN | apply Kd.R_drew)); exact HO_7.out⟩, ⟨by repeat (first | (with_reducible first | exact HB.out | apply below_alloc | apply pw_below_drewN | apply below_drew1) | exact HB.out)⟩⟩
            case round =>
              clear H'
              try clear c1
              try clear p1
              try clear q1
              try clear hx1
              try clear p2
              try clear c6
              try clear c6b0
              try clear p6
              try clear c7
              try clear c7b0
              try clear c8
              try clear c8b0
              try clear hx104_0
              try clear p104
              try clear p2
              try clear q104
              obtain ⟨x7_2, x9_2, x10_2, rfl, rfl, HA, HK2, HO_7, HB⟩ := hrel
              have hl7_2 := (Kd.R_reads' HO_7.out).1
              rw [hl7_2] at HO_7
              (try simp only [hl7_2])
              cases gk with
              | zero => exact absurd HA.out (by simp [spec_rebased.l1])
              | succ k2 =>
                have H := HA.out
                clear HA
                simp only [spec_rebased.l1] at H
                by_cases c10 : x10_2 ≥ 0
                · rw [if_pos c10] at H
                  have c10b0 : decide (0 ≤ x10_2) = true := decide_eq_true c10
                  clear c10
                  by_cases c11 : 0 ≤ x10_2
                  · rw [if_pos c11] at H
                    have c11b0 : decide (0 ≤ x10_2) = true := decide_eq_true c11
                    clear c11
                    by_cases c12 : x10_2 < (x7_2.length : Int)
                    · rw [if_pos c12] at H
                      have c12b0 : decide (x10_2 < (x7_2.length : Int)) = true := decide_eq_true c12
                      clear c12
                      by_cases c13 : a2 = 0
                      · rw [if_pos c13] at H
                        exact absurd H (by simp)
                      · rw [if_neg c13] at H
                        have c13b0 : (a2 == 0) = false := beq_eq_false_iff_ne.mpr c13
                        have c13b1 : (a2 != 0) = true := bne_iff_ne.mpr c13
                        obtain ⟨y106, hy106⟩ : ∃ y_ : List Int, y_ = (x7_2.set (x10_2 : Int).toNat (Int.tmod (wrap64 (x9_2 + (wrap64 ((rd x7_2 x10_2) * a1)))) a2)) := ⟨_, rfl⟩
                        replace H : (spec_rebased.l1 k2 a1 a2 y106 (wrap64 (Int.tdiv (wrap64 (x9_2 + (wrap64 ((rd x7_2 x10_2) * a1)))) a2)) (wrap64 (x10_2 - 1)) l0 (l0.length : Int) x14_1) = some r := by first | (rw [hy106]; with_reducible exact H) | (have H2_ := (Option.bind_some _ _).symm.trans H; rw [hy106]; with_reducible exact H2_) | (have H2_ := (Option.bind_some _ _).symm.trans H; with_reducible exact H2_) | with_reducible exact H | (rw [hy106]; exact H) | exact H
                        have Ny106 := Aside0.mk hy106
                        clear hy106
                        have H' := Aside0.mk H
                        clear H
                        have p105 : 0 ≤ (x10_2 : Int) := of_decide_eq_true (by first | (with_reducible assumption) | assumption)
                        have q105 : x10_2 < (x7_2.length : Int) := of_decide_eq_true (by first | (with_reducible assumption) | assumption)
                        obtain ⟨ad105, e105, hx105_0⟩ := Kd.at_int (Kd.R_reads' HO_7.out).2.2 x10_2 p105 q105
                        cases e105
                        replace p105 := eq_true p105
                        replace q105 := eq_true q105
                        have p14 : 0 ≤ (x10_2 : Int) := of_decide_eq_true (by first | (with_reducible assumption) | assumption)
                        have q14 : (x10_2 : Int) < ((x7_2.length : Int) : Int) := of_decide_eq_true (by first | (with_reducible assumption) | assumption)
                        obtain ⟨go14, co14, eo14, gb14, gl14, cl14, HG14⟩ := Kd.R_form HO_7.out (by omega)
                        (first | cases eo14 | (injection eo14 with ea_ en_ ec_; (first | subst ea_ | (injection ea_ with ea_; subst ea_)); subst ec_; clear en_))
                        have GB14 := Aside0.mk gb14
                        have GG14 := Aside0.mk HG14
                        clear gb14 gl14 HG14
                        (first | simp only [add_plain] at hx105_0 | skip)
                        obtain ⟨hx14_0, hf14_0⟩ := Kd.R_celln 0 HO_7.out (x10_2 : Int) p14 q14
                        replace p14 := eq_true p14
                        replace q14 := eq_true q14
                        have HP15 := Kd.R_putg HO_7.out (x10_2 : Int) (Int.tmod (wrap64 (x9_2 + (wrap64 ((rd x7_2 x10_2) * a1)))) a2)
                        go_wp2_with (first | ((with_reducible refine gate_store (t := 3) (p := 38) rfl ?_); refine store_event (t := 3) (p := 38) (v := ?vo_w16) (w1 := (wr.setCell ⟨go14, (x10_2 : Int).toNat, none⟩ (.int .i64 (Int.tmod (wrap64 (x9_2 + (wrap64 ((rd x7_2 x10_2) * a1)))) a2)))) ?hg ?ho ?hn ?hr ?_; (case ho => rfl); (case hg => rfl); (case hn => rfl); (case hr => first | (go_simp; done) | (go_simp; rfl)); intro w16 hw; have hg : wr.grownBy w16 (some go14) := (by rw [hw]; exact HP15.2); have hp_ : Kd.R (Kd.int .i64) 3 w16 w.heap.size (fun _ => True) (.slice (some ⟨go14, 0, none⟩) x7_2.length co9) y106 := (by rw [hw, Ny106.out]; exact HP15.1); clear HP15; have n0_ := Aside0.mk (hp_); have n1_ := Aside0.mk ((by rw [hw]; exact below_set (HB.out) GB14.out : Below w.heap.size w w16)); clear HO_7; clear HB; have HO_7 := n0_; have HB := n1_; clear n0_ n1_; clear hg hw hp_))
                        (try simp only [← hl7_2])
                        go_roundg k2
                        case measure => have := HK1.out; have := HK2.out; omega
                        case rel => exact ⟨(y106), (wrap64 (Int.tdiv (wrap64 (x9_2 + (wrap64 ((rd x7_2 x10_2) * a1)))) a2)), (wrap64 (x10_2 - 1)), (by first | rfl | (simp; done) | (simp [*]; done)), (by first | rfl | (simp; done) | (simp [*]; done)), H', ⟨by have := HK1.out; have := HK2.out; omega⟩, ⟨by (try simp only [hl7_2]); (with_reducible repeat (first | apply Kd.R_alloc | apply Kd.R_drewN | apply Kd.R_drew)); exact HO_7.out⟩, ⟨by repeat (first | (with_reducible first | exact HB.out | apply below_alloc | apply pw_below_drewN | apply below_drew1) | exact HB.out)⟩⟩
                    · rw [if_neg c12] at H
                      exact absurd H (by simp)
                  · rw [if_neg c11] at H
                    exact absurd H (by simp)
                · rw [if_neg c10] at H
                  have c10b0 : decide (0 ≤ x10_2) = false := decide_eq_false c10
                  clear c10
                  have H' := Aside0.mk H
                  clear H
                  go_wp2
                  go_loopg [7, 9] k2 (fun kq v7 v9 w' => ∃ (x7_3 : List Int) (x9_3 : Int), v9 = .int .i64 x9_3 ∧ Aside0 (spec_rebased.l2 kq a1 a2 x7_3 x9_3 l0 (l0.length : Int) x14_1 = some r) ∧ Aside0 (kq ≤ k2) ∧ Aside0 (Kd.R (Kd.int .i64) 3 w' w.heap.size (fun _ => True) v7 x7_3) ∧ Aside0 (Below w.heap.size w w'))
                  case atStart => exact ⟨(x7_2), (x9_2), (by first | rfl | (simp; done) | (simp [*]; done)), H', ⟨Nat.le_refl _⟩, ⟨by (try simp only [hl7_2]); (with_reducible repeat (first | apply Kd.R_alloc | apply Kd.R_drewN | apply Kd.R_drew)); exact HO_7.out⟩, ⟨by repeat (first | (with_reducible first | exact HB.out | apply below_alloc | apply pw_below_drewN | apply below_drew1) | exact HB.out)⟩⟩
                  case round =>
                    clear H'
                    try clear c1
                    try clear p1
                    try clear q1
                    try clear hx1
                    try clear p2
                    try clear c6
                    try clear c6b0
                    try clear p6
                    try clear c7
                    try clear c7b0
                    try clear c8
                    try clear c8b0
                    try clear c10
                    try clear c10b0
                    try clear p10
                    try clear q10
                    try clear hx10
                    try clear c11
                    try clear c11b0
                    try clear c12
                    try clear c12b0
                    try clear c13
                    try clear c13b0
                    try clear c13b1
                    try clear p14
                    try clear q14
                    try clear hx14
                    try clear hf14
                    try clear c16
                    try clear hx104_0
                    try clear hx105_0
                    try clear hx14_0
                    try clear p1
                    try clear p104
                    try clear p105
                    try clear p14
                    try clear p2
                    try clear p6
                    try clear q1
                    try clear q104
                    try clear q105
                    try clear q14
                    obtain ⟨x7_3, x9_3, rfl, HA, HK3, HO_7, HB⟩ := hrel
                    cases gk with
                    | zero => exact absurd HA.out (by simp [spec_rebased.l2])
                    | succ k3 =>
                      have H := HA.out
                      clear HA
                      simp only [spec_rebased.l2] at H
                      by_cases c17 : x9_3 > 0
                      · rw [if_pos c17] at H
                        have c17b0 : decide (0 < x9_3) = true := decide_eq_true c17
                        clear c17
                        by_cases c18 : a2 = 0
                        · rw [if_pos c18] at H
                          exact absurd H (by simp)
                        · rw [if_neg c18] at H
                          have c18b0 : (a2 == 0) = false := beq_eq_false_iff_ne.mpr c18
                          have c18b1 : (a2 != 0) = true := bne_iff_ne.mpr c18
                          obtain ⟨y107, hy107⟩ : ∃ y_ : List Int, y_ = (([Int.tmod x9_3 a2] : List Int)) := ⟨_, rfl⟩
                          replace H : (if y107.length + x7_3.length < 17592186044416 then (spec_rebased.l2 k3 a1 a2 (y107 ++ x7_3) (wrap64 (Int.tdiv x9_3 a2)) l0 (l0.length : Int) x14_1) else (none)) = some r := by first | (rw [hy107]; with_reducible exact H) | (have H2_ := (Option.bind_some _ _).symm.trans H; rw [hy107]; with_reducible exact H2_) | (have H2_ := (Option.bind_some _ _).symm.trans H; with_reducible exact H2_) | with_reducible exact H | (rw [hy107]; exact H) | exact H
                          have Ny107 := Aside0.mk hy107
                          clear hy107
                          by_cases c19 : y107.length + x7_3.length < 17592186044416
                          · rw [if_pos c19] at H
                            have LMc19 := Aside0.mk c19
                            clear c19
                            obtain ⟨y110, hy110⟩ : ∃ y_ : List Int, y_ = (y107 ++ x7_3) := ⟨_, rfl⟩
                            replace H : (spec_rebased.l2 k3 a1 a2 y110 (wrap64 (Int.tdiv x9_3 a2)) l0 (l0.length : Int) x14_1) = some r := by first | (rw [hy110]; with_reducible exact H) | (have H2_ := (Option.bind_some _ _).symm.trans H; rw [hy110]; with_reducible exact H2_) | (have H2_ := (Option.bind_some _ _).symm.trans H; with_reducible exact H2_) | with_reducible exact H | (rw [hy110]; exact H) | exact H
                            have Ny110 := Aside0.mk hy110
                            clear hy110
                            have H' := Aside0.mk H
                            clear H
                            go_wp2_with (first | ((with_reducible refine gate_dst (N := 47) rfl ?_); refine Kd.R_lit (Kd.int .i64) _ 3 ?hg (N := 47) ?hd (xs := ([Int.tmod x9_3 a2] : List Int)) (inner := [.int .i64 (Int.tmod x9_3 a2)]) (ok := fun _ => True) (okp := fun _ => True) ?hr ?hp (fun _ hk => hk) trivial (Below.refl _ _) (Nat.le_refl _) (by simp) ?_; (case hd => rfl); (case hg => rfl); (case hr => first | (go_simp; done) | (go_simp; rfl)); (case hp => exact (Reps.one (show Kd.M (Kd.int .i64) _ _ _ (Int.tmod x9_3 a2) [.int .i64 (Int.tmod x9_3 a2)] from rfl) (Reps.none _ _))); intro v108 w20 ho21 hb hg_ hnew_; clear hg_ hnew_; (first | rw [← Ny107.out] at ho21 | (simp only [Int.reduceToNat] at ho21; rw [← Ny107.out] at ho21)); have n0_ := Aside0.mk (Kd.R_elder' (by (with_reducible repeat (first | apply Kd.R_alloc | apply Kd.R_drewN | apply Kd.R_drew)); exact HO_7.out) (Kd.R_base ho21) hb); have n1_ := Aside0.mk (Kd.R_lower (Kd.R_new' ho21 (Kd.R_lt (by (with_reducible repeat (first | apply Kd.R_alloc | apply Kd.R_drewN | apply Kd.R_drew)); exact HO_7.out))) (below_size (by repeat (first | (with_reducible first | exact HB.out | apply below_alloc | apply pw_below_drewN | apply below_drew1) | exact HB.out)))); have n2_ := Aside0.mk (below_step (by repeat (first | (with_reducible first | exact HB.out | apply below_alloc | apply pw_below_drewN | apply below_drew1) | exact HB.out)) hb); clear HO_7; clear HB; have HO_7 := n0_; have HO109 := n1_; have HB := n2_; clear n0_ n1_ n2_; clear hb ho21; obtain ⟨Ao23, co23, eo23⟩ := Kd.R_slice HO_7.out; subst eo23) | ((with_reducible refine gate_builtin (b := .append) (xs := #[.tmp 47, .tmp 48]) rfl ?_); at_builtin; refine Kd.R_append_rows (Kd.int .i64) (w0 := w) w.heap.size rfl (.tmp 47) (.tmp 48) 35 3 (.int .i64 0) 8 rfl Tryd.underlying35 info3 rfl (by decide) (by omega) v108 y107 x7_3 _ _ _ (fun k_ => some k_ ≠ (.slice Ao23 x7_3.length co23 : Value).ownBlock) (fun _ => False) rfl rfl ?aO ?aR (fun _ _ h => h) (fun _ h => h.elim) ?aF ?aB ?aS ?aL ?_; (case aR => repeat (first | exact (Kd.R_reads' HO_7.out).2.2 | (with_reducible refine Kd.C_alloc ?_ _) | (with_reducible refine Kd.C_drewN ?_ _) | (with_reducible refine Kd.C_drew ?_))); (case aB => exact (by repeat (first | (with_reducible first | exact HB.out | apply below_alloc | apply pw_below_drewN | apply below_drew1) | exact HB.out))); (case aF => exact (fun k_ hk => Kd.fresh' (Kd.R_lt (by (with_reducible repeat (first | apply Kd.R_alloc | apply Kd.R_drewN | apply Kd.R_drew)); exact HO_7.out)) k_ hk)); (case aO => exact (by (with_reducible repeat (first | apply Kd.R_alloc | apply Kd.R_drewN | apply Kd.R_drew)); exact Kd.R_mono HO109.out (fun _ hk => hk.2))); (case aS => exact (below_size (by repeat (first | (with_reducible first | exact HB.out | apply below_alloc | apply pw_below_drewN | apply below_drew1) | exact HB.out)))); (case aL => have := LMc19.out; omega); intro v111 w22 ho hb hg hat; rw [← Ny110.out] at ho; have n0_ := Aside0.mk (Kd.R_after (ok := (fun _ => True)) (by (with_reducible repeat (first | apply Kd.R_alloc | apply Kd.R_drewN | apply Kd.R_drew)); exact HO_7.out) hg hat); have n1_ := Aside0.mk (hb); have n2_ := Aside0.mk (ho); clear HO_7; clear HB; clear HO109; have HO_7 := n0_; have HB := n1_; have HO112 := n2_; clear n0_ n1_ n2_; clear ho hb hg hat))
                            go_roundg k3
                            case measure => have := HK1.out; have := HK2.out; have := HK3.out; omega
                            case rel => exact ⟨(y110), (wrap64 (Int.tdiv x9_3 a2)), (by first | rfl | (simp; done) | (simp [*]; done)), H', ⟨by have := HK1.out; have := HK2.out; have := HK3.out; omega⟩, ⟨by (try simp only [hl7_2]); (with_reducible repeat (first | apply Kd.R_alloc | apply Kd.R_drewN | apply Kd.R_drew)); exact Kd.R_mono HO112.out (fun _ hk => trivial)⟩, ⟨by repeat (first | (with_reducible first | exact HB.out | apply below_alloc | apply pw_below_drewN | apply below_drew1) | exact HB.out)⟩⟩
                          · rw [if_neg c19] at H
                            exact absurd H (by simp)
                      · rw [if_neg c17] at H
                        have c17b0 : decide (0 < x9_3) = false := decide_eq_false c17
                        clear c17
                        have H' := Aside0.mk H
                        clear H
                        go_wp2
                        (try simp only [← hl7_2])
                        go_roundg k3
                        case measure => have := HK1.out; have := HK2.out; have := HK3.out; omega
                        case rel => exact ⟨(x7_3), (wrap64 (x14_1 + 1)), (by first | rfl | (simp; done) | (simp [*]; done)), H', ⟨by have := HK1.out; have := HK2.out; have := HK3.out; omega⟩, ⟨by (try simp only [hl7_2]); (with_reducible repeat (first | apply Kd.R_alloc | apply Kd.R_drewN | apply Kd.R_drew)); exact HO_7.out⟩, ⟨by repeat (first | (with_reducible first | exact HB.out | apply below_alloc | apply pw_below_drewN | apply below_drew1) | exact HB.out)⟩⟩
          · rw [if_neg c8] at H
            exact absurd H (by simp)
        · rw [if_neg c7] at H
          exact absurd H (by simp)
      · rw [if_neg c6] at H
        have c6b0 : decide (x14_1 < (l0.length : Int)) = false := decide_eq_false c6
        clear c6
        obtain rfl := Option.some.inj H
        go_wp2
        go_ret
        exact ⟨_, by first | rfl | (simp [errW_none, errW_some] <;> rfl) | (simp [*, errW_none, errW_some] <;> rfl), by (with_reducible repeat (first | apply Kd.R_alloc | apply Kd.R_drewN | apply Kd.R_drew)); exact HO_7.out, by repeat (first | (with_reducible first | exact HB.out | apply below_alloc | apply pw_below_drewN | apply below_drew1) | exact HB.out)⟩

/-! ### spec_UnBase58: function 7 -/
mutual
def spec_UnBase58.l0 : Nat → ByteArray → List Int → List Int → Int → Option (List Int × Bool)
  | 0, _, _, _, _ => none
  | k + 1, x0, x4, x5, x6 => if x6 < (x0.size : Int) then (if 0 ≤ x6 then ((spec_indexOf.f k (⟨#[49, 50, 51, 52, 53, 54, 55, 56, 57, 65, 66, 67, 68, 69, 70, 71, 72, 74, 75, 76, 77, 78, 80, 81, 82, 83, 84, 85, 86, 87, 88, 89, 90, 97, 98, 99, 100, 101, 102, 103, 104, 105, 106, 107, 109, 110, 111, 112, 113, 114, 115, 116, 117, 118, 119, 120, 121, 122]⟩ : ByteArray) (bt x0 x6)).bind fun t119 => (if t119 < 0 then (some (([] : List Int), false)) else (if x4.length < 17592186044416 then (spec_UnBase58.l0 k x0 (x4 ++ [t119]) x5 (wrap64 (x6 + 1))) else (none)))) else (none)) else (spec_UnBase58.l1 k x0 x4 x5 0)
def spec_UnBase58.j2 : Nat → List Int → List Int → Option (List Int × Bool)
  | 0, _, _ => none
  | k + 1, x4, x5 => (spec_rebased.f k x4 58 256).bind fun t126 => (spec_UnBase58.l2 k x5 t126 (t126.length : Int) 0)
def spec_UnBase58.l2 : Nat → List Int → List Int → Int → Int → Option (List Int × Bool)
  | 0, _, _, _, _ => none
  | k + 1, x5, x45, x46, x47 => if x47 < x46 then (if 0 ≤ x47 then (if x47 < (x45.length : Int) then (if x5.length < 140737488355328 then (spec_UnBase58.l2 k (x5 ++ [(rd x45 x47) % 256]) x45 x46 (wrap64 (x47 + 1))) else (none)) else (none)) else (none)) else (some (x5, true))
def spec_UnBase58.l1 : Nat → ByteArray → List Int → List Int → Int → Option (List Int × Bool)
  | 0, _, _, _, _ => none
  | k + 1, x0, x4, x5, x8 => if x8 < (x0.size : Int) then (if 0 ≤ x8 then (if (bt x0 x8) = 49 then (if x5.length < 140737488355328 then (spec_UnBase58.l1 k x0 x4 (x5 ++ [0]) (wrap64 (x8 + 1))) else (none)) else (spec_UnBase58.j2 k x4 x5)) else (none)) else (spec_UnBase58.j2 k x4 x5)
end
def spec_UnBase58.f (k : Nat) (a0 : ByteArray) : Option (List Int × Bool) := spec_UnBase58.l0 k a0 (([] : List Int)) (([] : List Int)) 0
theorem spec_UnBase58.mono_l : ∀ k, (∀ y0 y1 y2 y3, LeO (spec_UnBase58.l0 k y0 y1 y2 y3) (spec_UnBase58.l0 (k + 1) y0 y1 y2 y3)) ∧ (∀ y0 y1, LeO (spec_UnBase58.j2 k y0 y1) (spec_UnBase58.j2 (k + 1) y0 y1)) ∧ (∀ y0 y1 y2 y3, LeO (spec_UnBase58.l2 k y0 y1 y2 y3) (spec_UnBase58.l2 (k + 1) y0 y1 y2 y3)) ∧ (∀ y0 y1 y2 y3, LeO (spec_UnBase58.l1 k y0 y1 y2 y3) (spec_UnBase58.l1 (k + 1) y0 y1 y2 y3))
  | 0 => ⟨fun _ _ _ _ r h => by simp [spec_UnBase58.l0] at h, fun _ _ r h => by simp [spec_UnBase58.j2] at h, fun _ _ _ _ r h => by simp [spec_UnBase58.l2] at h, fun _ _ _ _ r h => by simp [spec_UnBase58.l1] at h⟩
  | k + 1 => by
    obtain ⟨ih0, ih1, ih2, ih3⟩ := spec_UnBase58.mono_l k
    refine ⟨?_, ?_, ?_, ?_⟩
    · intro y0 y1 y2 y3
      unfold spec_UnBase58.l0
      repeat' first
      | (with_reducible exact ih0 _ _ _ _)
      | (with_reducible exact ih1 _ _)
      | (with_reducible exact ih2 _ _ _ _)
      | (with_reducible exact ih3 _ _ _ _)
      | (with_reducible exact spec_indexOf.mono _ _ _)
      | (with_reducible exact spec_rebased.mono _ _ _ _)
      | (with_reducible exact LeO.refl _)
      | (with_reducible exact LeO.none _)
      | (with_reducible refine LeO.ite ?_ ?_)
      | (with_reducible refine LeO.bind ?_ (fun _ => ?_))
      | exact ih0 _ _ _ _
      | exact ih1 _ _
      | exact ih2 _ _ _ _
      | exact ih3 _ _ _ _
      | exact spec_indexOf.mono _ _ _
      | exact spec_rebased.mono _ _ _ _
      | exact LeO.none _
      | refine LeO.ite ?_ ?_
      | refine LeO.bind ?_ (fun _ => ?_)
    · intro y0 y1
      unfold spec_UnBase58.j2
      repeat' first
      | (with_reducible exact ih0 _ _ _ _)
      | (with_reducible exact ih1 _ _)
      | (with_reducible exact ih2 _ _ _ _)
      | (with_reducible exact ih3 _ _ _ _)
      | (with_reducible exact spec_indexOf.mono _ _ _)
      | (with_reducible exact spec_rebased.mono _ _ _ _)
      | (with_reducible exact LeO.refl _)
      | (with_reducible exact LeO.none _)
      | (with_reducible refine LeO.ite ?_ ?_)
      | (with_reducible refine LeO.bind ?_ (fun _ => ?_))
      | exact ih0 _ _ _ _
      | exact ih1 _ _
      | exact ih2 _ _ _ _
      | exact ih3 _ _ _ _
      | exact spec_indexOf.mono _ _ _
      | exact spec_rebased.mono _ _ _ _
      | exact LeO.none _
      | refine LeO.ite ?_ ?_
      | refine LeO.bind ?_ (fun _ => ?_)
    · intro y0 y1 y2 y3
      unfold spec_UnBase58.l2
      repeat' first
      | (with_reducible exact ih0 _ _ _ _)
      | (with_reducible exact ih1 _ _)
      | (with_reducible exact ih2 _ _ _ _)
      | (with_reducible exact ih3 _ _ _ _)
      | (with_reducible exact spec_indexOf.mono _ _ _)
      | (with_reducible exact spec_rebased.mono _ _ _ _)
      | (with_reducible exact LeO.refl _)
      | (with_reducible exact LeO.none _)
      | (with_reducible refine LeO.ite ?_ ?_)
      | (with_reducible refine LeO.bind ?_ (fun _ => ?_))
      | exact ih0 _ _ _ _
      | exact ih1 _ _
      | exact ih2 _ _ _ _
      | exact ih3 _ _ _ _
      | exact spec_indexOf.mono _ _ _
      | exact spec_rebased.mono _ _ _ _
      | exact LeO.none _
      | refine LeO.ite ?_ ?_
      | refine LeO.bind ?_ (fun _ => ?_)
    · intro y0 y1 y2 y3
      unfold spec_UnBase58.l1
      repeat' first
      | (with_reducible exact ih0 _ _ _ _)
      | (with_reducible exact ih1 _ _)
      | (with_reducible exact ih2 _ _ _ _)
      | (with_reducible exact ih3 _ _ _ _)
      | (with_reducible exact spec_indexOf.mono _ _ _)
      | (with_reducible exact spec_rebased.mono _ _ _ _)
      | (with_reducible exact LeO.refl _)
      | (with_reducible exact LeO.none _)
      | (with_reducible refine LeO.ite ?_ ?_)
      | (with_reducible refine LeO.bind ?_ (fun _ => ?_))
      | exact ih0 _ _ _ _
      | exact ih1 _ _
      | exact ih2 _ _ _ _
      | exact ih3 _ _ _ _
      | exact spec_indexOf.mono _ _ _
      | exact spec_rebased.mono _ _ _ _
      | exact LeO.none _
      | refine LeO.ite ?_ ?_
      | refine LeO.bind ?_ (fun _ => ?_)
theorem spec_UnBase58.mono : ∀ a0 k, LeO (spec_UnBase58.f k a0) (spec_UnBase58.f (k + 1) a0) := by
  intro a0 k
  obtain ⟨ih0, ih1, ih2, ih3⟩ := spec_UnBase58.mono_l k
  unfold spec_UnBase58.f
  repeat' first
      | (with_reducible exact ih0 _ _ _ _)
      | (with_reducible exact ih1 _ _)
      | (with_reducible exact ih2 _ _ _ _)
      | (with_reducible exact ih3 _ _ _ _)
      | (with_reducible exact spec_indexOf.mono _ _ _)
      | (with_reducible exact spec_rebased.mono _ _ _ _)
      | (with_reducible exact LeO.refl _)
      | (with_reducible exact LeO.none _)
      | (with_reducible refine LeO.ite ?_ ?_)
      | (with_reducible refine LeO.bind ?_ (fun _ => ?_))
      | exact ih0 _ _ _ _
      | exact ih1 _ _
      | exact ih2 _ _ _ _
      | exact ih3 _ _ _ _
      | exact spec_indexOf.mono _ _ _
      | exact spec_rebased.mono _ _ _ _
      | exact LeO.none _
      | refine LeO.ite ?_ ?_
      | refine LeO.bind ?_ (fun _ => ?_)
set_option maxHeartbeats 8000000 in
set_option maxRecDepth 100000 in
theorem spec_UnBase58.calls (k : Nat) (a0 : ByteArray) (r1 : List Int) (r2 : Bool) (w : World) (h : spec_UnBase58.f k a0 = some (r1, r2)) :
    Calls Tryd.prog 7 #[.string a0] w fun e w' => ∃ v0_ : Value, e = .returned (.tuple #[v0_, .bool r2]) ∧ Kd.R (Kd.int .u8) 5 w' w.heap.size (fun _ => True) v0_ r1 ∧ Below w.heap.size w w' := by
  have HB := Aside0.mk (Below.refl w.heap.size w)
  have H : (spec_UnBase58.l0 k a0 (([] : List Int)) (([] : List Int)) 0) = some (r1, r2) := h
  clear h
  obtain ⟨y113, hy113⟩ : ∃ y_ : List Int, y_ = (([] : List Int)) := ⟨_, rfl⟩
  replace H : (spec_UnBase58.l0 k a0 y113 (([] : List Int)) 0) = some (r1, r2) := by first | (rw [hy113]; with_reducible exact H) | (have H2_ := (Option.bind_some _ _).symm.trans H; rw [hy113]; with_reducible exact H2_) | (have H2_ := (Option.bind_some _ _).symm.trans H; with_reducible exact H2_) | with_reducible exact H | (rw [hy113]; exact H) | exact H
  have Ny113 := Aside0.mk hy113
  clear hy113
  obtain ⟨y116, hy116⟩ : ∃ y_ : List Int, y_ = (([] : List Int)) := ⟨_, rfl⟩
  replace H : (spec_UnBase58.l0 k a0 y113 y116 0) = some (r1, r2) := by first | (rw [hy116]; with_reducible exact H) | (have H2_ := (Option.bind_some _ _).symm.trans H; rw [hy116]; with_reducible exact H2_) | (have H2_ := (Option.bind_some _ _).symm.trans H; with_reducible exact H2_) | with_reducible exact H | (rw [hy116]; exact H) | exact H
  have Ny116 := Aside0.mk hy116
  clear hy116
  have H' := Aside0.mk H
  clear H
  go_enter Tryd.func7, Tryd.ntmps7
  go_wp2_with (first | ((with_reducible refine gate_dst (N := 11) rfl ?_); refine Kd.R_lit (Kd.int .i64) _ 3 ?hg (N := 11) ?hd (xs := ([] : List Int)) (inner := []) (ok := fun _ => True) (okp := fun _ => True) ?hr ?hp (fun _ hk => hk) trivial (Below.refl _ _) (Nat.le_refl _) (by simp) ?_; (case hd => rfl); (case hg => rfl); (case hr => first | (go_simp; done) | (go_simp; rfl)); (case hp => exact (Reps.none _ _)); intro v114 w2 ho3 hb hg_ hnew_; clear hg_ hnew_; (first | rw [← Ny113.out] at ho3 | (simp only [Int.reduceToNat] at ho3; rw [← Ny113.out] at ho3)); have n0_ := Aside0.mk (Kd.R_lower ho3 (below_size (by repeat (first | (with_reducible first | exact HB.out | apply below_alloc | apply pw_below_drewN | apply below_drew1) | exact HB.out)))); have n1_ := Aside0.mk (below_step (by repeat (first | (with_reducible first | exact HB.out | apply below_alloc | apply pw_below_drewN | apply below_drew1) | exact HB.out)) hb); clear HB; have HO115 := n0_; have HB := n1_; clear n0_ n1_; clear hb ho3) | ((with_reducible refine gate_dst (N := 12) rfl ?_); refine Kd.R_lit (Kd.int .u8) _ 5 ?hg (N := 12) ?hd (xs := ([] : List Int)) (inner := []) (ok := fun _ => True) (okp := fun _ => True) ?hr ?hp (fun _ hk => hk) trivial (Below.refl _ _) (Nat.le_refl _) (by simp) ?_; (case hd => rfl); (case hg => rfl); (case hr => first | (go_simp; done) | (go_simp; rfl)); (case hp => exact (Reps.none _ _)); intro v117 w4 ho5 hb hg_ hnew_; clear hg_ hnew_; (first | rw [← Ny116.out] at ho5 | (simp only [Int.reduceToNat] at ho5; rw [← Ny116.out] at ho5)); have n0_ := Aside0.mk (Kd.R_below (by (with_reducible repeat (first | apply Kd.R_alloc | apply Kd.R_drewN | apply Kd.R_drew)); exact HO115.out) hb); have n1_ := Aside0.mk (Kd.R_lower ho5 (below_size (by repeat (first | (with_reducible first | exact HB.out | apply below_alloc | apply pw_below_drewN | apply below_drew1) | exact HB.out)))); have n2_ := Aside0.mk (below_step (by repeat (first | (with_reducible first | exact HB.out | apply below_alloc | apply pw_below_drewN | apply below_drew1) | exact HB.out)) hb); clear HO115; clear HB; have HO115 := n0_; have HO118 := n1_; have HB := n2_; clear n0_ n1_ n2_; clear hb ho5))
  go_loopg [4, 6] k (fun kq v4 v6 w' => ∃ (x4_1 : List Int) (x6_1 : Int), v6 = .int .i64 x6_1 ∧ Aside0 (spec_UnBase58.l0 kq a0 x4_1 y116 x6_1 = some (r1, r2)) ∧ Aside0 (kq ≤ k) ∧ Aside0 (Kd.R (Kd.int .i64) 3 w' w.heap.size (fun _ => True) v4 x4_1) ∧ Aside0 (Kd.R (Kd.int .u8) 5 w' w.heap.size (fun _ => True) v117 y116) ∧ Aside0 (Below w.heap.size w w'))
  case atStart => exact ⟨(y113), (0), (by first | rfl | (simp; done) | (simp [*]; done)), H', ⟨Nat.le_refl _⟩, ⟨by (with_reducible repeat (first | apply Kd.R_alloc | apply Kd.R_drewN | apply Kd.R_drew)); exact HO115.out⟩, ⟨by (with_reducible repeat (first | apply Kd.R_alloc | apply Kd.R_drewN | apply Kd.R_drew)); exact HO118.out⟩, ⟨by repeat (first | (with_reducible first | exact HB.out | apply below_alloc | apply pw_below_drewN | apply below_drew1) | exact HB.out)⟩⟩
  case round =>
    clear H'
    try clear p2
    obtain ⟨x4_1, x6_1, rfl, HA, HK1, HO_4, HO_5, HB⟩ := hrel
    cases gk with
    | zero => exact absurd HA.out (by simp [spec_UnBase58.l0])
    | succ k1 =>
      have H := HA.out
      clear HA
      simp only [spec_UnBase58.l0] at H
      by_cases c6 : x6_1 < (a0.size : Int)
      · rw [if_pos c6] at H
        have c6b0 : decide (x6_1 < (a0.size : Int)) = true := decide_eq_true c6
        clear c6
        by_cases c7 : 0 ≤ x6_1
        · rw [if_pos c7] at H
          have c7b0 : decide (0 ≤ x6_1) = true := decide_eq_true c7
          clear c7
          replace H := Option.bind_eq_some_iff.mp H
          obtain ⟨t119, A90, H⟩ := H
          replace H : (if t119 < 0 then (some (([] : List Int), false)) else (if x4_1.length < 17592186044416 then (spec_UnBase58.l0 k1 a0 (x4_1 ++ [t119]) y116 (wrap64 (x6_1 + 1))) else (none))) = some (r1, r2) := H
          have A9 := Aside0.mk A90
          clear A90
          by_cases c10 : t119 < 0
          · rw [if_pos c10] at H
            have c10b0 : decide (t119 < 0) = true := decide_eq_true c10
            clear c10
            simp only [Option.some.injEq, Prod.mk.injEq] at H
            obtain ⟨rfl, rfl⟩ := H
            have p8 : 0 ≤ (x6_1 : Int) := of_decide_eq_true (by first | (with_reducible assumption) | assumption)
            have q8 : x6_1 < (a0.size : Int) := of_decide_eq_true (by first | (with_reducible assumption) | assumption)
            have hx8 := bt_at a0 x6_1
            replace p8 := eq_true p8
            replace q8 := eq_true q8
            go_wp2_with (first | ((with_reducible refine gate_callee (f := 15) rfl ?_); refine goesL_ (some 22) rfl rfl Tryd.func15 (by kernel_rfl) rfl #[.string (⟨#[49, 50, 51, 52, 53, 54, 55, 56, 57, 65, 66, 67, 68, 69, 70, 71, 72, 74, 75, 76, 77, 78, 80, 81, 82, 83, 84, 85, 86, 87, 88, 89, 90, 97, 98, 99, 100, 101, 102, 103, 104, 105, 106, 107, 109, 110, 111, 112, 113, 114, 115, 116, 117, 118, 119, 120, 121, 122]⟩ : ByteArray), .int .u8 (bt a0 x6_1)] rfl (by (try simp only [List.map_toArray, List.map_cons, List.map_nil]); first | done | rfl | (simp only [List.length_drop, List.length_take]; rfl)) ?_; (with_reducible refine (spec_indexOf.calls k1 (⟨#[49, 50, 51, 52, 53, 54, 55, 56, 57, 65, 66, 67, 68, 69, 70, 71, 72, 74, 75, 76, 77, 78, 80, 81, 82, 83, 84, 85, 86, 87, 88, 89, 90, 97, 98, 99, 100, 101, 102, 103, 104, 105, 106, 107, 109, 110, 111, 112, 113, 114, 115, 116, 117, 118, 119, 120, 121, 122]⟩ : ByteArray) (bt a0 x6_1) t119 _ A9.out).mono ?_); rintro e w' ⟨rfl, ⟨nd, rfl⟩⟩; refine ⟨_, rfl, ?_⟩))
            go_ret2
            exact ⟨_, by first | rfl | (simp [errW_none, errW_some] <;> rfl) | (simp [*, errW_none, errW_some] <;> rfl), by first | exact Kd.R_nil _ _ _ _ _ | exact Kd.N_nil _ _ _ _ _ | exact Kd.V_nil _ _ _ _ _ | exact Kd.Q_nil _ _ _ _ _ | exact Kd.S_nil _ _ _ _ _, by repeat (first | (with_reducible first | exact HB.out | apply below_alloc | apply pw_below_drewN | apply below_drew1) | exact HB.out)⟩
          · rw [if_neg c10] at H
            have c10b0 : decide (t119 < 0) = false := decide_eq_false c10
            clear c10
            by_cases c11 : x4_1.length < 17592186044416
            · rw [if_pos c11] at H
              have LMc11 := Aside0.mk c11
              clear c11
              obtain ⟨y120, hy120⟩ : ∃ y_ : List Int, y_ = (x4_1 ++ [t119]) := ⟨_, rfl⟩
              replace H : (spec_UnBase58.l0 k1 a0 y120 y116 (wrap64 (x6_1 + 1))) = some (r1, r2) := by first | (rw [hy120]; with_reducible exact H) | (have H2_ := (Option.bind_some _ _).symm.trans H; rw [hy120]; with_reducible exact H2_) | (have H2_ := (Option.bind_some _ _).symm.trans H; with_reducible exact H2_) | with_reducible exact H | (rw [hy120]; exact H) | exact H
              have Ny120 := Aside0.mk hy120
              clear hy120
              have H' := Aside0.mk H
              clear H
              have p8 : 0 ≤ (x6_1 : Int) := of_decide_eq_true (by first | (with_reducible assumption) | assumption)
              have q8 : x6_1 < (a0.size : Int) := of_decide_eq_true (by first | (with_reducible assumption) | assumption)
              have hx8 := bt_at a0 x6_1
              replace p8 := eq_true p8
              replace q8 := eq_true q8
              go_wp2_with (first | ((with_reducible refine gate_callee (f := 15) rfl ?_); refine goesL_ (some 22) rfl rfl Tryd.func15 (by kernel_rfl) rfl #[.string (⟨#[49, 50, 51, 52, 53, 54, 55, 56, 57, 65, 66, 67, 68, 69, 70, 71, 72, 74, 75, 76, 77, 78, 80, 81, 82, 83, 84, 85, 86, 87, 88, 89, 90, 97, 98, 99, 100, 101, 102, 103, 104, 105, 106, 107, 109, 110, 111, 112, 113, 114, 115, 116, 117, 118, 119, 120, 121, 122]⟩ : ByteArray), .int .u8 (bt a0 x6_1)] rfl (by (try simp only [List.map_toArray, List.map_cons, List.map_nil]); first | done | rfl | (simp only [List.length_drop, List.length_take]; rfl)) ?_; (with_reducible refine (spec_indexOf.calls k1 (⟨#[49, 50, 51, 52, 53, 54, 55, 56, 57, 65, 66, 67, 68, 69, 70, 71, 72, 74, 75, 76, 77, 78, 80, 81, 82, 83, 84, 85, 86, 87, 88, 89, 90, 97, 98, 99, 100, 101, 102, 103, 104, 105, 106, 107, 109, 110, 111, 112, 113, 114, 115, 116, 117, 118, 119, 120, 121, 122]⟩ : ByteArray) (bt a0 x6_1) t119 _ A9.out).mono ?_); rintro e w' ⟨rfl, ⟨nd, rfl⟩⟩; refine ⟨_, rfl, ?_⟩) | ((with_reducible refine gate_builtin (b := .append) (xs := #[.tmp 25, .tmp 27]) rfl ?_); at_builtin; refine Kd.R_append (Kd.int .i64) (w0 := w) w.heap.size rfl (.tmp 25) (.tmp 27) 35 3 (.int .i64 0) 8 rfl Tryd.underlying35 info3 rfl (by decide) (by omega) u4 x4_1 t119 [.int .i64 t119] (fun _ => True) (fun _ => False) rfl rfl ?aP (fun _ hk => hk.elim) ?aF ?aO ?aB ?aS ?aL ?_; (case aP => exact rfl); (case aB => exact (by repeat (first | (with_reducible first | exact HB.out | apply below_alloc | apply pw_below_drewN | apply below_drew1) | exact HB.out))); (case aF => exact (fun _ _ => trivial)); (case aO => exact (by (with_reducible repeat (first | apply Kd.R_alloc | apply Kd.R_drewN | apply Kd.R_drew)); exact HO_4.out)); (case aS => exact (below_size (by repeat (first | (with_reducible first | exact HB.out | apply below_alloc | apply pw_below_drewN | apply below_drew1) | exact HB.out)))); (case aL => have := LMc11.out; omega); intro v121 w12 ho hb hg hat; rw [← Ny120.out] at ho; have n0_ := Aside0.mk (Kd.R_over' (by (with_reducible repeat (first | apply Kd.R_alloc | apply Kd.R_drewN | apply Kd.R_drew)); exact HO_5.out) (Kd.R_typed (by (with_reducible repeat (first | apply Kd.R_alloc | apply Kd.R_drewN | apply Kd.R_drew)); exact HO_4.out)) (by decide) hg); have n1_ := Aside0.mk (hb); have n2_ := Aside0.mk (ho); clear HO_5; clear HB; clear HO_4; have HO_5 := n0_; have HB := n1_; have HO122 := n2_; clear n0_ n1_ n2_; clear ho hb hg hat))
              go_roundg k1
              case measure => have := HK1.out; omega
              case rel => exact ⟨(y120), (wrap64 (x6_1 + 1)), (by first | rfl | (simp; done) | (simp [*]; done)), H', ⟨by have := HK1.out; omega⟩, ⟨by (with_reducible repeat (first | apply Kd.R_alloc | apply Kd.R_drewN | apply Kd.R_drew)); exact HO122.out⟩, ⟨by (with_reducible repeat (first | apply Kd.R_alloc | apply Kd.R_drewN | apply Kd.R_drew)); exact HO_5.out⟩, ⟨by repeat (first | (with_reducible first | exact HB.out | apply below_alloc | apply pw_below_drewN | apply below_drew1) | exact HB.out)⟩⟩
            · rw [if_neg c11] at H
              exact absurd H (by simp)
        · rw [if_neg c7] at H
          exact absurd H (by simp)
      · rw [if_neg c6] at H
        have c6b0 : decide (x6_1 < (a0.size : Int)) = false := decide_eq_false c6
        clear c6
        have HC13 := Aside0.mk H
        clear H
        go_upto_block 2 with (fail)
        go_cut [5] (fun v5 wc => ∃ (kq : Nat) (x5_12 : List Int), Aside0 (spec_UnBase58.j2 kq x4_1 x5_12 = some (r1, r2)) ∧ Aside0 (kq ≤ k1) ∧ Aside0 (Kd.R (Kd.int .i64) 3 wc w.heap.size (fun _ => True) u4 x4_1) ∧ Aside0 (Kd.R (Kd.int .u8) 5 wc w.heap.size (fun _ => True) v5 x5_12) ∧ Aside0 (Below w.heap.size w wc))
        case first =>
          have H := HC13.out
          clear HC13
          have H' := Aside0.mk H
          clear H
          go_wp2
          go_loopg [5, 8] k1 (fun kq v5 v8 w' => ∃ (x5_2 : List Int) (x8_2 : Int), v8 = .int .i64 x8_2 ∧ Aside0 (spec_UnBase58.l1 kq a0 x4_1 x5_2 x8_2 = some (r1, r2)) ∧ Aside0 (kq ≤ k1) ∧ Aside0 (Kd.R (Kd.int .i64) 3 w' w.heap.size (fun _ => True) u4 x4_1) ∧ Aside0 (Kd.R (Kd.int .u8) 5 w' w.heap.size (fun _ => True) v5 x5_2) ∧ Aside0 (Below w.heap.size w w'))
          case atStart => exact ⟨(y116), (0), (by first | rfl | (simp; done) | (simp [*]; done)), H', ⟨Nat.le_refl _⟩, ⟨by (with_reducible repeat (first | apply Kd.R_alloc | apply Kd.R_drewN | apply Kd.R_drew)); exact HO_4.out⟩, ⟨by (with_reducible repeat (first | apply Kd.R_alloc | apply Kd.R_drewN | apply Kd.R_drew)); exact HO_5.out⟩, ⟨by repeat (first | (with_reducible first | exact HB.out | apply below_alloc | apply pw_below_drewN | apply below_drew1) | exact HB.out)⟩⟩
          case round =>
            clear H'
            try clear c1
            try clear p2
            try clear c6
            try clear c6b0
            try clear p6
            try clear c7
            try clear c7b0
            try clear p8
            try clear q8
            try clear hx8
            try clear c10
            try clear c10b0
            try clear c11
            try clear p2
            try clear p8
            try clear q8
            obtain ⟨x5_2, x8_2, rfl, HA, HK2, HO_4, HO_5, HB⟩ := hrel
            cases gk with
            | zero => exact absurd HA.out (by simp [spec_UnBase58.l1])
            | succ k2 =>
              have H := HA.out
              clear HA
              simp only [spec_UnBase58.l1] at H
              by_cases c14 : x8_2 < (a0.size : Int)
              · rw [if_pos c14] at H
                have c14b0 : decide (x8_2 < (a0.size : Int)) = true := decide_eq_true c14
                clear c14
                (first | rw [c14b0] | (simp only [i64_w, i32_w]; rw [c14b0]) | skip)
                by_cases c15 : 0 ≤ x8_2
                · rw [if_pos c15] at H
                  have c15b0 : decide (0 ≤ x8_2) = true := decide_eq_true c15
                  clear c15
                  by_cases c17 : (bt a0 x8_2) = 49
                  · rw [if_pos c17] at H
                    have c17b0 : ((bt a0 x8_2) == 49) = true := beq_iff_eq.mpr c17
                    have c17b1 : ((bt a0 x8_2) != 49) = false := bne_eq_false_iff_eq.mpr c17
                    clear c17
                    by_cases c18 : x5_2.length < 140737488355328
                    · rw [if_pos c18] at H
                      have LMc18 := Aside0.mk c18
                      clear c18
                      obtain ⟨y123, hy123⟩ : ∃ y_ : List Int, y_ = (x5_2 ++ [0]) := ⟨_, rfl⟩
                      replace H : (spec_UnBase58.l1 k2 a0 x4_1 y123 (wrap64 (x8_2 + 1))) = some (r1, r2) := by first | (rw [hy123]; with_reducible exact H) | (have H2_ := (Option.bind_some _ _).symm.trans H; rw [hy123]; with_reducible exact H2_) | (have H2_ := (Option.bind_some _ _).symm.trans H; with_reducible exact H2_) | with_reducible exact H | (rw [hy123]; exact H) | exact H
                      have Ny123 := Aside0.mk hy123
                      clear hy123
                      have H' := Aside0.mk H
                      clear H
                      have p16 : 0 ≤ (x8_2 : Int) := of_decide_eq_true (by first | (with_reducible assumption) | assumption)
                      have q16 : x8_2 < (a0.size : Int) := of_decide_eq_true (by first | (with_reducible assumption) | assumption)
                      have hx16 := bt_at a0 x8_2
                      replace p16 := eq_true p16
                      replace q16 := eq_true q16
                      go_wp2_with (first | ((with_reducible refine gate_builtin (b := .append) (xs := #[.tmp 41, .tmp 42]) rfl ?_); at_builtin; refine Kd.R_append (Kd.int .u8) (w0 := w) w.heap.size rfl (.tmp 41) (.tmp 42) 22 5 (.int .u8 0) 1 rfl Tryd.underlying22 info5 rfl (by decide) (by omega) u5 x5_2 0 [.int .u8 0] (fun _ => True) (fun _ => False) rfl rfl ?aP (fun _ hk => hk.elim) ?aF ?aO ?aB ?aS ?aL ?_; (case aP => exact rfl); (case aB => exact (by repeat (first | (with_reducible first | exact HB.out | apply below_alloc | apply pw_below_drewN | apply below_drew1) | exact HB.out))); (case aF => exact (fun _ _ => trivial)); (case aO => exact (by (with_reducible repeat (first | apply Kd.R_alloc | apply Kd.R_drewN | apply Kd.R_drew)); exact HO_5.out)); (case aS => exact (below_size (by repeat (first | (with_reducible first | exact HB.out | apply below_alloc | apply pw_below_drewN | apply below_drew1) | exact HB.out)))); (case aL => have := LMc18.out; omega); intro v124 w19 ho hb hg hat; rw [← Ny123.out] at ho; have n0_ := Aside0.mk (Kd.R_over' (by (with_reducible repeat (first | apply Kd.R_alloc | apply Kd.R_drewN | apply Kd.R_drew)); exact HO_4.out) (Kd.R_typed (by (with_reducible repeat (first | apply Kd.R_alloc | apply Kd.R_drewN | apply Kd.R_drew)); exact HO_5.out)) (by decide) hg); have n1_ := Aside0.mk (hb); have n2_ := Aside0.mk (ho); clear HO_4; clear HB; clear HO_5; have HO_4 := n0_; have HB := n1_; have HO125 := n2_; clear n0_ n1_ n2_; clear ho hb hg hat))
                      go_roundg k2
                      case measure => have := HK1.out; have := HK2.out; omega
                      case rel => exact ⟨(y123), (wrap64 (x8_2 + 1)), (by first | rfl | (simp; done) | (simp [*]; done)), H', ⟨by have := HK1.out; have := HK2.out; omega⟩, ⟨by (with_reducible repeat (first | apply Kd.R_alloc | apply Kd.R_drewN | apply Kd.R_drew)); exact HO_4.out⟩, ⟨by (with_reducible repeat (first | apply Kd.R_alloc | apply Kd.R_drewN | apply Kd.R_drew)); exact HO125.out⟩, ⟨by repeat (first | (with_reducible first | exact HB.out | apply below_alloc | apply pw_below_drewN | apply below_drew1) | exact HB.out)⟩⟩
                    · rw [if_neg c18] at H
                      exact absurd H (by simp)
                  · rw [if_neg c17] at H
                    have c17b0 : ((bt a0 x8_2) == 49) = false := beq_eq_false_iff_ne.mpr c17
                    have c17b1 : ((bt a0 x8_2) != 49) = true := bne_iff_ne.mpr c17
                    have H' := Aside0.mk H
                    clear H
                    have p16 : 0 ≤ (x8_2 : Int) := of_decide_eq_true (by first | (with_reducible assumption) | assumption)
                    have q16 : x8_2 < (a0.size : Int) := of_decide_eq_true (by first | (with_reducible assumption) | assumption)
                    have hx16 := bt_at a0 x8_2
                    replace p16 := eq_true p16
                    replace q16 := eq_true q16
                    go_wp2
                    go_meet
                    case rel => exact ⟨_, (x5_2), H', ⟨by have := HK1.out; have := HK2.out; first | omega | exact Nat.le_refl _⟩, ⟨by (with_reducible repeat (first | apply Kd.R_alloc | apply Kd.R_drewN | apply Kd.R_drew)); exact HO_4.out⟩, ⟨by (with_reducible repeat (first | apply Kd.R_alloc | apply Kd.R_drewN | apply Kd.R_drew)); exact HO_5.out⟩, ⟨by repeat (first | (with_reducible first | exact HB.out | apply below_alloc | apply pw_below_drewN | apply below_drew1) | exact HB.out)⟩⟩
                · rw [if_neg c15] at H
                  exact absurd H (by simp)
              · rw [if_neg c14] at H
                have c14b0 : decide (x8_2 < (a0.size : Int)) = false := decide_eq_false c14
                clear c14
                (first | rw [c14b0] | (simp only [i64_w, i32_w]; rw [c14b0]) | skip)
                have H' := Aside0.mk H
                clear H
                go_wp2
                go_meet
                case rel => exact ⟨_, (x5_2), H', ⟨by have := HK1.out; have := HK2.out; first | omega | exact Nat.le_refl _⟩, ⟨by (with_reducible repeat (first | apply Kd.R_alloc | apply Kd.R_drewN | apply Kd.R_drew)); exact HO_4.out⟩, ⟨by (with_reducible repeat (first | apply Kd.R_alloc | apply Kd.R_drewN | apply Kd.R_drew)); exact HO_5.out⟩, ⟨by repeat (first | (with_reducible first | exact HB.out | apply below_alloc | apply pw_below_drewN | apply below_drew1) | exact HB.out)⟩⟩
        case rest =>
          clear HC13
          try clear c1
          try clear p1
          try clear q1
          try clear hx1
          try clear p2
          try clear c6
          try clear c6b0
          try clear p6
          try clear c7
          try clear c7b0
          try clear p8
          try clear q8
          try clear hx8
          try clear c10
          try clear c10b0
          try clear c11
          try clear c14
          try clear c14b0
          try clear c15
          try clear c15b0
          try clear p16
          try clear q16
          try clear hx16
          try clear c17
          try clear c17b0
          try clear c17b1
          try clear c18
          try clear p16
          try clear p2
          try clear p6
          try clear p8
          try clear q16
          try clear q8
          obtain ⟨kq, x5_12, HA, HJ12, HO_4, HO_5, HB⟩ := hcut
          cases kq with
          | zero => exact absurd HA.out (by simp [spec_UnBase58.j2])
          | succ kj12 =>
            have H := HA.out
            clear HA
            simp only [spec_UnBase58.j2] at H
            replace H := Option.bind_eq_some_iff.mp H
            obtain ⟨t126, A200, H⟩ := H
            replace H : (spec_UnBase58.l2 kj12 x5_12 t126 (t126.length : Int) 0) = some (r1, r2) := H
            have A20 := Aside0.mk A200
            clear A200
            have H' := Aside0.mk H
            clear H
            obtain ⟨Ao21, co21, eo21⟩ := Kd.R_slice HO_4.out
            subst eo21
            go_wp2_with (first | ((with_reducible refine gate_callee (f := 16) rfl ?_); refine goesL_ (some 45) rfl rfl Tryd.func16 (by kernel_rfl) rfl #[.slice Ao21 x4_1.length co21, .int .i64 58, .int .i64 256] rfl (by (try simp only [List.map_toArray, List.map_cons, List.map_nil]); first | done | rfl | (simp only [List.length_drop, List.length_take]; rfl)) ?_; (with_reducible refine (spec_rebased.calls kj12 _ _ x4_1 58 256 t126 _ ?side1 ?side2 A20.out).mono ?_); (case side1 => repeat (first | exact (Kd.R_reads' HO_4.out).2.2 | (with_reducible refine Kd.C_alloc ?_ _) | (with_reducible refine Kd.C_drewN ?_ _) | (with_reducible refine Kd.C_drew ?_))); (case side2 => exact (Kd.R_reads' HO_4.out).2.1); rintro e w22 ⟨v127, rfl, ho0, hb⟩; refine ⟨_, rfl, ?_⟩; have n0_ := Aside0.mk (Kd.R_elder' (by (with_reducible repeat (first | apply Kd.R_alloc | apply Kd.R_drewN | apply Kd.R_drew)); exact HO_4.out) (Kd.R_base ho0) hb); have n1_ := Aside0.mk (Kd.R_below (by (with_reducible repeat (first | apply Kd.R_alloc | apply Kd.R_drewN | apply Kd.R_drew)); exact HO_5.out) hb); have n2_ := Aside0.mk (Kd.R_lower (Kd.R_new' ho0 (Kd.R_lt (by (with_reducible repeat (first | apply Kd.R_alloc | apply Kd.R_drewN | apply Kd.R_drew)); exact HO_4.out))) (below_size (by repeat (first | (with_reducible first | exact HB.out | apply below_alloc | apply pw_below_drewN | apply below_drew1) | exact HB.out)))); have n3_ := Aside0.mk (below_step (by repeat (first | (with_reducible first | exact HB.out | apply below_alloc | apply pw_below_drewN | apply below_drew1) | exact HB.out)) hb); clear HO_4; clear HO_5; clear HB; have HO_4 := n0_; have HO_5 := n1_; have HO128 := n2_; have HB := n3_; clear n0_ n1_ n2_ n3_; (try clear hb); (try clear hb2); (try clear hk); (try clear hi); (try clear ho0); obtain ⟨Ao23, co23, eo23⟩ := Kd.R_slice HO128.out; subst eo23))
            go_loopg [5, 47] kj12 (fun kq v5 v47 w' => ∃ (x5_3 : List Int) (x47_3 : Int), v47 = .int .i64 x47_3 ∧ Aside0 (spec_UnBase58.l2 kq x5_3 t126 (t126.length : Int) x47_3 = some (r1, r2)) ∧ Aside0 (kq ≤ kj12) ∧ Aside0 (Kd.R (Kd.int .u8) 5 w' w.heap.size (fun _ => True) v5 x5_3) ∧ Aside0 (Kd.R (Kd.int .i64) 3 w' w.heap.size (fun _ => True) (.slice Ao23 t126.length co23) t126) ∧ Aside0 (Below w.heap.size w w'))
            case atStart => exact ⟨(x5_12), (0), (by first | rfl | (simp; done) | (simp [*]; done)), H', ⟨Nat.le_refl _⟩, ⟨by (with_reducible repeat (first | apply Kd.R_alloc | apply Kd.R_drewN | apply Kd.R_drew)); exact HO_5.out⟩, ⟨by (with_reducible repeat (first | apply Kd.R_alloc | apply Kd.R_drewN | apply Kd.R_drew)); exact Kd.R_mono HO128.out (fun _ hk => trivial)⟩, ⟨by repeat (first | (with_reducible first | exact HB.out | apply below_alloc | apply pw_below_drewN | apply below_drew1) | exact HB.out)⟩⟩
            case round =>
              clear H'
              try clear c1
              try clear p1
              try clear q1
              try clear hx1
              try clear p2
              try clear c6
              try clear c6b0
              try clear p6
              try clear c7
              try clear c7b0
              try clear p8
              try clear q8
              try clear hx8
              try clear c10
              try clear c10b0
              try clear c11
              try clear c14
              try clear c14b0
              try clear c15
              try clear c15b0
              try clear c16
              try clear p16
              try clear q16
              try clear hx16
              try clear c17
              try clear c17b0
              try clear c17b1
              try clear c18
              try clear p1
              try clear p16
              try clear p2
              try clear p6
              try clear p8
              try clear q1
              try clear q16
              try clear q8
              obtain ⟨x5_3, x47_3, rfl, HA, HK3, HO_5, HO_45, HB⟩ := hrel
              cases gk with
              | zero => exact absurd HA.out (by simp [spec_UnBase58.l2])
              | succ k3 =>
                have H := HA.out
                clear HA
                simp only [spec_UnBase58.l2] at H
                by_cases c24 : x47_3 < (t126.length : Int)
                · rw [if_pos c24] at H
                  have c24b0 : decide (x47_3 < (t126.length : Int)) = true := decide_eq_true c24
                  clear c24
                  by_cases c25 : 0 ≤ x47_3
                  · rw [if_pos c25] at H
                    have c25b0 : decide (0 ≤ x47_3) = true := decide_eq_true c25
                    clear c25
                    by_cases c26 : x47_3 < (t126.length : Int)
                    · rw [if_pos c26] at H
                      have c26b0 : decide (x47_3 < (t126.length : Int)) = true := decide_eq_true c26
                      clear c26
                      by_cases c27 : x5_3.length < 140737488355328
                      · rw [if_pos c27] at H
                        have LMc27 := Aside0.mk c27
                        clear c27
                        obtain ⟨y130, hy130⟩ : ∃ y_ : List Int, y_ = (x5_3 ++ [(rd t126 x47_3) % 256]) := ⟨_, rfl⟩
                        replace H : (spec_UnBase58.l2 k3 y130 t126 (t126.length : Int) (wrap64 (x47_3 + 1))) = some (r1, r2) := by first | (rw [hy130]; with_reducible exact H) | (have H2_ := (Option.bind_some _ _).symm.trans H; rw [hy130]; with_reducible exact H2_) | (have H2_ := (Option.bind_some _ _).symm.trans H; with_reducible exact H2_) | with_reducible exact H | (rw [hy130]; exact H) | exact H
                        have Ny130 := Aside0.mk hy130
                        clear hy130
                        have H' := Aside0.mk H
                        clear H
                        have p129 : 0 ≤ (x47_3 : Int) := of_decide_eq_true (by first | (with_reducible assumption) | assumption)
                        have q129 : x47_3 < (t126.length : Int) := of_decide_eq_true (by first | (with_reducible assumption) | assumption)
                        obtain ⟨ad129, e129, hx129_0⟩ := Kd.at_int (Kd.R_reads' HO_45.out).2.2 x47_3 p129 q129
                        cases e129
                        replace p129 := eq_true p129
                        replace q129 := eq_true q129
                        go_wp2_with (first | ((with_reducible refine gate_builtin (b := .append) (xs := #[.tmp 51, .tmp 54]) rfl ?_); at_builtin; refine Kd.R_append (Kd.int .u8) (w0 := w) w.heap.size rfl (.tmp 51) (.tmp 54) 22 5 (.int .u8 0) 1 rfl Tryd.underlying22 info5 rfl (by decide) (by omega) u5 x5_3 ((rd t126 x47_3) % 256) [.int .u8 ((rd t126 x47_3) % 256)] (fun _ => True) (fun _ => False) rfl rfl ?aP (fun _ hk => hk.elim) ?aF ?aO ?aB ?aS ?aL ?_; (case aP => exact rfl); (case aB => exact (by repeat (first | (with_reducible first | exact HB.out | apply below_alloc | apply pw_below_drewN | apply below_drew1) | exact HB.out))); (case aF => exact (fun _ _ => trivial)); (case aO => exact (by (with_reducible repeat (first | apply Kd.R_alloc | apply Kd.R_drewN | apply Kd.R_drew)); exact HO_5.out)); (case aS => exact (below_size (by repeat (first | (with_reducible first | exact HB.out | apply below_alloc | apply pw_below_drewN | apply below_drew1) | exact HB.out)))); (case aL => have := LMc27.out; omega); intro v131 w28 ho hb hg hat; rw [← Ny130.out] at ho; have n0_ := Aside0.mk (Kd.R_over' (by (with_reducible repeat (first | apply Kd.R_alloc | apply Kd.R_drewN | apply Kd.R_drew)); exact HO_45.out) (Kd.R_typed (by (with_reducible repeat (first | apply Kd.R_alloc | apply Kd.R_drewN | apply Kd.R_drew)); exact HO_5.out)) (by decide) hg); have n1_ := Aside0.mk (hb); have n2_ := Aside0.mk (ho); clear HO_45; clear HB; clear HO_5; have HO_45 := n0_; have HB := n1_; have HO132 := n2_; clear n0_ n1_ n2_; clear ho hb hg hat))
                        go_roundg k3
                        case measure => have := HK1.out; have := HJ12.out; have := HK3.out; omega
                        case rel => exact ⟨(y130), (wrap64 (x47_3 + 1)), (by first | rfl | (simp; done) | (simp [*]; done)), H', ⟨by have := HK1.out; have := HJ12.out; have := HK3.out; omega⟩, ⟨by (with_reducible repeat (first | apply Kd.R_alloc | apply Kd.R_drewN | apply Kd.R_drew)); exact HO132.out⟩, ⟨by (with_reducible repeat (first | apply Kd.R_alloc | apply Kd.R_drewN | apply Kd.R_drew)); exact HO_45.out⟩, ⟨by repeat (first | (with_reducible first | exact HB.out | apply below_alloc | apply pw_below_drewN | apply below_drew1) | exact HB.out)⟩⟩
                      · rw [if_neg c27] at H
                        exact absurd H (by simp)
                    · rw [if_neg c26] at H
                      exact absurd H (by simp)
                  · rw [if_neg c25] at H
                    exact absurd H (by simp)
                · rw [if_neg c24] at H
                  have c24b0 : decide (x47_3 < (t126.length : Int)) = false := decide_eq_false c24
                  clear c24
                  simp only [Option.some.injEq, Prod.mk.injEq] at H
                  obtain ⟨rfl, rfl⟩ := H
                  go_wp2
                  go_ret2
                  exact ⟨_, by first | rfl | (simp [errW_none, errW_some] <;> rfl) | (simp [*, errW_none, errW_some] <;> rfl), by (with_reducible repeat (first | apply Kd.R_alloc | apply Kd.R_drewN | apply Kd.R_drew)); exact HO_5.out, by repeat (first | (with_reducible first | exact HB.out | apply below_alloc | apply pw_below_drewN | apply below_drew1) | exact HB.out)⟩

end Go.Proofs.YtpgfhcobfaceeaaDoor.PFnUnBase58
