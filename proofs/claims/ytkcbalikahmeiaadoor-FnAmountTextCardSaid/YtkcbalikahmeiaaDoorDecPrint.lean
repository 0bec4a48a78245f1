-- The kit printed this; of its text spec.Decimal alone is kept, its contract turned by gen_dec.py.
import Derived.Test.YtkcbalikahmeiaaDoorPFnAmountTextx0
namespace Go.Proofs.YtkcbalikahmeiaaDoor.PFnAmountText
open Go.RowKit Go.Proofs.YtkcbalikahmeiaaDoorW.PrintWords Go.Proofs.YtkcbalikahmeiaaDoorW.PrintLast Go.Proofs.YtkcbalikahmeiaaDoorW.PrintMore
attribute [local go_sem] max2_int min2_int max_two min_two max_three min_three max_four min_four   -- for this text's walks alone
set_option linter.unusedVariables false
set_option linter.unusedSimpArgs false

set_option linter.unnecessarySimpa false
/-! ### spec_Decimal: function 5 -/
mutual
def spec_Decimal.j0 : Nat → Int → Int → Bool → Option (ByteArray)
  | 0, _, _, _ => none
  | k + 1, x0, x1, x5 => spec_Decimal.l0 k x0 x1 x5 (([] : List Int)) 0
def spec_Decimal.l0 : Nat → Int → Int → Bool → List Int → Int → Option (ByteArray)
  | 0, _, _, _, _, _ => none
  | k + 1, x0, x1, x5, x6, x7 => if x7 < x1 then (spec_Decimal.j2 k x0 x1 x5 x6 x7 true) else (if x0 > 0 then (spec_Decimal.j2 k x0 x1 x5 x6 x7 true) else (spec_Decimal.j2 k x0 x1 x5 x6 x7 (x7 == x1)))
def spec_Decimal.j2 : Nat → Int → Int → Bool → List Int → Int → Bool → Option (ByteArray)
  | 0, _, _, _, _, _, _ => none
  | k + 1, x0, x1, x5, x6, x7, x26 => if x26 = true then (if x7 = x1 then (spec_Decimal.j3 k x0 x1 x5 x6 x7 (decide ((x6.length : Int) > 0))) else (spec_Decimal.j3 k x0 x1 x5 x6 x7 false)) else (if x5 = true then (if 1 + (strOfNums x6).size ≤ 9223372036854775807 then (some ((⟨#[45]⟩ : ByteArray) ++ (strOfNums x6))) else (none)) else (some (strOfNums x6)))
def spec_Decimal.j3 : Nat → Int → Int → Bool → List Int → Int → Bool → Option (ByteArray)
  | 0, _, _, _, _, _, _ => none
  | k + 1, x0, x1, x5, x6, x7, x36 => if x36 = true then ((some (([46] : List Int) : List Int)).bind fun y283 => (if y283.length + x6.length < 140737488355328 then ((some (y283 ++ x6 : List Int)).bind fun y286 => (if x7 < x1 then (if (y286.length : Int) = 0 then (if ((wrap64 (48 + (Int.tmod x0 10))) % 256) = 48 then (spec_Decimal.l0 k (wrap64 (Int.tdiv x0 10)) x1 x5 y286 (wrap64 (x7 + 1))) else ((some (([(wrap64 (48 + (Int.tmod x0 10))) % 256] : List Int) : List Int)).bind fun y289 => (if y289.length + y286.length < 140737488355328 then (spec_Decimal.l0 k (wrap64 (Int.tdiv x0 10)) x1 x5 (y289 ++ y286) (wrap64 (x7 + 1))) else (none)))) else ((some (([(wrap64 (48 + (Int.tmod x0 10))) % 256] : List Int) : List Int)).bind fun y295 => (if y295.length + y286.length < 140737488355328 then (spec_Decimal.l0 k (wrap64 (Int.tdiv x0 10)) x1 x5 (y295 ++ y286) (wrap64 (x7 + 1))) else (none)))) else ((some (([(wrap64 (48 + (Int.tmod x0 10))) % 256] : List Int) : List Int)).bind fun y301 => (if y301.length + y286.length < 140737488355328 then (spec_Decimal.l0 k (wrap64 (Int.tdiv x0 10)) x1 x5 (y301 ++ y286) (wrap64 (x7 + 1))) else (none))))) else (none))) else (if x7 < x1 then (if (x6.length : Int) = 0 then (if ((wrap64 (48 + (Int.tmod x0 10))) % 256) = 48 then (spec_Decimal.l0 k (wrap64 (Int.tdiv x0 10)) x1 x5 x6 (wrap64 (x7 + 1))) else ((some (([(wrap64 (48 + (Int.tmod x0 10))) % 256] : List Int) : List Int)).bind fun y307 => (if y307.length + x6.length < 140737488355328 then (spec_Decimal.l0 k (wrap64 (Int.tdiv x0 10)) x1 x5 (y307 ++ x6) (wrap64 (x7 + 1))) else (none)))) else ((some (([(wrap64 (48 + (Int.tmod x0 10))) % 256] : List Int) : List Int)).bind fun y313 => (if y313.length + x6.length < 140737488355328 then (spec_Decimal.l0 k (wrap64 (Int.tdiv x0 10)) x1 x5 (y313 ++ x6) (wrap64 (x7 + 1))) else (none)))) else ((some (([(wrap64 (48 + (Int.tmod x0 10))) % 256] : List Int) : List Int)).bind fun y319 => (if y319.length + x6.length < 140737488355328 then (spec_Decimal.l0 k (wrap64 (Int.tdiv x0 10)) x1 x5 (y319 ++ x6) (wrap64 (x7 + 1))) else (none))))
end
def spec_Decimal.f (k : Nat) (a0 : Int) (a1 : Int) : Option (ByteArray) := if a0 < 0 then (spec_Decimal.j0 k (wrap64 (-a0)) a1 (decide (a0 < 0))) else (spec_Decimal.j0 k a0 a1 (decide (a0 < 0)))
theorem spec_Decimal.mono_l : ∀ k, (∀ y0 y1 y2, LeO (spec_Decimal.j0 k y0 y1 y2) (spec_Decimal.j0 (k + 1) y0 y1 y2)) ∧ (∀ y0 y1 y2 y3 y4, LeO (spec_Decimal.l0 k y0 y1 y2 y3 y4) (spec_Decimal.l0 (k + 1) y0 y1 y2 y3 y4)) ∧ (∀ y0 y1 y2 y3 y4 y5, LeO (spec_Decimal.j2 k y0 y1 y2 y3 y4 y5) (spec_Decimal.j2 (k + 1) y0 y1 y2 y3 y4 y5)) ∧ (∀ y0 y1 y2 y3 y4 y5, LeO (spec_Decimal.j3 k y0 y1 y2 y3 y4 y5) (spec_Decimal.j3 (k + 1) y0 y1 y2 y3 y4 y5))
  | 0 => ⟨fun _ _ _ r h => by simp [spec_Decimal.j0] at h, fun _ _ _ _ _ r h => by simp [spec_Decimal.l0] at h, fun _ _ _ _ _ _ r h => by simp [spec_Decimal.j2] at h, fun _ _ _ _ _ _ r h => by simp [spec_Decimal.j3] at h⟩
  | k + 1 => by
    obtain ⟨ih0, ih1, ih2, ih3⟩ := spec_Decimal.mono_l k
    refine ⟨?_, ?_, ?_, ?_⟩
    · intro y0 y1 y2
      unfold spec_Decimal.j0
      repeat' first
      | (with_reducible exact ih0 _ _ _)
      | (with_reducible exact ih1 _ _ _ _ _)
      | (with_reducible exact ih2 _ _ _ _ _ _)
      | (with_reducible exact ih3 _ _ _ _ _ _)
      | (with_reducible exact LeO.refl _)
      | (with_reducible exact LeO.none _)
      | (with_reducible refine LeO.ite ?_ ?_)
      | (with_reducible refine LeO.bind ?_ (fun _ => ?_))
      | exact ih0 _ _ _
      | exact ih1 _ _ _ _ _
      | exact ih2 _ _ _ _ _ _
      | exact ih3 _ _ _ _ _ _
      | exact LeO.none _
      | refine LeO.ite ?_ ?_
      | refine LeO.bind ?_ (fun _ => ?_)
    · intro y0 y1 y2 y3 y4
      unfold spec_Decimal.l0
      repeat' first
      | (with_reducible exact ih0 _ _ _)
      | (with_reducible exact ih1 _ _ _ _ _)
      | (with_reducible exact ih2 _ _ _ _ _ _)
      | (with_reducible exact ih3 _ _ _ _ _ _)
      | (with_reducible exact LeO.refl _)
      | (with_reducible exact LeO.none _)
      | (with_reducible refine LeO.ite ?_ ?_)
      | (with_reducible refine LeO.bind ?_ (fun _ => ?_))
      | exact ih0 _ _ _
      | exact ih1 _ _ _ _ _
      | exact ih2 _ _ _ _ _ _
      | exact ih3 _ _ _ _ _ _
      | exact LeO.none _
      | refine LeO.ite ?_ ?_
      | refine LeO.bind ?_ (fun _ => ?_)
    · intro y0 y1 y2 y3 y4 y5
      unfold spec_Decimal.j2
      repeat' first
      | (with_reducible exact ih0 _ _ _)
      | (with_reducible exact ih1 _ _ _ _ _)
      | (with_reducible exact ih2 _ _ _ _ _ _)
      | (with_reducible exact ih3 _ _ _ _ _ _)
      | (with_reducible exact LeO.refl _)
      | (with_reducible exact LeO.none _)
      | (with_reducible refine LeO.ite ?_ ?_)
      | (with_reducible refine LeO.bind ?_ (fun _ => ?_))
      | exact ih0 _ _ _
      | exact ih1 _ _ _ _ _
      | exact ih2 _ _ _ _ _ _
      | exact ih3 _ _ _ _ _ _
      | exact LeO.none _
      | refine LeO.ite ?_ ?_
      | refine LeO.bind ?_ (fun _ => ?_)
    · intro y0 y1 y2 y3 y4 y5
      unfold spec_Decimal.j3
      repeat' first
      | (with_reducible exact ih0 _ _ _)
      | (with_reducible exact ih1 _ _ _ _ _)
      | (with_reducible exact ih2 _ _ _ _ _ _)
      | (with_reducible exact ih3 _ _ _ _ _ _)
      | (with_reducible exact LeO.refl _)
      | (with_reducible exact LeO.none _)
      | (with_reducible refine LeO.ite ?_ ?_)
      | (with_reducible refine LeO.bind ?_ (fun _ => ?_))
      | exact ih0 _ _ _
      | exact ih1 _ _ _ _ _
      | exact ih2 _ _ _ _ _ _
      | exact ih3 _ _ _ _ _ _
      | exact LeO.none _
      | refine LeO.ite ?_ ?_
      | refine LeO.bind ?_ (fun _ => ?_)
theorem spec_Decimal.mono : ∀ a0 a1 k, LeO (spec_Decimal.f k a0 a1) (spec_Decimal.f (k + 1) a0 a1) := by
  intro a0 a1 k
  obtain ⟨ih0, ih1, ih2, ih3⟩ := spec_Decimal.mono_l k
  unfold spec_Decimal.f
  repeat' first
      | (with_reducible exact ih0 _ _ _)
      | (with_reducible exact ih1 _ _ _ _ _)
      | (with_reducible exact ih2 _ _ _ _ _ _)
      | (with_reducible exact ih3 _ _ _ _ _ _)
      | (with_reducible exact LeO.refl _)
      | (with_reducible exact LeO.none _)
      | (with_reducible refine LeO.ite ?_ ?_)
      | (with_reducible refine LeO.bind ?_ (fun _ => ?_))
      | exact ih0 _ _ _
      | exact ih1 _ _ _ _ _
      | exact ih2 _ _ _ _ _ _
      | exact ih3 _ _ _ _ _ _
      | exact LeO.none _
      | refine LeO.ite ?_ ?_
      | refine LeO.bind ?_ (fun _ => ?_)
set_option maxHeartbeats 8000000 in
set_option maxRecDepth 100000 in
theorem spec_Decimal.calls_neg (k : Nat) (a0 : Int) (a1 : Int) (c4 : a0 < 0) (r : ByteArray) (w : World) (h : spec_Decimal.j0 k (wrap64 (-a0)) a1 true = some r) :
    Calls Tryd.prog 5 #[.int .i64 a0, .int .i64 a1] w fun e w' => e = .returned (.string r) ∧ Below w.heap.size w w' := by
  have HB := Aside0.mk (Below.refl w.heap.size w)
  have HA := Aside0.mk h
  clear h
  go_enter Tryd.func5, Tryd.ntmps5
  cases k with
  | zero => exact absurd HA.out (by simp [spec_Decimal.j0])
  | succ kj2 =>
    have HJ2 : Aside0 (kj2 + 1 ≤ kj2 + 1) := ⟨Nat.le_refl _⟩
    have H := HA.out
    clear HA
    simp only [spec_Decimal.j0] at H
    obtain ⟨y280, hy280⟩ : ∃ y_ : List Int, y_ = (([] : List Int)) := ⟨_, rfl⟩
    replace H : (spec_Decimal.l0 kj2 (wrap64 (-a0)) a1 true y280 0) = some r := by first | (rw [hy280]; with_reducible exact H) | (have H2_ := (Option.bind_some _ _).symm.trans H; rw [hy280]; with_reducible exact H2_) | (have H2_ := (Option.bind_some _ _).symm.trans H; with_reducible exact H2_) | with_reducible exact H | (rw [hy280]; exact H) | exact H
    have Ny280 := Aside0.mk hy280
    clear hy280
    have H' := Aside0.mk H
    clear H
    go_wp2_with (first | ((with_reducible refine gate_dst (N := 14) rfl ?_); (try (refine gate_guard (by rfl) ?_; dsimp only)); refine Kd.R_lit (Kd.int .u8) _ 5 ?hg (N := 14) ?hd (xs := ([] : List Int)) (inner := []) (ok := fun _ => True) (okp := fun _ => True) ?hr ?hp (fun _ hk => hk) trivial (Below.refl _ _) (Nat.le_refl _) (by simp) ?_; (case hd => rfl); (case hg => rfl); (case hr => first | (go_simp; done) | (go_simp; rfl)); (case hp => exact (Reps.none _ _)); intro v281 w5 ho6 hb hg_ hnew_; clear hg_ hnew_; (first | rw [← Ny280.out] at ho6 | (simp only [Int.reduceToNat] at ho6; rw [← Ny280.out] at ho6)); have n0_ := Aside0.mk (Kd.R_lower ho6 (below_size (by repeat (first | (with_reducible first | exact HB.out | apply below_alloc | apply pw_below_drewN | apply below_drew1) | exact HB.out)))); have n1_ := Aside0.mk (below_step (by repeat (first | (with_reducible first | exact HB.out | apply below_alloc | apply pw_below_drewN | apply below_drew1) | exact HB.out)) hb); clear HB; have HO282 := n0_; have HB := n1_; clear n0_ n1_; clear hb ho6))
    go_loopg [0, 6, 7] kj2 (fun kq v0 v6 v7 w' => ∃ (x0_2 : Int) (x6_2 : List Int) (x7_2 : Int), v0 = .int .i64 x0_2 ∧ v7 = .int .i64 x7_2 ∧ Aside0 (spec_Decimal.l0 kq x0_2 a1 true x6_2 x7_2 = some r) ∧ Aside0 (kq ≤ kj2) ∧ Aside0 (Kd.R (Kd.int .u8) 5 w' w.heap.size (fun _ => True) v6 x6_2) ∧ Aside0 (Below w.heap.size w w'))
    case atStart => exact ⟨(wrap64 (-a0)), (y280), (0), (by first | rfl | (simp; done) | (simp [*]; done)), (by first | rfl | (simp; done) | (simp [*]; done)), H', ⟨Nat.le_refl _⟩, ⟨by (with_reducible repeat (first | apply Kd.R_alloc | apply Kd.R_drewN | apply Kd.R_drew)); exact HO282.out⟩, ⟨by repeat (first | (with_reducible first | exact HB.out | apply below_alloc | apply pw_below_drewN | apply below_drew1) | exact HB.out)⟩⟩
    case round =>
      clear H'
      try clear p2
      try clear c4
      try clear c4b0
      try clear c5
      try clear p6
      try clear p2
      obtain ⟨x0_2, x6_2, x7_2, rfl, rfl, HA, HK2, HO_6, HB⟩ := hrel
      cases gk with
      | zero => exact absurd HA.out (by simp [spec_Decimal.l0])
      | succ k2 =>
        have H := HA.out
        clear HA
        simp only [spec_Decimal.l0] at H
        have HC7 := Aside0.mk H
        clear H
        go_upto_region 6 with (fail)
        go_cut [26] (fun v26 wc => ∃ (kq : Nat) (x26_6 : Bool), v26 = .bool x26_6 ∧ Aside0 (spec_Decimal.j2 kq x0_2 a1 true x6_2 x7_2 x26_6 = some r) ∧ Aside0 (kq ≤ k2) ∧ Aside0 (Kd.R (Kd.int .u8) 5 wc w.heap.size (fun _ => True) u6 x6_2) ∧ Aside0 (Below w.heap.size w wc))
        case first =>
          have H := HC7.out
          clear HC7
          by_cases c8 : x7_2 < a1
          · rw [if_pos c8] at H
            have c8b0 : decide (x7_2 < a1) = true := decide_eq_true c8
            clear c8
            (first | rw [c8b0] | (simp only [i64_w, i32_w]; rw [c8b0]) | skip)
            have H' := Aside0.mk H
            clear H
            go_wp2
            go_meet
            case rel => exact ⟨_, (true), (by first | rfl | (simp; done) | (simp [*]; done)), H', ⟨by have := HJ2.out; have := HK2.out; first | omega | exact Nat.le_refl _⟩, ⟨by (with_reducible repeat (first | apply Kd.R_alloc | apply Kd.R_drewN | apply Kd.R_drew)); exact HO_6.out⟩, ⟨by repeat (first | (with_reducible first | exact HB.out | apply below_alloc | apply pw_below_drewN | apply below_drew1) | exact HB.out)⟩⟩
          · rw [if_neg c8] at H
            have c8b0 : decide (x7_2 < a1) = false := decide_eq_false c8
            clear c8
            (first | rw [c8b0] | (simp only [i64_w, i32_w]; rw [c8b0]) | skip)
            by_cases c9 : x0_2 > 0
            · rw [if_pos c9] at H
              have c9b0 : decide (0 < x0_2) = true := decide_eq_true c9
              clear c9
              have H' := Aside0.mk H
              clear H
              go_wp2
              go_meet
              case rel => exact ⟨_, (true), (by first | rfl | (simp; done) | (simp [*]; done)), H', ⟨by have := HJ2.out; have := HK2.out; first | omega | exact Nat.le_refl _⟩, ⟨by (with_reducible repeat (first | apply Kd.R_alloc | apply Kd.R_drewN | apply Kd.R_drew)); exact HO_6.out⟩, ⟨by repeat (first | (with_reducible first | exact HB.out | apply below_alloc | apply pw_below_drewN | apply below_drew1) | exact HB.out)⟩⟩
            · rw [if_neg c9] at H
              have c9b0 : decide (0 < x0_2) = false := decide_eq_false c9
              clear c9
              have H' := Aside0.mk H
              clear H
              go_wp2
              go_meet
              case rel => exact ⟨_, ((x7_2 == a1)), (by first | rfl | (simp; done) | (simp [*]; done)), H', ⟨by have := HJ2.out; have := HK2.out; first | omega | exact Nat.le_refl _⟩, ⟨by (with_reducible repeat (first | apply Kd.R_alloc | apply Kd.R_drewN | apply Kd.R_drew)); exact HO_6.out⟩, ⟨by repeat (first | (with_reducible first | exact HB.out | apply below_alloc | apply pw_below_drewN | apply below_drew1) | exact HB.out)⟩⟩
        case rest =>
          clear HC7
          try clear p2
          try clear c4
          try clear c4b0
          try clear c5
          try clear p6
          try clear c8
          try clear c8b0
          try clear c9
          try clear c9b0
          try clear p2
          try clear p6
          obtain ⟨kq, x26_6, rfl, HA, HJ6, HO_6, HB⟩ := hcut
          cases kq with
          | zero => exact absurd HA.out (by simp [spec_Decimal.j2])
          | succ kj6 =>
            have H := HA.out
            clear HA
            simp only [spec_Decimal.j2] at H
            by_cases c10 : x26_6 = true
            · subst c10
              have H1 : (if x7_2 = a1 then (spec_Decimal.j3 kj6 x0_2 a1 true x6_2 x7_2 (decide ((x6_2.length : Int) > 0))) else (spec_Decimal.j3 kj6 x0_2 a1 true x6_2 x7_2 false)) = some r := by rw [if_pos rfl] at H; exact H
              clear H
              have H := H1
              clear H1
              have HC11 := Aside0.mk H
              clear H
              go_upto_region 8 with (fail)
              go_cut [36] (fun v36 wc => ∃ (kq : Nat) (x36_10 : Bool), v36 = .bool x36_10 ∧ Aside0 (spec_Decimal.j3 kq x0_2 a1 true x6_2 x7_2 x36_10 = some r) ∧ Aside0 (kq ≤ kj6) ∧ Aside0 (Kd.R (Kd.int .u8) 5 wc w.heap.size (fun _ => True) u6 x6_2) ∧ Aside0 (Below w.heap.size w wc))
              case first =>
                have H := HC11.out
                clear HC11
                by_cases c12 : x7_2 = a1
                · rw [if_pos c12] at H
                  have c12b0 : (x7_2 == a1) = true := beq_iff_eq.mpr c12
                  have c12b1 : (x7_2 != a1) = false := bne_eq_false_iff_eq.mpr c12
                  clear c12
                  (first | rw [c12b0] | (simp only [i64_w, i32_w]; rw [c12b0]) | skip)
                  have H' := Aside0.mk H
                  clear H
                  obtain ⟨Ao13, co13, eo13⟩ := Kd.R_slice HO_6.out
                  subst eo13
                  go_wp2
                  go_meet
                  case rel => exact ⟨_, (decide ((x6_2.length : Int) > 0)), (by first | rfl | (simp; done) | (simp [*]; done)), H', ⟨by have := HJ2.out; have := HK2.out; have := HJ6.out; first | omega | exact Nat.le_refl _⟩, ⟨by (with_reducible repeat (first | apply Kd.R_alloc | apply Kd.R_drewN | apply Kd.R_drew)); exact HO_6.out⟩, ⟨by repeat (first | (with_reducible first | exact HB.out | apply below_alloc | apply pw_below_drewN | apply below_drew1) | exact HB.out)⟩⟩
                · rw [if_neg c12] at H
                  have c12b0 : (x7_2 == a1) = false := beq_eq_false_iff_ne.mpr c12
                  have c12b1 : (x7_2 != a1) = true := bne_iff_ne.mpr c12
                  (first | rw [c12b0] | (simp only [i64_w, i32_w]; rw [c12b0]) | skip)
                  have H' := Aside0.mk H
                  clear H
                  go_wp2
                  go_meet
                  case rel => exact ⟨_, (false), (by first | rfl | (simp; done) | (simp [*]; done)), H', ⟨by have := HJ2.out; have := HK2.out; have := HJ6.out; first | omega | exact Nat.le_refl _⟩, ⟨by (with_reducible repeat (first | apply Kd.R_alloc | apply Kd.R_drewN | apply Kd.R_drew)); exact HO_6.out⟩, ⟨by repeat (first | (with_reducible first | exact HB.out | apply below_alloc | apply pw_below_drewN | apply below_drew1) | exact HB.out)⟩⟩
              case rest =>
                clear HC11
                try clear c1
                try clear p2
                try clear c4
                try clear c4b0
                try clear c5
                try clear p6
                try clear c8
                try clear c8b0
                try clear c9
                try clear c9b0
                try clear c10
                try clear c12
                try clear c12b0
                try clear c12b1
                try clear p2
                try clear p6
                obtain ⟨kq, x36_10, rfl, HA, HJ10, HO_6, HB⟩ := hcut
                cases kq with
                | zero => exact absurd HA.out (by simp [spec_Decimal.j3])
                | succ kj10 =>
                  have H := HA.out
                  clear HA
                  simp only [spec_Decimal.j3] at H
                  by_cases c14 : x36_10 = true
                  · subst c14
                    have H1 : ((some (([46] : List Int) : List Int)).bind fun y283 => (if y283.length + x6_2.length < 140737488355328 then ((some (y283 ++ x6_2 : List Int)).bind fun y286 => (if x7_2 < a1 then (if (y286.length : Int) = 0 then (if ((wrap64 (48 + (Int.tmod x0_2 10))) % 256) = 48 then (spec_Decimal.l0 kj10 (wrap64 (Int.tdiv x0_2 10)) a1 true y286 (wrap64 (x7_2 + 1))) else ((some (([(wrap64 (48 + (Int.tmod x0_2 10))) % 256] : List Int) : List Int)).bind fun y289 => (if y289.length + y286.length < 140737488355328 then (spec_Decimal.l0 kj10 (wrap64 (Int.tdiv x0_2 10)) a1 true (y289 ++ y286) (wrap64 (x7_2 + 1))) else (none)))) else ((some (([(wrap64 (48 + (Int.tmod x0_2 10))) % 256] : List Int) : List Int)).bind fun y295 => (if y295.length + y286.length < 140737488355328 then (spec_Decimal.l0 kj10 (wrap64 (Int.tdiv x0_2 10)) a1 true (y295 ++ y286) (wrap64 (x7_2 + 1))) else (none)))) else ((some (([(wrap64 (48 + (Int.tmod x0_2 10))) % 256] : List Int) : List Int)).bind fun y301 => (if y301.length + y286.length < 140737488355328 then (spec_Decimal.l0 kj10 (wrap64 (Int.tdiv x0_2 10)) a1 true (y301 ++ y286) (wrap64 (x7_2 + 1))) else (none))))) else (none))) = some r := by rw [if_pos rfl] at H; exact H
                    clear H
                    have H := H1
                    clear H1
                    obtain ⟨y283, hy283⟩ : ∃ y_ : List Int, y_ = (([46] : List Int)) := ⟨_, rfl⟩
                    replace H : (if y283.length + x6_2.length < 140737488355328 then ((some (y283 ++ x6_2 : List Int)).bind fun y286 => (if x7_2 < a1 then (if (y286.length : Int) = 0 then (if ((wrap64 (48 + (Int.tmod x0_2 10))) % 256) = 48 then (spec_Decimal.l0 kj10 (wrap64 (Int.tdiv x0_2 10)) a1 true y286 (wrap64 (x7_2 + 1))) else ((some (([(wrap64 (48 + (Int.tmod x0_2 10))) % 256] : List Int) : List Int)).bind fun y289 => (if y289.length + y286.length < 140737488355328 then (spec_Decimal.l0 kj10 (wrap64 (Int.tdiv x0_2 10)) a1 true (y289 ++ y286) (wrap64 (x7_2 + 1))) else (none)))) else ((some (([(wrap64 (48 + (Int.tmod x0_2 10))) % 256] : List Int) : List Int)).bind fun y295 => (if y295.length + y286.length < 140737488355328 then (spec_Decimal.l0 kj10 (wrap64 (Int.tdiv x0_2 10)) a1 true (y295 ++ y286) (wrap64 (x7_2 + 1))) else (none)))) else ((some (([(wrap64 (48 + (Int.tmod x0_2 10))) % 256] : List Int) : List Int)).bind fun y301 => (if y301.length + y286.length < 140737488355328 then (spec_Decimal.l0 kj10 (wrap64 (Int.tdiv x0_2 10)) a1 true (y301 ++ y286) (wrap64 (x7_2 + 1))) else (none))))) else (none)) = some r := by first | (rw [hy283]; with_reducible exact H) | (have H2_ := (Option.bind_some _ _).symm.trans H; rw [hy283]; with_reducible exact H2_) | (have H2_ := (Option.bind_some _ _).symm.trans H; with_reducible exact H2_) | with_reducible exact H | (rw [hy283]; exact H) | exact H
                    have Ny283 := Aside0.mk hy283
                    clear hy283
                    by_cases c15 : y283.length + x6_2.length < 140737488355328
                    · rw [if_pos c15] at H
                      have LMc15 := Aside0.mk c15
                      clear c15
                      obtain ⟨y286, hy286⟩ : ∃ y_ : List Int, y_ = (y283 ++ x6_2) := ⟨_, rfl⟩
                      replace H : (if x7_2 < a1 then (if (y286.length : Int) = 0 then (if ((wrap64 (48 + (Int.tmod x0_2 10))) % 256) = 48 then (spec_Decimal.l0 kj10 (wrap64 (Int.tdiv x0_2 10)) a1 true y286 (wrap64 (x7_2 + 1))) else ((some (([(wrap64 (48 + (Int.tmod x0_2 10))) % 256] : List Int) : List Int)).bind fun y289 => (if y289.length + y286.length < 140737488355328 then (spec_Decimal.l0 kj10 (wrap64 (Int.tdiv x0_2 10)) a1 true (y289 ++ y286) (wrap64 (x7_2 + 1))) else (none)))) else ((some (([(wrap64 (48 + (Int.tmod x0_2 10))) % 256] : List Int) : List Int)).bind fun y295 => (if y295.length + y286.length < 140737488355328 then (spec_Decimal.l0 kj10 (wrap64 (Int.tdiv x0_2 10)) a1 true (y295 ++ y286) (wrap64 (x7_2 + 1))) else (none)))) else ((some (([(wrap64 (48 + (Int.tmod x0_2 10))) % 256] : List Int) : List Int)).bind fun y301 => (if y301.length + y286.length < 140737488355328 then (spec_Decimal.l0 kj10 (wrap64 (Int.tdiv x0_2 10)) a1 true (y301 ++ y286) (wrap64 (x7_2 + 1))) else (none)))) = some r := by first | (rw [hy286]; with_reducible exact H) | (have H2_ := (Option.bind_some _ _).symm.trans H; rw [hy286]; with_reducible exact H2_) | (have H2_ := (Option.bind_some _ _).symm.trans H; with_reducible exact H2_) | with_reducible exact H | (rw [hy286]; exact H) | exact H
                      have Ny286 := Aside0.mk hy286
                      clear hy286
                      by_cases c16 : x7_2 < a1
                      · rw [if_pos c16] at H
                        have c16b0 : decide (x7_2 < a1) = true := decide_eq_true c16
                        clear c16
                        by_cases c17 : (y286.length : Int) = 0
                        · rw [if_pos c17] at H
                          have c17b0 : ((y286.length : Int) == 0) = true := beq_iff_eq.mpr c17
                          have c17b1 : ((y286.length : Int) != 0) = false := bne_eq_false_iff_eq.mpr c17
                          clear c17
                          by_cases c18 : ((wrap64 (48 + (Int.tmod x0_2 10))) % 256) = 48
                          · rw [if_pos c18] at H
                            have c18b0 : (((wrap64 (48 + (Int.tmod x0_2 10))) % 256) == 48) = true := beq_iff_eq.mpr c18
                            have c18b1 : (((wrap64 (48 + (Int.tmod x0_2 10))) % 256) != 48) = false := bne_eq_false_iff_eq.mpr c18
                            clear c18
                            have H' := Aside0.mk H
                            clear H
                            go_wp2_with (first | ((with_reducible refine gate_dst (N := 37) rfl ?_); (try (refine gate_guard (by rfl) ?_; dsimp only)); refine Kd.R_lit (Kd.int .u8) _ 5 ?hg (N := 37) ?hd (xs := ([46] : List Int)) (inner := [.int .u8 46]) (ok := fun _ => True) (okp := fun _ => True) ?hr ?hp (fun _ hk => hk) trivial (Below.refl _ _) (Nat.le_refl _) (by simp) ?_; (case hd => rfl); (case hg => rfl); (case hr => first | (go_simp; done) | (go_simp; rfl)); (case hp => exact (Reps.one (show Kd.M (Kd.int .u8) _ _ _ 46 [.int .u8 46] from rfl) (Reps.none _ _))); intro v284 w19 ho20 hb hg_ hnew_; clear hg_ hnew_; (first | rw [← Ny283.out] at ho20 | (simp only [Int.reduceToNat] at ho20; rw [← Ny283.out] at ho20)); have n0_ := Aside0.mk (Kd.R_elder' (by (with_reducible repeat (first | apply Kd.R_alloc | apply Kd.R_drewN | apply Kd.R_drew)); exact HO_6.out) (Kd.R_base ho20) hb); have n1_ := Aside0.mk (Kd.R_lower (Kd.R_new' ho20 (Kd.R_lt (by (with_reducible repeat (first | apply Kd.R_alloc | apply Kd.R_drewN | apply Kd.R_drew)); exact HO_6.out))) (below_size (by repeat (first | (with_reducible first | exact HB.out | apply below_alloc | apply pw_below_drewN | apply below_drew1) | exact HB.out)))); have n2_ := Aside0.mk (below_step (by repeat (first | (with_reducible first | exact HB.out | apply below_alloc | apply pw_below_drewN | apply below_drew1) | exact HB.out)) hb); clear HO_6; clear HB; have HO_6 := n0_; have HO285 := n1_; have HB := n2_; clear n0_ n1_ n2_; clear hb ho20; obtain ⟨Ao22, co22, eo22⟩ := Kd.R_slice HO_6.out; subst eo22) | ((with_reducible refine gate_builtin (b := .append) (xs := #[.tmp 37, .tmp 38]) rfl ?_); (try (refine gate_guard (by rfl) ?_; dsimp only)); at_builtin; refine Kd.R_append_rows (Kd.int .u8) (w0 := w) w.heap.size rfl (.tmp 37) (.tmp 38) 31 5 (.int .u8 0) 1 rfl Tryd.underlying31 info5 rfl (by decide) (by omega) v284 y283 x6_2 _ _ _ (fun k_ => some k_ ≠ (.slice Ao22 x6_2.length co22 : Value).ownBlock) (fun _ => False) rfl rfl ?aO ?aR (fun _ _ h => h) (fun _ h => h.elim) ?aF ?aB ?aS ?aL ?_; (case aR => repeat (first | exact (Kd.R_reads' HO_6.out).2.2 | (with_reducible refine Kd.C_alloc ?_ _) | (with_reducible refine Kd.C_drewN ?_ _) | (with_reducible refine Kd.C_drew ?_))); (case aB => exact (by repeat (first | (with_reducible first | exact HB.out | apply below_alloc | apply pw_below_drewN | apply below_drew1) | exact HB.out))); (case aF => exact (fun k_ hk => Kd.fresh' (Kd.R_lt (by (with_reducible repeat (first | apply Kd.R_alloc | apply Kd.R_drewN | apply Kd.R_drew)); exact HO_6.out)) k_ hk)); (case aO => exact (by (with_reducible repeat (first | apply Kd.R_alloc | apply Kd.R_drewN | apply Kd.R_drew)); exact Kd.R_mono HO285.out (fun _ hk => hk.2))); (case aS => exact (below_size (by repeat (first | (with_reducible first | exact HB.out | apply below_alloc | apply pw_below_drewN | apply below_drew1) | exact HB.out)))); (case aL => have := LMc15.out; omega); intro v287 w21 ho hb hg hat; rw [← Ny286.out] at ho; have n0_ := Aside0.mk (Kd.R_after (ok := (fun _ => True)) (by (with_reducible repeat (first | apply Kd.R_alloc | apply Kd.R_drewN | apply Kd.R_drew)); exact HO_6.out) hg hat); have n1_ := Aside0.mk (hb); have n2_ := Aside0.mk (ho); clear HO_6; clear HB; clear HO285; have HO_6 := n0_; have HB := n1_; have HO288 := n2_; clear n0_ n1_ n2_; clear ho hb hg hat; obtain ⟨Ao23, co23, eo23⟩ := Kd.R_slice HO288.out; subst eo23))
                            go_roundg kj10
                            case measure => have := HJ2.out; have := HK2.out; have := HJ6.out; have := HJ10.out; omega
                            case rel => exact ⟨(wrap64 (Int.tdiv x0_2 10)), (y286), (wrap64 (x7_2 + 1)), (by first | rfl | (simp; done) | (simp [*]; done)), (by first | rfl | (simp; done) | (simp [*]; done)), H', ⟨by have := HJ2.out; have := HK2.out; have := HJ6.out; have := HJ10.out; omega⟩, ⟨by (with_reducible repeat (first | apply Kd.R_alloc | apply Kd.R_drewN | apply Kd.R_drew)); exact Kd.R_mono HO288.out (fun _ hk => trivial)⟩, ⟨by repeat (first | (with_reducible first | exact HB.out | apply below_alloc | apply pw_below_drewN | apply below_drew1) | exact HB.out)⟩⟩
                          · rw [if_neg c18] at H
                            have c18b0 : (((wrap64 (48 + (Int.tmod x0_2 10))) % 256) == 48) = false := beq_eq_false_iff_ne.mpr c18
                            have c18b1 : (((wrap64 (48 + (Int.tmod x0_2 10))) % 256) != 48) = true := bne_iff_ne.mpr c18
                            obtain ⟨y289, hy289⟩ : ∃ y_ : List Int, y_ = (([(wrap64 (48 + (Int.tmod x0_2 10))) % 256] : List Int)) := ⟨_, rfl⟩
                            replace H : (if y289.length + y286.length < 140737488355328 then (spec_Decimal.l0 kj10 (wrap64 (Int.tdiv x0_2 10)) a1 true (y289 ++ y286) (wrap64 (x7_2 + 1))) else (none)) = some r := by first | (rw [hy289]; with_reducible exact H) | (have H2_ := (Option.bind_some _ _).symm.trans H; rw [hy289]; with_reducible exact H2_) | (have H2_ := (Option.bind_some _ _).symm.trans H; with_reducible exact H2_) | with_reducible exact H | (rw [hy289]; exact H) | exact H
                            have Ny289 := Aside0.mk hy289
                            clear hy289
                            by_cases c24 : y289.length + y286.length < 140737488355328
                            · rw [if_pos c24] at H
                              have LMc24 := Aside0.mk c24
                              clear c24
                              obtain ⟨y292, hy292⟩ : ∃ y_ : List Int, y_ = (y289 ++ y286) := ⟨_, rfl⟩
                              replace H : (spec_Decimal.l0 kj10 (wrap64 (Int.tdiv x0_2 10)) a1 true y292 (wrap64 (x7_2 + 1))) = some r := by first | (rw [hy292]; with_reducible exact H) | (have H2_ := (Option.bind_some _ _).symm.trans H; rw [hy292]; with_reducible exact H2_) | (have H2_ := (Option.bind_some _ _).symm.trans H; with_reducible exact H2_) | with_reducible exact H | (rw [hy292]; exact H) | exact H
                              have Ny292 := Aside0.mk hy292
                              clear hy292
                              have H' := Aside0.mk H
                              clear H
                              go_wp2_with (first | ((with_reducible refine gate_dst (N := 37) rfl ?_); (try (refine gate_guard (by rfl) ?_; dsimp only)); refine Kd.R_lit (Kd.int .u8) _ 5 ?hg (N := 37) ?hd (xs := ([46] : List Int)) (inner := [.int .u8 46]) (ok := fun _ => True) (okp := fun _ => True) ?hr ?hp (fun _ hk => hk) trivial (Below.refl _ _) (Nat.le_refl _) (by simp) ?_; (case hd => rfl); (case hg => rfl); (case hr => first | (go_simp; done) | (go_simp; rfl)); (case hp => exact (Reps.one (show Kd.M (Kd.int .u8) _ _ _ 46 [.int .u8 46] from rfl) (Reps.none _ _))); intro v284 w25 ho26 hb hg_ hnew_; clear hg_ hnew_; (first | rw [← Ny283.out] at ho26 | (simp only [Int.reduceToNat] at ho26; rw [← Ny283.out] at ho26)); have n0_ := Aside0.mk (Kd.R_elder' (by (with_reducible repeat (first | apply Kd.R_alloc | apply Kd.R_drewN | apply Kd.R_drew)); exact HO_6.out) (Kd.R_base ho26) hb); have n1_ := Aside0.mk (Kd.R_lower (Kd.R_new' ho26 (Kd.R_lt (by (with_reducible repeat (first | apply Kd.R_alloc | apply Kd.R_drewN | apply Kd.R_drew)); exact HO_6.out))) (below_size (by repeat (first | (with_reducible first | exact HB.out | apply below_alloc | apply pw_below_drewN | apply below_drew1) | exact HB.out)))); have n2_ := Aside0.mk (below_step (by repeat (first | (with_reducible first | exact HB.out | apply below_alloc | apply pw_below_drewN | apply below_drew1) | exact HB.out)) hb); clear HO_6; clear HB; have HO_6 := n0_; have HO285 := n1_; have HB := n2_; clear n0_ n1_ n2_; clear hb ho26; obtain ⟨Ao28, co28, eo28⟩ := Kd.R_slice HO_6.out; subst eo28) | ((with_reducible refine gate_builtin (b := .append) (xs := #[.tmp 37, .tmp 38]) rfl ?_); (try (refine gate_guard (by rfl) ?_; dsimp only)); at_builtin; refine Kd.R_append_rows (Kd.int .u8) (w0 := w) w.heap.size rfl (.tmp 37) (.tmp 38) 31 5 (.int .u8 0) 1 rfl Tryd.underlying31 info5 rfl (by decide) (by omega) v284 y283 x6_2 _ _ _ (fun k_ => some k_ ≠ (.slice Ao28 x6_2.length co28 : Value).ownBlock) (fun _ => False) rfl rfl ?aO ?aR (fun _ _ h => h) (fun _ h => h.elim) ?aF ?aB ?aS ?aL ?_; (case aR => repeat (first | exact (Kd.R_reads' HO_6.out).2.2 | (with_reducible refine Kd.C_alloc ?_ _) | (with_reducible refine Kd.C_drewN ?_ _) | (with_reducible refine Kd.C_drew ?_))); (case aB => exact (by repeat (first | (with_reducible first | exact HB.out | apply below_alloc | apply pw_below_drewN | apply below_drew1) | exact HB.out))); (case aF => exact (fun k_ hk => Kd.fresh' (Kd.R_lt (by (with_reducible repeat (first | apply Kd.R_alloc | apply Kd.R_drewN | apply Kd.R_drew)); exact HO_6.out)) k_ hk)); (case aO => exact (by (with_reducible repeat (first | apply Kd.R_alloc | apply Kd.R_drewN | apply Kd.R_drew)); exact Kd.R_mono HO285.out (fun _ hk => hk.2))); (case aS => exact (below_size (by repeat (first | (with_reducible first | exact HB.out | apply below_alloc | apply pw_below_drewN | apply below_drew1) | exact HB.out)))); (case aL => have := LMc15.out; omega); intro v287 w27 ho hb hg hat; rw [← Ny286.out] at ho; have n0_ := Aside0.mk (Kd.R_after (ok := (fun _ => True)) (by (with_reducible repeat (first | apply Kd.R_alloc | apply Kd.R_drewN | apply Kd.R_drew)); exact HO_6.out) hg hat); have n1_ := Aside0.mk (hb); have n2_ := Aside0.mk (ho); clear HO_6; clear HB; clear HO285; have HO_6 := n0_; have HB := n1_; have HO288 := n2_; clear n0_ n1_ n2_; clear ho hb hg hat; obtain ⟨Ao29, co29, eo29⟩ := Kd.R_slice HO288.out; subst eo29) | ((with_reducible refine gate_dst (N := 59) rfl ?_); (try (refine gate_guard (by rfl) ?_; dsimp only)); refine Kd.R_lit (Kd.int .u8) _ 5 ?hg (N := 59) ?hd (xs := ([(wrap64 (48 + (Int.tmod x0_2 10))) % 256] : List Int)) (inner := [.int .u8 ((wrap64 (48 + (Int.tmod x0_2 10))) % 256)]) (ok := fun _ => True) (okp := fun _ => True) ?hr ?hp (fun _ hk => hk) trivial (Below.refl _ _) (Nat.le_refl _) (by simp) ?_; (case hd => rfl); (case hg => rfl); (case hr => first | (go_simp; done) | (go_simp; rfl)); (case hp => exact (Reps.one (show Kd.M (Kd.int .u8) _ _ _ ((wrap64 (48 + (Int.tmod x0_2 10))) % 256) [.int .u8 ((wrap64 (48 + (Int.tmod x0_2 10))) % 256)] from rfl) (Reps.none _ _))); intro v290 w30 ho31 hb hg_ hnew_; clear hg_ hnew_; (first | rw [← Ny289.out] at ho31 | (simp only [Int.reduceToNat] at ho31; rw [← Ny289.out] at ho31)); have n0_ := Aside0.mk (Kd.R_elder' (by (with_reducible repeat (first | apply Kd.R_alloc | apply Kd.R_drewN | apply Kd.R_drew)); exact HO_6.out) (Kd.R_base ho31) hb); have n1_ := Aside0.mk (Kd.R_elder' (by (with_reducible repeat (first | apply Kd.R_alloc | apply Kd.R_drewN | apply Kd.R_drew)); exact HO288.out) (Kd.R_base ho31) hb); have n2_ := Aside0.mk (Kd.R_lower (Kd.R_new' (Kd.R_new' ho31 (Kd.R_lt (by (with_reducible repeat (first | apply Kd.R_alloc | apply Kd.R_drewN | apply Kd.R_drew)); exact HO_6.out))) (Kd.R_lt (by (with_reducible repeat (first | apply Kd.R_alloc | apply Kd.R_drewN | apply Kd.R_drew)); exact HO288.out))) (below_size (by repeat (first | (with_reducible first | exact HB.out | apply below_alloc | apply pw_below_drewN | apply below_drew1) | exact HB.out)))); have n3_ := Aside0.mk (below_step (by repeat (first | (with_reducible first | exact HB.out | apply below_alloc | apply pw_below_drewN | apply below_drew1) | exact HB.out)) hb); clear HO_6; clear HO288; clear HB; have HO_6 := n0_; have HO288 := n1_; have HO291 := n2_; have HB := n3_; clear n0_ n1_ n2_ n3_; clear hb ho31) | ((with_reducible refine gate_builtin (b := .append) (xs := #[.tmp 59, .tmp 60]) rfl ?_); (try (refine gate_guard (by rfl) ?_; dsimp only)); at_builtin; refine Kd.R_append_rows (Kd.int .u8) (w0 := w) w.heap.size rfl (.tmp 59) (.tmp 60) 31 5 (.int .u8 0) 1 rfl Tryd.underlying31 info5 rfl (by decide) (by omega) v290 y289 y286 _ _ _ (fun k_ => some k_ ≠ (.slice Ao28 x6_2.length co28 : Value).ownBlock ∧ some k_ ≠ (.slice Ao29 y286.length co29 : Value).ownBlock) (fun _ => False) rfl rfl ?aO ?aR (fun _ _ h => h) (fun _ h => h.elim) ?aF ?aB ?aS ?aL ?_; (case aR => repeat (first | exact (Kd.R_reads' HO288.out).2.2 | (with_reducible refine Kd.C_alloc ?_ _) | (with_reducible refine Kd.C_drewN ?_ _) | (with_reducible refine Kd.C_drew ?_))); (case aB => exact (by repeat (first | (with_reducible first | exact HB.out | apply below_alloc | apply pw_below_drewN | apply below_drew1) | exact HB.out))); (case aF => exact (fun k_ hk => ⟨Kd.fresh' (Kd.R_lt (by (with_reducible repeat (first | apply Kd.R_alloc | apply Kd.R_drewN | apply Kd.R_drew)); exact HO_6.out)) k_ hk, Kd.fresh' (Kd.R_lt (by (with_reducible repeat (first | apply Kd.R_alloc | apply Kd.R_drewN | apply Kd.R_drew)); exact HO288.out)) k_ hk⟩)); (case aO => exact (by (with_reducible repeat (first | apply Kd.R_alloc | apply Kd.R_drewN | apply Kd.R_drew)); exact Kd.R_mono HO291.out (fun _ hk => ⟨hk.1.2, hk.2⟩))); (case aS => exact (below_size (by repeat (first | (with_reducible first | exact HB.out | apply below_alloc | apply pw_below_drewN | apply below_drew1) | exact HB.out)))); (case aL => have := LMc24.out; omega); intro v293 w32 ho hb hg hat; rw [← Ny292.out] at ho; have n0_ := Aside0.mk (Kd.R_after (ok := (fun k_ => some k_ ≠ (.slice Ao29 y286.length co29 : Value).ownBlock)) (by (with_reducible repeat (first | apply Kd.R_alloc | apply Kd.R_drewN | apply Kd.R_drew)); exact Kd.R_mono HO_6.out (fun _ hk => ⟨hk.1.2, hk.2⟩)) hg hat); have n1_ := Aside0.mk (Kd.R_after (ok := (fun k_ => some k_ ≠ (.slice Ao28 x6_2.length co28 : Value).ownBlock)) (by (with_reducible repeat (first | apply Kd.R_alloc | apply Kd.R_drewN | apply Kd.R_drew)); exact HO288.out) hg hat); have n2_ := Aside0.mk (hb); have n3_ := Aside0.mk (ho); clear HO_6; clear HO288; clear HB; clear HO291; have HO_6 := n0_; have HO288 := n1_; have HB := n2_; have HO294 := n3_; clear n0_ n1_ n2_ n3_; clear ho hb hg hat))
                              go_roundg kj10
                              case measure => have := HJ2.out; have := HK2.out; have := HJ6.out; have := HJ10.out; omega
                              case rel => exact ⟨(wrap64 (Int.tdiv x0_2 10)), (y292), (wrap64 (x7_2 + 1)), (by first | rfl | (simp; done) | (simp [*]; done)), (by first | rfl | (simp; done) | (simp [*]; done)), H', ⟨by have := HJ2.out; have := HK2.out; have := HJ6.out; have := HJ10.out; omega⟩, ⟨by (with_reducible repeat (first | apply Kd.R_alloc | apply Kd.R_drewN | apply Kd.R_drew)); exact Kd.R_mono HO294.out (fun _ hk => trivial)⟩, ⟨by repeat (first | (with_reducible first | exact HB.out | apply below_alloc | apply pw_below_drewN | apply below_drew1) | exact HB.out)⟩⟩
                            · rw [if_neg c24] at H
                              exact absurd H (by simp)
                        · rw [if_neg c17] at H
                          have c17b0 : ((y286.length : Int) == 0) = false := beq_eq_false_iff_ne.mpr c17
                          have c17b1 : ((y286.length : Int) != 0) = true := bne_iff_ne.mpr c17
                          have c17b2 : ¬ (y286 = []) := fun h_ => c17 (by rw [h_]; rfl)
                          obtain ⟨y295, hy295⟩ : ∃ y_ : List Int, y_ = (([(wrap64 (48 + (Int.tmod x0_2 10))) % 256] : List Int)) := ⟨_, rfl⟩
                          replace H : (if y295.length + y286.length < 140737488355328 then (spec_Decimal.l0 kj10 (wrap64 (Int.tdiv x0_2 10)) a1 true (y295 ++ y286) (wrap64 (x7_2 + 1))) else (none)) = some r := by first | (rw [hy295]; with_reducible exact H) | (have H2_ := (Option.bind_some _ _).symm.trans H; rw [hy295]; with_reducible exact H2_) | (have H2_ := (Option.bind_some _ _).symm.trans H; with_reducible exact H2_) | with_reducible exact H | (rw [hy295]; exact H) | exact H
                          have Ny295 := Aside0.mk hy295
                          clear hy295
                          by_cases c33 : y295.length + y286.length < 140737488355328
                          · rw [if_pos c33] at H
                            have LMc33 := Aside0.mk c33
                            clear c33
                            obtain ⟨y298, hy298⟩ : ∃ y_ : List Int, y_ = (y295 ++ y286) := ⟨_, rfl⟩
                            replace H : (spec_Decimal.l0 kj10 (wrap64 (Int.tdiv x0_2 10)) a1 true y298 (wrap64 (x7_2 + 1))) = some r := by first | (rw [hy298]; with_reducible exact H) | (have H2_ := (Option.bind_some _ _).symm.trans H; rw [hy298]; with_reducible exact H2_) | (have H2_ := (Option.bind_some _ _).symm.trans H; with_reducible exact H2_) | with_reducible exact H | (rw [hy298]; exact H) | exact H
                            have Ny298 := Aside0.mk hy298
                            clear hy298
                            have H' := Aside0.mk H
                            clear H
                            go_wp2_with (first | ((with_reducible refine gate_dst (N := 37) rfl ?_); (try (refine gate_guard (by rfl) ?_; dsimp only)); refine Kd.R_lit (Kd.int .u8) _ 5 ?hg (N := 37) ?hd (xs := ([46] : List Int)) (inner := [.int .u8 46]) (ok := fun _ => True) (okp := fun _ => True) ?hr ?hp (fun _ hk => hk) trivial (Below.refl _ _) (Nat.le_refl _) (by simp) ?_; (case hd => rfl); (case hg => rfl); (case hr => first | (go_simp; done) | (go_simp; rfl)); (case hp => exact (Reps.one (show Kd.M (Kd.int .u8) _ _ _ 46 [.int .u8 46] from rfl) (Reps.none _ _))); intro v284 w34 ho35 hb hg_ hnew_; clear hg_ hnew_; (first | rw [← Ny283.out] at ho35 | (simp only [Int.reduceToNat] at ho35; rw [← Ny283.out] at ho35)); have n0_ := Aside0.mk (Kd.R_elder' (by (with_reducible repeat (first | apply Kd.R_alloc | apply Kd.R_drewN | apply Kd.R_drew)); exact HO_6.out) (Kd.R_base ho35) hb); have n1_ := Aside0.mk (Kd.R_lower (Kd.R_new' ho35 (Kd.R_lt (by (with_reducible repeat (first | apply Kd.R_alloc | apply Kd.R_drewN | apply Kd.R_drew)); exact HO_6.out))) (below_size (by repeat (first | (with_reducible first | exact HB.out | apply below_alloc | apply pw_below_drewN | apply below_drew1) | exact HB.out)))); have n2_ := Aside0.mk (below_step (by repeat (first | (with_reducible first | exact HB.out | apply below_alloc | apply pw_below_drewN | apply below_drew1) | exact HB.out)) hb); clear HO_6; clear HB; have HO_6 := n0_; have HO285 := n1_; have HB := n2_; clear n0_ n1_ n2_; clear hb ho35; obtain ⟨Ao37, co37, eo37⟩ := Kd.R_slice HO_6.out; subst eo37) | ((with_reducible refine gate_builtin (b := .append) (xs := #[.tmp 37, .tmp 38]) rfl ?_); (try (refine gate_guard (by rfl) ?_; dsimp only)); at_builtin; refine Kd.R_append_rows (Kd.int .u8) (w0 := w) w.heap.size rfl (.tmp 37) (.tmp 38) 31 5 (.int .u8 0) 1 rfl Tryd.underlying31 info5 rfl (by decide) (by omega) v284 y283 x6_2 _ _ _ (fun k_ => some k_ ≠ (.slice Ao37 x6_2.length co37 : Value).ownBlock) (fun _ => False) rfl rfl ?aO ?aR (fun _ _ h => h) (fun _ h => h.elim) ?aF ?aB ?aS ?aL ?_; (case aR => repeat (first | exact (Kd.R_reads' HO_6.out).2.2 | (with_reducible refine Kd.C_alloc ?_ _) | (with_reducible refine Kd.C_drewN ?_ _) | (with_reducible refine Kd.C_drew ?_))); (case aB => exact (by repeat (first | (with_reducible first | exact HB.out | apply below_alloc | apply pw_below_drewN | apply below_drew1) | exact HB.out))); (case aF => exact (fun k_ hk => Kd.fresh' (Kd.R_lt (by (with_reducible repeat (first | apply Kd.R_alloc | apply Kd.R_drewN | apply Kd.R_drew)); exact HO_6.out)) k_ hk)); (case aO => exact (by (with_reducible repeat (first | apply Kd.R_alloc | apply Kd.R_drewN | apply Kd.R_drew)); exact Kd.R_mono HO285.out (fun _ hk => hk.2))); (case aS => exact (below_size (by repeat (first | (with_reducible first | exact HB.out | apply below_alloc | apply pw_below_drewN | apply below_drew1) | exact HB.out)))); (case aL => have := LMc15.out; omega); intro v287 w36 ho hb hg hat; rw [← Ny286.out] at ho; have n0_ := Aside0.mk (Kd.R_after (ok := (fun _ => True)) (by (with_reducible repeat (first | apply Kd.R_alloc | apply Kd.R_drewN | apply Kd.R_drew)); exact HO_6.out) hg hat); have n1_ := Aside0.mk (hb); have n2_ := Aside0.mk (ho); clear HO_6; clear HB; clear HO285; have HO_6 := n0_; have HB := n1_; have HO288 := n2_; clear n0_ n1_ n2_; clear ho hb hg hat; obtain ⟨Ao38, co38, eo38⟩ := Kd.R_slice HO288.out; subst eo38) | ((with_reducible refine gate_dst (N := 59) rfl ?_); (try (refine gate_guard (by rfl) ?_; dsimp only)); refine Kd.R_lit (Kd.int .u8) _ 5 ?hg (N := 59) ?hd (xs := ([(wrap64 (48 + (Int.tmod x0_2 10))) % 256] : List Int)) (inner := [.int .u8 ((wrap64 (48 + (Int.tmod x0_2 10))) % 256)]) (ok := fun _ => True) (okp := fun _ => True) ?hr ?hp (fun _ hk => hk) trivial (Below.refl _ _) (Nat.le_refl _) (by simp) ?_; (case hd => rfl); (case hg => rfl); (case hr => first | (go_simp; done) | (go_simp; rfl)); (case hp => exact (Reps.one (show Kd.M (Kd.int .u8) _ _ _ ((wrap64 (48 + (Int.tmod x0_2 10))) % 256) [.int .u8 ((wrap64 (48 + (Int.tmod x0_2 10))) % 256)] from rfl) (Reps.none _ _))); intro v296 w39 ho40 hb hg_ hnew_; clear hg_ hnew_; (first | rw [← Ny295.out] at ho40 | (simp only [Int.reduceToNat] at ho40; rw [← Ny295.out] at ho40)); have n0_ := Aside0.mk (Kd.R_elder' (by (with_reducible repeat (first | apply Kd.R_alloc | apply Kd.R_drewN | apply Kd.R_drew)); exact HO_6.out) (Kd.R_base ho40) hb); have n1_ := Aside0.mk (Kd.R_elder' (by (with_reducible repeat (first | apply Kd.R_alloc | apply Kd.R_drewN | apply Kd.R_drew)); exact HO288.out) (Kd.R_base ho40) hb); have n2_ := Aside0.mk (Kd.R_lower (Kd.R_new' (Kd.R_new' ho40 (Kd.R_lt (by (with_reducible repeat (first | apply Kd.R_alloc | apply Kd.R_drewN | apply Kd.R_drew)); exact HO_6.out))) (Kd.R_lt (by (with_reducible repeat (first | apply Kd.R_alloc | apply Kd.R_drewN | apply Kd.R_drew)); exact HO288.out))) (below_size (by repeat (first | (with_reducible first | exact HB.out | apply below_alloc | apply pw_below_drewN | apply below_drew1) | exact HB.out)))); have n3_ := Aside0.mk (below_step (by repeat (first | (with_reducible first | exact HB.out | apply below_alloc | apply pw_below_drewN | apply below_drew1) | exact HB.out)) hb); clear HO_6; clear HO288; clear HB; have HO_6 := n0_; have HO288 := n1_; have HO297 := n2_; have HB := n3_; clear n0_ n1_ n2_ n3_; clear hb ho40) | ((with_reducible refine gate_builtin (b := .append) (xs := #[.tmp 59, .tmp 60]) rfl ?_); (try (refine gate_guard (by rfl) ?_; dsimp only)); at_builtin; refine Kd.R_append_rows (Kd.int .u8) (w0 := w) w.heap.size rfl (.tmp 59) (.tmp 60) 31 5 (.int .u8 0) 1 rfl Tryd.underlying31 info5 rfl (by decide) (by omega) v296 y295 y286 _ _ _ (fun k_ => some k_ ≠ (.slice Ao37 x6_2.length co37 : Value).ownBlock ∧ some k_ ≠ (.slice Ao38 y286.length co38 : Value).ownBlock) (fun _ => False) rfl rfl ?aO ?aR (fun _ _ h => h) (fun _ h => h.elim) ?aF ?aB ?aS ?aL ?_; (case aR => repeat (first | exact (Kd.R_reads' HO288.out).2.2 | (with_reducible refine Kd.C_alloc ?_ _) | (with_reducible refine Kd.C_drewN ?_ _) | (with_reducible refine Kd.C_drew ?_))); (case aB => exact (by repeat (first | (with_reducible first | exact HB.out | apply below_alloc | apply pw_below_drewN | apply below_drew1) | exact HB.out))); (case aF => exact (fun k_ hk => ⟨Kd.fresh' (Kd.R_lt (by (with_reducible repeat (first | apply Kd.R_alloc | apply Kd.R_drewN | apply Kd.R_drew)); exact HO_6.out)) k_ hk, Kd.fresh' (Kd.R_lt (by (with_reducible repeat (first | apply Kd.R_alloc | apply Kd.R_drewN | apply Kd.R_drew)); exact HO288.out)) k_ hk⟩)); (case aO => exact (by (with_reducible repeat (first | apply Kd.R_alloc | apply Kd.R_drewN | apply Kd.R_drew)); exact Kd.R_mono HO297.out (fun _ hk => ⟨hk.1.2, hk.2⟩))); (case aS => exact (below_size (by repeat (first | (with_reducible first | exact HB.out | apply below_alloc | apply pw_below_drewN | apply below_drew1) | exact HB.out)))); (case aL => have := LMc33.out; omega); intro v299 w41 ho hb hg hat; rw [← Ny298.out] at ho; have n0_ := Aside0.mk (Kd.R_after (ok := (fun k_ => some k_ ≠ (.slice Ao38 y286.length co38 : Value).ownBlock)) (by (with_reducible repeat (first | apply Kd.R_alloc | apply Kd.R_drewN | apply Kd.R_drew)); exact Kd.R_mono HO_6.out (fun _ hk => ⟨hk.1.2, hk.2⟩)) hg hat); have n1_ := Aside0.mk (Kd.R_after (ok := (fun k_ => some k_ ≠ (.slice Ao37 x6_2.length co37 : Value).ownBlock)) (by (with_reducible repeat (first | apply Kd.R_alloc | apply Kd.R_drewN | apply Kd.R_drew)); exact HO288.out) hg hat); have n2_ := Aside0.mk (hb); have n3_ := Aside0.mk (ho); clear HO_6; clear HO288; clear HB; clear HO297; have HO_6 := n0_; have HO288 := n1_; have HB := n2_; have HO300 := n3_; clear n0_ n1_ n2_ n3_; clear ho hb hg hat))
                            go_roundg kj10
                            case measure => have := HJ2.out; have := HK2.out; have := HJ6.out; have := HJ10.out; omega
                            case rel => exact ⟨(wrap64 (Int.tdiv x0_2 10)), (y298), (wrap64 (x7_2 + 1)), (by first | rfl | (simp; done) | (simp [*]; done)), (by first | rfl | (simp; done) | (simp [*]; done)), H', ⟨by have := HJ2.out; have := HK2.out; have := HJ6.out; have := HJ10.out; omega⟩, ⟨by (with_reducible repeat (first | apply Kd.R_alloc | apply Kd.R_drewN | apply Kd.R_drew)); exact Kd.R_mono HO300.out (fun _ hk => trivial)⟩, ⟨by repeat (first | (with_reducible first | exact HB.out | apply below_alloc | apply pw_below_drewN | apply below_drew1) | exact HB.out)⟩⟩
                          · rw [if_neg c33] at H
                            exact absurd H (by simp)
                      · rw [if_neg c16] at H
                        have c16b0 : decide (x7_2 < a1) = false := decide_eq_false c16
                        clear c16
                        obtain ⟨y301, hy301⟩ : ∃ y_ : List Int, y_ = (([(wrap64 (48 + (Int.tmod x0_2 10))) % 256] : List Int)) := ⟨_, rfl⟩
                        replace H : (if y301.length + y286.length < 140737488355328 then (spec_Decimal.l0 kj10 (wrap64 (Int.tdiv x0_2 10)) a1 true (y301 ++ y286) (wrap64 (x7_2 + 1))) else (none)) = some r := by first | (rw [hy301]; with_reducible exact H) | (have H2_ := (Option.bind_some _ _).symm.trans H; rw [hy301]; with_reducible exact H2_) | (have H2_ := (Option.bind_some _ _).symm.trans H; with_reducible exact H2_) | with_reducible exact H | (rw [hy301]; exact H) | exact H
                        have Ny301 := Aside0.mk hy301
                        clear hy301
                        by_cases c42 : y301.length + y286.length < 140737488355328
                        · rw [if_pos c42] at H
                          have LMc42 := Aside0.mk c42
                          clear c42
                          obtain ⟨y304, hy304⟩ : ∃ y_ : List Int, y_ = (y301 ++ y286) := ⟨_, rfl⟩
                          replace H : (spec_Decimal.l0 kj10 (wrap64 (Int.tdiv x0_2 10)) a1 true y304 (wrap64 (x7_2 + 1))) = some r := by first | (rw [hy304]; with_reducible exact H) | (have H2_ := (Option.bind_some _ _).symm.trans H; rw [hy304]; with_reducible exact H2_) | (have H2_ := (Option.bind_some _ _).symm.trans H; with_reducible exact H2_) | with_reducible exact H | (rw [hy304]; exact H) | exact H
                          have Ny304 := Aside0.mk hy304
                          clear hy304
                          have H' := Aside0.mk H
                          clear H
                          go_wp2_with (first | ((with_reducible refine gate_dst (N := 37) rfl ?_); (try (refine gate_guard (by rfl) ?_; dsimp only)); refine Kd.R_lit (Kd.int .u8) _ 5 ?hg (N := 37) ?hd (xs := ([46] : List Int)) (inner := [.int .u8 46]) (ok := fun _ => True) (okp := fun _ => True) ?hr ?hp (fun _ hk => hk) trivial (Below.refl _ _) (Nat.le_refl _) (by simp) ?_; (case hd => rfl); (case hg => rfl); (case hr => first | (go_simp; done) | (go_simp; rfl)); (case hp => exact (Reps.one (show Kd.M (Kd.int .u8) _ _ _ 46 [.int .u8 46] from rfl) (Reps.none _ _))); intro v284 w43 ho44 hb hg_ hnew_; clear hg_ hnew_; (first | rw [← Ny283.out] at ho44 | (simp only [Int.reduceToNat] at ho44; rw [← Ny283.out] at ho44)); have n0_ := Aside0.mk (Kd.R_elder' (by (with_reducible repeat (first | apply Kd.R_alloc | apply Kd.R_drewN | apply Kd.R_drew)); exact HO_6.out) (Kd.R_base ho44) hb); have n1_ := Aside0.mk (Kd.R_lower (Kd.R_new' ho44 (Kd.R_lt (by (with_reducible repeat (first | apply Kd.R_alloc | apply Kd.R_drewN | apply Kd.R_drew)); exact HO_6.out))) (below_size (by repeat (first | (with_reducible first | exact HB.out | apply below_alloc | apply pw_below_drewN | apply below_drew1) | exact HB.out)))); have n2_ := Aside0.mk (below_step (by repeat (first | (with_reducible first | exact HB.out | apply below_alloc | apply pw_below_drewN | apply below_drew1) | exact HB.out)) hb); clear HO_6; clear HB; have HO_6 := n0_; have HO285 := n1_; have HB := n2_; clear n0_ n1_ n2_; clear hb ho44; obtain ⟨Ao46, co46, eo46⟩ := Kd.R_slice HO_6.out; subst eo46) | ((with_reducible refine gate_builtin (b := .append) (xs := #[.tmp 37, .tmp 38]) rfl ?_); (try (refine gate_guard (by rfl) ?_; dsimp only)); at_builtin; refine Kd.R_append_rows (Kd.int .u8) (w0 := w) w.heap.size rfl (.tmp 37) (.tmp 38) 31 5 (.int .u8 0) 1 rfl Tryd.underlying31 info5 rfl (by decide) (by omega) v284 y283 x6_2 _ _ _ (fun k_ => some k_ ≠ (.slice Ao46 x6_2.length co46 : Value).ownBlock) (fun _ => False) rfl rfl ?aO ?aR (fun _ _ h => h) (fun _ h => h.elim) ?aF ?aB ?aS ?aL ?_; (case aR => repeat (first | exact (Kd.R_reads' HO_6.out).2.2 | (with_reducible refine Kd.C_alloc ?_ _) | (with_reducible refine Kd.C_drewN ?_ _) | (with_reducible refine Kd.C_drew ?_))); (case aB => exact (by repeat (first | (with_reducible first | exact HB.out | apply below_alloc | apply pw_below_drewN | apply below_drew1) | exact HB.out))); (case aF => exact (fun k_ hk => Kd.fresh' (Kd.R_lt (by (with_reducible repeat (first | apply Kd.R_alloc | apply Kd.R_drewN | apply Kd.R_drew)); exact HO_6.out)) k_ hk)); (case aO => exact (by (with_reducible repeat (first | apply Kd.R_alloc | apply Kd.R_drewN | apply Kd.R_drew)); exact Kd.R_mono HO285.out (fun _ hk => hk.2))); (case aS => exact (below_size (by repeat (first | (with_reducible first | exact HB.out | apply below_alloc | apply pw_below_drewN | apply below_drew1) | exact HB.out)))); (case aL => have := LMc15.out; omega); intro v287 w45 ho hb hg hat; rw [← Ny286.out] at ho; have n0_ := Aside0.mk (Kd.R_after (ok := (fun _ => True)) (by (with_reducible repeat (first | apply Kd.R_alloc | apply Kd.R_drewN | apply Kd.R_drew)); exact HO_6.out) hg hat); have n1_ := Aside0.mk (hb); have n2_ := Aside0.mk (ho); clear HO_6; clear HB; clear HO285; have HO_6 := n0_; have HB := n1_; have HO288 := n2_; clear n0_ n1_ n2_; clear ho hb hg hat) | ((with_reducible refine gate_dst (N := 59) rfl ?_); (try (refine gate_guard (by rfl) ?_; dsimp only)); refine Kd.R_lit (Kd.int .u8) _ 5 ?hg (N := 59) ?hd (xs := ([(wrap64 (48 + (Int.tmod x0_2 10))) % 256] : List Int)) (inner := [.int .u8 ((wrap64 (48 + (Int.tmod x0_2 10))) % 256)]) (ok := fun _ => True) (okp := fun _ => True) ?hr ?hp (fun _ hk => hk) trivial (Below.refl _ _) (Nat.le_refl _) (by simp) ?_; (case hd => rfl); (case hg => rfl); (case hr => first | (go_simp; done) | (go_simp; rfl)); (case hp => exact (Reps.one (show Kd.M (Kd.int .u8) _ _ _ ((wrap64 (48 + (Int.tmod x0_2 10))) % 256) [.int .u8 ((wrap64 (48 + (Int.tmod x0_2 10))) % 256)] from rfl) (Reps.none _ _))); intro v302 w47 ho48 hb hg_ hnew_; clear hg_ hnew_; (first | rw [← Ny301.out] at ho48 | (simp only [Int.reduceToNat] at ho48; rw [← Ny301.out] at ho48)); have n0_ := Aside0.mk (Kd.R_elder' (by (with_reducible repeat (first | apply Kd.R_alloc | apply Kd.R_drewN | apply Kd.R_drew)); exact HO_6.out) (Kd.R_base ho48) hb); have n1_ := Aside0.mk (Kd.R_elder' (by (with_reducible repeat (first | apply Kd.R_alloc | apply Kd.R_drewN | apply Kd.R_drew)); exact HO288.out) (Kd.R_base ho48) hb); have n2_ := Aside0.mk (Kd.R_lower (Kd.R_new' (Kd.R_new' ho48 (Kd.R_lt (by (with_reducible repeat (first | apply Kd.R_alloc | apply Kd.R_drewN | apply Kd.R_drew)); exact HO_6.out))) (Kd.R_lt (by (with_reducible repeat (first | apply Kd.R_alloc | apply Kd.R_drewN | apply Kd.R_drew)); exact HO288.out))) (below_size (by repeat (first | (with_reducible first | exact HB.out | apply below_alloc | apply pw_below_drewN | apply below_drew1) | exact HB.out)))); have n3_ := Aside0.mk (below_step (by repeat (first | (with_reducible first | exact HB.out | apply below_alloc | apply pw_below_drewN | apply below_drew1) | exact HB.out)) hb); clear HO_6; clear HO288; clear HB; have HO_6 := n0_; have HO288 := n1_; have HO303 := n2_; have HB := n3_; clear n0_ n1_ n2_ n3_; clear hb ho48; obtain ⟨Ao50, co50, eo50⟩ := Kd.R_slice HO288.out; subst eo50) | ((with_reducible refine gate_builtin (b := .append) (xs := #[.tmp 59, .tmp 60]) rfl ?_); (try (refine gate_guard (by rfl) ?_; dsimp only)); at_builtin; refine Kd.R_append_rows (Kd.int .u8) (w0 := w) w.heap.size rfl (.tmp 59) (.tmp 60) 31 5 (.int .u8 0) 1 rfl Tryd.underlying31 info5 rfl (by decide) (by omega) v302 y301 y286 _ _ _ (fun k_ => some k_ ≠ (.slice Ao46 x6_2.length co46 : Value).ownBlock ∧ some k_ ≠ (.slice Ao50 y286.length co50 : Value).ownBlock) (fun _ => False) rfl rfl ?aO ?aR (fun _ _ h => h) (fun _ h => h.elim) ?aF ?aB ?aS ?aL ?_; (case aR => repeat (first | exact (Kd.R_reads' HO288.out).2.2 | (with_reducible refine Kd.C_alloc ?_ _) | (with_reducible refine Kd.C_drewN ?_ _) | (with_reducible refine Kd.C_drew ?_))); (case aB => exact (by repeat (first | (with_reducible first | exact HB.out | apply below_alloc | apply pw_below_drewN | apply below_drew1) | exact HB.out))); (case aF => exact (fun k_ hk => ⟨Kd.fresh' (Kd.R_lt (by (with_reducible repeat (first | apply Kd.R_alloc | apply Kd.R_drewN | apply Kd.R_drew)); exact HO_6.out)) k_ hk, Kd.fresh' (Kd.R_lt (by (with_reducible repeat (first | apply Kd.R_alloc | apply Kd.R_drewN | apply Kd.R_drew)); exact HO288.out)) k_ hk⟩)); (case aO => exact (by (with_reducible repeat (first | apply Kd.R_alloc | apply Kd.R_drewN | apply Kd.R_drew)); exact Kd.R_mono HO303.out (fun _ hk => ⟨hk.1.2, hk.2⟩))); (case aS => exact (below_size (by repeat (first | (with_reducible first | exact HB.out | apply below_alloc | apply pw_below_drewN | apply below_drew1) | exact HB.out)))); (case aL => have := LMc42.out; omega); intro v305 w49 ho hb hg hat; rw [← Ny304.out] at ho; have n0_ := Aside0.mk (Kd.R_after (ok := (fun k_ => some k_ ≠ (.slice Ao50 y286.length co50 : Value).ownBlock)) (by (with_reducible repeat (first | apply Kd.R_alloc | apply Kd.R_drewN | apply Kd.R_drew)); exact Kd.R_mono HO_6.out (fun _ hk => ⟨hk.1.2, hk.2⟩)) hg hat); have n1_ := Aside0.mk (Kd.R_after (ok := (fun k_ => some k_ ≠ (.slice Ao46 x6_2.length co46 : Value).ownBlock)) (by (with_reducible repeat (first | apply Kd.R_alloc | apply Kd.R_drewN | apply Kd.R_drew)); exact HO288.out) hg hat); have n2_ := Aside0.mk (hb); have n3_ := Aside0.mk (ho); clear HO_6; clear HO288; clear HB; clear HO303; have HO_6 := n0_; have HO288 := n1_; have HB := n2_; have HO306 := n3_; clear n0_ n1_ n2_ n3_; clear ho hb hg hat))
                          go_roundg kj10
                          case measure => have := HJ2.out; have := HK2.out; have := HJ6.out; have := HJ10.out; omega
                          case rel => exact ⟨(wrap64 (Int.tdiv x0_2 10)), (y304), (wrap64 (x7_2 + 1)), (by first | rfl | (simp; done) | (simp [*]; done)), (by first | rfl | (simp; done) | (simp [*]; done)), H', ⟨by have := HJ2.out; have := HK2.out; have := HJ6.out; have := HJ10.out; omega⟩, ⟨by (with_reducible repeat (first | apply Kd.R_alloc | apply Kd.R_drewN | apply Kd.R_drew)); exact Kd.R_mono HO306.out (fun _ hk => trivial)⟩, ⟨by repeat (first | (with_reducible first | exact HB.out | apply below_alloc | apply pw_below_drewN | apply below_drew1) | exact HB.out)⟩⟩
                        · rw [if_neg c42] at H
                          exact absurd H (by simp)
                    · rw [if_neg c15] at H
                      exact absurd H (by simp)
                  · replace c14 := Bool.eq_false_iff.mpr c14
                    subst c14
                    have H1 : (if x7_2 < a1 then (if (x6_2.length : Int) = 0 then (if ((wrap64 (48 + (Int.tmod x0_2 10))) % 256) = 48 then (spec_Decimal.l0 kj10 (wrap64 (Int.tdiv x0_2 10)) a1 true x6_2 (wrap64 (x7_2 + 1))) else ((some (([(wrap64 (48 + (Int.tmod x0_2 10))) % 256] : List Int) : List Int)).bind fun y307 => (if y307.length + x6_2.length < 140737488355328 then (spec_Decimal.l0 kj10 (wrap64 (Int.tdiv x0_2 10)) a1 true (y307 ++ x6_2) (wrap64 (x7_2 + 1))) else (none)))) else ((some (([(wrap64 (48 + (Int.tmod x0_2 10))) % 256] : List Int) : List Int)).bind fun y313 => (if y313.length + x6_2.length < 140737488355328 then (spec_Decimal.l0 kj10 (wrap64 (Int.tdiv x0_2 10)) a1 true (y313 ++ x6_2) (wrap64 (x7_2 + 1))) else (none)))) else ((some (([(wrap64 (48 + (Int.tmod x0_2 10))) % 256] : List Int) : List Int)).bind fun y319 => (if y319.length + x6_2.length < 140737488355328 then (spec_Decimal.l0 kj10 (wrap64 (Int.tdiv x0_2 10)) a1 true (y319 ++ x6_2) (wrap64 (x7_2 + 1))) else (none)))) = some r := by rw [if_neg (show ¬ (false = true) by decide)] at H; exact H
                    clear H
                    have H := H1
                    clear H1
                    by_cases c51 : x7_2 < a1
                    · rw [if_pos c51] at H
                      have c51b0 : decide (x7_2 < a1) = true := decide_eq_true c51
                      clear c51
                      by_cases c52 : (x6_2.length : Int) = 0
                      · rw [if_pos c52] at H
                        have c52b0 : ((x6_2.length : Int) == 0) = true := beq_iff_eq.mpr c52
                        have c52b1 : ((x6_2.length : Int) != 0) = false := bne_eq_false_iff_eq.mpr c52
                        clear c52
                        by_cases c53 : ((wrap64 (48 + (Int.tmod x0_2 10))) % 256) = 48
                        · rw [if_pos c53] at H
                          have c53b0 : (((wrap64 (48 + (Int.tmod x0_2 10))) % 256) == 48) = true := beq_iff_eq.mpr c53
                          have c53b1 : (((wrap64 (48 + (Int.tmod x0_2 10))) % 256) != 48) = false := bne_eq_false_iff_eq.mpr c53
                          clear c53
                          have H' := Aside0.mk H
                          clear H
                          obtain ⟨Ao54, co54, eo54⟩ := Kd.R_slice HO_6.out
                          subst eo54
                          go_wp2
                          go_roundg kj10
                          case measure => have := HJ2.out; have := HK2.out; have := HJ6.out; have := HJ10.out; omega
                          case rel => exact ⟨(wrap64 (Int.tdiv x0_2 10)), (x6_2), (wrap64 (x7_2 + 1)), (by first | rfl | (simp; done) | (simp [*]; done)), (by first | rfl | (simp; done) | (simp [*]; done)), H', ⟨by have := HJ2.out; have := HK2.out; have := HJ6.out; have := HJ10.out; omega⟩, ⟨by (with_reducible repeat (first | apply Kd.R_alloc | apply Kd.R_drewN | apply Kd.R_drew)); exact HO_6.out⟩, ⟨by repeat (first | (with_reducible first | exact HB.out | apply below_alloc | apply pw_below_drewN | apply below_drew1) | exact HB.out)⟩⟩
                        · rw [if_neg c53] at H
                          have c53b0 : (((wrap64 (48 + (Int.tmod x0_2 10))) % 256) == 48) = false := beq_eq_false_iff_ne.mpr c53
                          have c53b1 : (((wrap64 (48 + (Int.tmod x0_2 10))) % 256) != 48) = true := bne_iff_ne.mpr c53
                          obtain ⟨y307, hy307⟩ : ∃ y_ : List Int, y_ = (([(wrap64 (48 + (Int.tmod x0_2 10))) % 256] : List Int)) := ⟨_, rfl⟩
                          replace H : (if y307.length + x6_2.length < 140737488355328 then (spec_Decimal.l0 kj10 (wrap64 (Int.tdiv x0_2 10)) a1 true (y307 ++ x6_2) (wrap64 (x7_2 + 1))) else (none)) = some r := by first | (rw [hy307]; with_reducible exact H) | (have H2_ := (Option.bind_some _ _).symm.trans H; rw [hy307]; with_reducible exact H2_) | (have H2_ := (Option.bind_some _ _).symm.trans H; with_reducible exact H2_) | with_reducible exact H | (rw [hy307]; exact H) | exact H
                          have Ny307 := Aside0.mk hy307
                          clear hy307
                          by_cases c55 : y307.length + x6_2.length < 140737488355328
                          · rw [if_pos c55] at H
                            have LMc55 := Aside0.mk c55
                            clear c55
                            obtain ⟨y310, hy310⟩ : ∃ y_ : List Int, y_ = (y307 ++ x6_2) := ⟨_, rfl⟩
                            replace H : (spec_Decimal.l0 kj10 (wrap64 (Int.tdiv x0_2 10)) a1 true y310 (wrap64 (x7_2 + 1))) = some r := by first | (rw [hy310]; with_reducible exact H) | (have H2_ := (Option.bind_some _ _).symm.trans H; rw [hy310]; with_reducible exact H2_) | (have H2_ := (Option.bind_some _ _).symm.trans H; with_reducible exact H2_) | with_reducible exact H | (rw [hy310]; exact H) | exact H
                            have Ny310 := Aside0.mk hy310
                            clear hy310
                            have H' := Aside0.mk H
                            clear H
                            obtain ⟨Ao56, co56, eo56⟩ := Kd.R_slice HO_6.out
                            subst eo56
                            go_wp2_with (first | ((with_reducible refine gate_dst (N := 59) rfl ?_); (try (refine gate_guard (by rfl) ?_; dsimp only)); refine Kd.R_lit (Kd.int .u8) _ 5 ?hg (N := 59) ?hd (xs := ([(wrap64 (48 + (Int.tmod x0_2 10))) % 256] : List Int)) (inner := [.int .u8 ((wrap64 (48 + (Int.tmod x0_2 10))) % 256)]) (ok := fun _ => True) (okp := fun _ => True) ?hr ?hp (fun _ hk => hk) trivial (Below.refl _ _) (Nat.le_refl _) (by simp) ?_; (case hd => rfl); (case hg => rfl); (case hr => first | (go_simp; done) | (go_simp; rfl)); (case hp => exact (Reps.one (show Kd.M (Kd.int .u8) _ _ _ ((wrap64 (48 + (Int.tmod x0_2 10))) % 256) [.int .u8 ((wrap64 (48 + (Int.tmod x0_2 10))) % 256)] from rfl) (Reps.none _ _))); intro v308 w57 ho58 hb hg_ hnew_; clear hg_ hnew_; (first | rw [← Ny307.out] at ho58 | (simp only [Int.reduceToNat] at ho58; rw [← Ny307.out] at ho58)); have n0_ := Aside0.mk (Kd.R_elder' (by (with_reducible repeat (first | apply Kd.R_alloc | apply Kd.R_drewN | apply Kd.R_drew)); exact HO_6.out) (Kd.R_base ho58) hb); have n1_ := Aside0.mk (Kd.R_lower (Kd.R_new' ho58 (Kd.R_lt (by (with_reducible repeat (first | apply Kd.R_alloc | apply Kd.R_drewN | apply Kd.R_drew)); exact HO_6.out))) (below_size (by repeat (first | (with_reducible first | exact HB.out | apply below_alloc | apply pw_below_drewN | apply below_drew1) | exact HB.out)))); have n2_ := Aside0.mk (below_step (by repeat (first | (with_reducible first | exact HB.out | apply below_alloc | apply pw_below_drewN | apply below_drew1) | exact HB.out)) hb); clear HO_6; clear HB; have HO_6 := n0_; have HO309 := n1_; have HB := n2_; clear n0_ n1_ n2_; clear hb ho58) | ((with_reducible refine gate_builtin (b := .append) (xs := #[.tmp 59, .tmp 60]) rfl ?_); (try (refine gate_guard (by rfl) ?_; dsimp only)); at_builtin; refine Kd.R_append_rows (Kd.int .u8) (w0 := w) w.heap.size rfl (.tmp 59) (.tmp 60) 31 5 (.int .u8 0) 1 rfl Tryd.underlying31 info5 rfl (by decide) (by omega) v308 y307 x6_2 _ _ _ (fun k_ => some k_ ≠ (.slice Ao56 x6_2.length co56 : Value).ownBlock) (fun _ => False) rfl rfl ?aO ?aR (fun _ _ h => h) (fun _ h => h.elim) ?aF ?aB ?aS ?aL ?_; (case aR => repeat (first | exact (Kd.R_reads' HO_6.out).2.2 | (with_reducible refine Kd.C_alloc ?_ _) | (with_reducible refine Kd.C_drewN ?_ _) | (with_reducible refine Kd.C_drew ?_))); (case aB => exact (by repeat (first | (with_reducible first | exact HB.out | apply below_alloc | apply pw_below_drewN | apply below_drew1) | exact HB.out))); (case aF => exact (fun k_ hk => Kd.fresh' (Kd.R_lt (by (with_reducible repeat (first | apply Kd.R_alloc | apply Kd.R_drewN | apply Kd.R_drew)); exact HO_6.out)) k_ hk)); (case aO => exact (by (with_reducible repeat (first | apply Kd.R_alloc | apply Kd.R_drewN | apply Kd.R_drew)); exact Kd.R_mono HO309.out (fun _ hk => hk.2))); (case aS => exact (below_size (by repeat (first | (with_reducible first | exact HB.out | apply below_alloc | apply pw_below_drewN | apply below_drew1) | exact HB.out)))); (case aL => have := LMc55.out; omega); intro v311 w59 ho hb hg hat; rw [← Ny310.out] at ho; have n0_ := Aside0.mk (Kd.R_after (ok := (fun _ => True)) (by (with_reducible repeat (first | apply Kd.R_alloc | apply Kd.R_drewN | apply Kd.R_drew)); exact HO_6.out) hg hat); have n1_ := Aside0.mk (hb); have n2_ := Aside0.mk (ho); clear HO_6; clear HB; clear HO309; have HO_6 := n0_; have HB := n1_; have HO312 := n2_; clear n0_ n1_ n2_; clear ho hb hg hat))
                            go_roundg kj10
                            case measure => have := HJ2.out; have := HK2.out; have := HJ6.out; have := HJ10.out; omega
                            case rel => exact ⟨(wrap64 (Int.tdiv x0_2 10)), (y310), (wrap64 (x7_2 + 1)), (by first | rfl | (simp; done) | (simp [*]; done)), (by first | rfl | (simp; done) | (simp [*]; done)), H', ⟨by have := HJ2.out; have := HK2.out; have := HJ6.out; have := HJ10.out; omega⟩, ⟨by (with_reducible repeat (first | apply Kd.R_alloc | apply Kd.R_drewN | apply Kd.R_drew)); exact Kd.R_mono HO312.out (fun _ hk => trivial)⟩, ⟨by repeat (first | (with_reducible first | exact HB.out | apply below_alloc | apply pw_below_drewN | apply below_drew1) | exact HB.out)⟩⟩
                          · rw [if_neg c55] at H
                            exact absurd H (by simp)
                      · rw [if_neg c52] at H
                        have c52b0 : ((x6_2.length : Int) == 0) = false := beq_eq_false_iff_ne.mpr c52
                        have c52b1 : ((x6_2.length : Int) != 0) = true := bne_iff_ne.mpr c52
                        have c52b2 : ¬ (x6_2 = []) := fun h_ => c52 (by rw [h_]; rfl)
                        obtain ⟨y313, hy313⟩ : ∃ y_ : List Int, y_ = (([(wrap64 (48 + (Int.tmod x0_2 10))) % 256] : List Int)) := ⟨_, rfl⟩
                        replace H : (if y313.length + x6_2.length < 140737488355328 then (spec_Decimal.l0 kj10 (wrap64 (Int.tdiv x0_2 10)) a1 true (y313 ++ x6_2) (wrap64 (x7_2 + 1))) else (none)) = some r := by first | (rw [hy313]; with_reducible exact H) | (have H2_ := (Option.bind_some _ _).symm.trans H; rw [hy313]; with_reducible exact H2_) | (have H2_ := (Option.bind_some _ _).symm.trans H; with_reducible exact H2_) | with_reducible exact H | (rw [hy313]; exact H) | exact H
                        have Ny313 := Aside0.mk hy313
                        clear hy313
                        by_cases c60 : y313.length + x6_2.length < 140737488355328
                        · rw [if_pos c60] at H
                          have LMc60 := Aside0.mk c60
                          clear c60
                          obtain ⟨y316, hy316⟩ : ∃ y_ : List Int, y_ = (y313 ++ x6_2) := ⟨_, rfl⟩
                          replace H : (spec_Decimal.l0 kj10 (wrap64 (Int.tdiv x0_2 10)) a1 true y316 (wrap64 (x7_2 + 1))) = some r := by first | (rw [hy316]; with_reducible exact H) | (have H2_ := (Option.bind_some _ _).symm.trans H; rw [hy316]; with_reducible exact H2_) | (have H2_ := (Option.bind_some _ _).symm.trans H; with_reducible exact H2_) | with_reducible exact H | (rw [hy316]; exact H) | exact H
                          have Ny316 := Aside0.mk hy316
                          clear hy316
                          have H' := Aside0.mk H
                          clear H
                          obtain ⟨Ao61, co61, eo61⟩ := Kd.R_slice HO_6.out
                          subst eo61
                          go_wp2_with (first | ((with_reducible refine gate_dst (N := 59) rfl ?_); (try (refine gate_guard (by rfl) ?_; dsimp only)); refine Kd.R_lit (Kd.int .u8) _ 5 ?hg (N := 59) ?hd (xs := ([(wrap64 (48 + (Int.tmod x0_2 10))) % 256] : List Int)) (inner := [.int .u8 ((wrap64 (48 + (Int.tmod x0_2 10))) % 256)]) (ok := fun _ => True) (okp := fun _ => True) ?hr ?hp (fun _ hk => hk) trivial (Below.refl _ _) (Nat.le_refl _) (by simp) ?_; (case hd => rfl); (case hg => rfl); (case hr => first | (go_simp; done) | (go_simp; rfl)); (case hp => exact (Reps.one (show Kd.M (Kd.int .u8) _ _ _ ((wrap64 (48 + (Int.tmod x0_2 10))) % 256) [.int .u8 ((wrap64 (48 + (Int.tmod x0_2 10))) % 256)] from rfl) (Reps.none _ _))); intro v314 w62 ho63 hb hg_ hnew_; clear hg_ hnew_; (first | rw [← Ny313.out] at ho63 | (simp only [Int.reduceToNat] at ho63; rw [← Ny313.out] at ho63)); have n0_ := Aside0.mk (Kd.R_elder' (by (with_reducible repeat (first | apply Kd.R_alloc | apply Kd.R_drewN | apply Kd.R_drew)); exact HO_6.out) (Kd.R_base ho63) hb); have n1_ := Aside0.mk (Kd.R_lower (Kd.R_new' ho63 (Kd.R_lt (by (with_reducible repeat (first | apply Kd.R_alloc | apply Kd.R_drewN | apply Kd.R_drew)); exact HO_6.out))) (below_size (by repeat (first | (with_reducible first | exact HB.out | apply below_alloc | apply pw_below_drewN | apply below_drew1) | exact HB.out)))); have n2_ := Aside0.mk (below_step (by repeat (first | (with_reducible first | exact HB.out | apply below_alloc | apply pw_below_drewN | apply below_drew1) | exact HB.out)) hb); clear HO_6; clear HB; have HO_6 := n0_; have HO315 := n1_; have HB := n2_; clear n0_ n1_ n2_; clear hb ho63) | ((with_reducible refine gate_builtin (b := .append) (xs := #[.tmp 59, .tmp 60]) rfl ?_); (try (refine gate_guard (by rfl) ?_; dsimp only)); at_builtin; refine Kd.R_append_rows (Kd.int .u8) (w0 := w) w.heap.size rfl (.tmp 59) (.tmp 60) 31 5 (.int .u8 0) 1 rfl Tryd.underlying31 info5 rfl (by decide) (by omega) v314 y313 x6_2 _ _ _ (fun k_ => some k_ ≠ (.slice Ao61 x6_2.length co61 : Value).ownBlock) (fun _ => False) rfl rfl ?aO ?aR (fun _ _ h => h) (fun _ h => h.elim) ?aF ?aB ?aS ?aL ?_; (case aR => repeat (first | exact (Kd.R_reads' HO_6.out).2.2 | (with_reducible refine Kd.C_alloc ?_ _) | (with_reducible refine Kd.C_drewN ?_ _) | (with_reducible refine Kd.C_drew ?_))); (case aB => exact (by repeat (first | (with_reducible first | exact HB.out | apply below_alloc | apply pw_below_drewN | apply below_drew1) | exact HB.out))); (case aF => exact (fun k_ hk => Kd.fresh' (Kd.R_lt (by (with_reducible repeat (first | apply Kd.R_alloc | apply Kd.R_drewN | apply Kd.R_drew)); exact HO_6.out)) k_ hk)); (case aO => exact (by (with_reducible repeat (first | apply Kd.R_alloc | apply Kd.R_drewN | apply Kd.R_drew)); exact Kd.R_mono HO315.out (fun _ hk => hk.2))); (case aS => exact (below_size (by repeat (first | (with_reducible first | exact HB.out | apply below_alloc | apply pw_below_drewN | apply below_drew1) | exact HB.out)))); (case aL => have := LMc60.out; omega); intro v317 w64 ho hb hg hat; rw [← Ny316.out] at ho; have n0_ := Aside0.mk (Kd.R_after (ok := (fun _ => True)) (by (with_reducible repeat (first | apply Kd.R_alloc | apply Kd.R_drewN | apply Kd.R_drew)); exact HO_6.out) hg hat); have n1_ := Aside0.mk (hb); have n2_ := Aside0.mk (ho); clear HO_6; clear HB; clear HO315; have HO_6 := n0_; have HB := n1_; have HO318 := n2_; clear n0_ n1_ n2_; clear ho hb hg hat))
                          go_roundg kj10
                          case measure => have := HJ2.out; have := HK2.out; have := HJ6.out; have := HJ10.out; omega
                          case rel => exact ⟨(wrap64 (Int.tdiv x0_2 10)), (y316), (wrap64 (x7_2 + 1)), (by first | rfl | (simp; done) | (simp [*]; done)), (by first | rfl | (simp; done) | (simp [*]; done)), H', ⟨by have := HJ2.out; have := HK2.out; have := HJ6.out; have := HJ10.out; omega⟩, ⟨by (with_reducible repeat (first | apply Kd.R_alloc | apply Kd.R_drewN | apply Kd.R_drew)); exact Kd.R_mono HO318.out (fun _ hk => trivial)⟩, ⟨by repeat (first | (with_reducible first | exact HB.out | apply below_alloc | apply pw_below_drewN | apply below_drew1) | exact HB.out)⟩⟩
                        · rw [if_neg c60] at H
                          exact absurd H (by simp)
                    · rw [if_neg c51] at H
                      have c51b0 : decide (x7_2 < a1) = false := decide_eq_false c51
                      clear c51
                      obtain ⟨y319, hy319⟩ : ∃ y_ : List Int, y_ = (([(wrap64 (48 + (Int.tmod x0_2 10))) % 256] : List Int)) := ⟨_, rfl⟩
                      replace H : (if y319.length + x6_2.length < 140737488355328 then (spec_Decimal.l0 kj10 (wrap64 (Int.tdiv x0_2 10)) a1 true (y319 ++ x6_2) (wrap64 (x7_2 + 1))) else (none)) = some r := by first | (rw [hy319]; with_reducible exact H) | (have H2_ := (Option.bind_some _ _).symm.trans H; rw [hy319]; with_reducible exact H2_) | (have H2_ := (Option.bind_some _ _).symm.trans H; with_reducible exact H2_) | with_reducible exact H | (rw [hy319]; exact H) | exact H
                      have Ny319 := Aside0.mk hy319
                      clear hy319
                      by_cases c65 : y319.length + x6_2.length < 140737488355328
                      · rw [if_pos c65] at H
                        have LMc65 := Aside0.mk c65
                        clear c65
                        obtain ⟨y322, hy322⟩ : ∃ y_ : List Int, y_ = (y319 ++ x6_2) := ⟨_, rfl⟩
                        replace H : (spec_Decimal.l0 kj10 (wrap64 (Int.tdiv x0_2 10)) a1 true y322 (wrap64 (x7_2 + 1))) = some r := by first | (rw [hy322]; with_reducible exact H) | (have H2_ := (Option.bind_some _ _).symm.trans H; rw [hy322]; with_reducible exact H2_) | (have H2_ := (Option.bind_some _ _).symm.trans H; with_reducible exact H2_) | with_reducible exact H | (rw [hy322]; exact H) | exact H
                        have Ny322 := Aside0.mk hy322
                        clear hy322
                        have H' := Aside0.mk H
                        clear H
                        go_wp2_with (first | ((with_reducible refine gate_dst (N := 59) rfl ?_); (try (refine gate_guard (by rfl) ?_; dsimp only)); refine Kd.R_lit (Kd.int .u8) _ 5 ?hg (N := 59) ?hd (xs := ([(wrap64 (48 + (Int.tmod x0_2 10))) % 256] : List Int)) (inner := [.int .u8 ((wrap64 (48 + (Int.tmod x0_2 10))) % 256)]) (ok := fun _ => True) (okp := fun _ => True) ?hr ?hp (fun _ hk => hk) trivial (Below.refl _ _) (Nat.le_refl _) (by simp) ?_; (case hd => rfl); (case hg => rfl); (case hr => first | (go_simp; done) | (go_simp; rfl)); (case hp => exact (Reps.one (show Kd.M (Kd.int .u8) _ _ _ ((wrap64 (48 + (Int.tmod x0_2 10))) % 256) [.int .u8 ((wrap64 (48 + (Int.tmod x0_2 10))) % 256)] from rfl) (Reps.none _ _))); intro v320 w66 ho67 hb hg_ hnew_; clear hg_ hnew_; (first | rw [← Ny319.out] at ho67 | (simp only [Int.reduceToNat] at ho67; rw [← Ny319.out] at ho67)); have n0_ := Aside0.mk (Kd.R_elder' (by (with_reducible repeat (first | apply Kd.R_alloc | apply Kd.R_drewN | apply Kd.R_drew)); exact HO_6.out) (Kd.R_base ho67) hb); have n1_ := Aside0.mk (Kd.R_lower (Kd.R_new' ho67 (Kd.R_lt (by (with_reducible repeat (first | apply Kd.R_alloc | apply Kd.R_drewN | apply Kd.R_drew)); exact HO_6.out))) (below_size (by repeat (first | (with_reducible first | exact HB.out | apply below_alloc | apply pw_below_drewN | apply below_drew1) | exact HB.out)))); have n2_ := Aside0.mk (below_step (by repeat (first | (with_reducible first | exact HB.out | apply below_alloc | apply pw_below_drewN | apply below_drew1) | exact HB.out)) hb); clear HO_6; clear HB; have HO_6 := n0_; have HO321 := n1_; have HB := n2_; clear n0_ n1_ n2_; clear hb ho67; obtain ⟨Ao69, co69, eo69⟩ := Kd.R_slice HO_6.out; subst eo69) | ((with_reducible refine gate_builtin (b := .append) (xs := #[.tmp 59, .tmp 60]) rfl ?_); (try (refine gate_guard (by rfl) ?_; dsimp only)); at_builtin; refine Kd.R_append_rows (Kd.int .u8) (w0 := w) w.heap.size rfl (.tmp 59) (.tmp 60) 31 5 (.int .u8 0) 1 rfl Tryd.underlying31 info5 rfl (by decide) (by omega) v320 y319 x6_2 _ _ _ (fun k_ => some k_ ≠ (.slice Ao69 x6_2.length co69 : Value).ownBlock) (fun _ => False) rfl rfl ?aO ?aR (fun _ _ h => h) (fun _ h => h.elim) ?aF ?aB ?aS ?aL ?_; (case aR => repeat (first | exact (Kd.R_reads' HO_6.out).2.2 | (with_reducible refine Kd.C_alloc ?_ _) | (with_reducible refine Kd.C_drewN ?_ _) | (with_reducible refine Kd.C_drew ?_))); (case aB => exact (by repeat (first | (with_reducible first | exact HB.out | apply below_alloc | apply pw_below_drewN | apply below_drew1) | exact HB.out))); (case aF => exact (fun k_ hk => Kd.fresh' (Kd.R_lt (by (with_reducible repeat (first | apply Kd.R_alloc | apply Kd.R_drewN | apply Kd.R_drew)); exact HO_6.out)) k_ hk)); (case aO => exact (by (with_reducible repeat (first | apply Kd.R_alloc | apply Kd.R_drewN | apply Kd.R_drew)); exact Kd.R_mono HO321.out (fun _ hk => hk.2))); (case aS => exact (below_size (by repeat (first | (with_reducible first | exact HB.out | apply below_alloc | apply pw_below_drewN | apply below_drew1) | exact HB.out)))); (case aL => have := LMc65.out; omega); intro v323 w68 ho hb hg hat; rw [← Ny322.out] at ho; have n0_ := Aside0.mk (Kd.R_after (ok := (fun _ => True)) (by (with_reducible repeat (first | apply Kd.R_alloc | apply Kd.R_drewN | apply Kd.R_drew)); exact HO_6.out) hg hat); have n1_ := Aside0.mk (hb); have n2_ := Aside0.mk (ho); clear HO_6; clear HB; clear HO321; have HO_6 := n0_; have HB := n1_; have HO324 := n2_; clear n0_ n1_ n2_; clear ho hb hg hat))
                        go_roundg kj10
                        case measure => have := HJ2.out; have := HK2.out; have := HJ6.out; have := HJ10.out; omega
                        case rel => exact ⟨(wrap64 (Int.tdiv x0_2 10)), (y322), (wrap64 (x7_2 + 1)), (by first | rfl | (simp; done) | (simp [*]; done)), (by first | rfl | (simp; done) | (simp [*]; done)), H', ⟨by have := HJ2.out; have := HK2.out; have := HJ6.out; have := HJ10.out; omega⟩, ⟨by (with_reducible repeat (first | apply Kd.R_alloc | apply Kd.R_drewN | apply Kd.R_drew)); exact Kd.R_mono HO324.out (fun _ hk => trivial)⟩, ⟨by repeat (first | (with_reducible first | exact HB.out | apply below_alloc | apply pw_below_drewN | apply below_drew1) | exact HB.out)⟩⟩
                      · rw [if_neg c65] at H
                        exact absurd H (by simp)
            · replace c10 := Bool.eq_false_iff.mpr c10
              subst c10
              have H1 : (if true = true then (if 1 + (strOfNums x6_2).size ≤ 9223372036854775807 then (some ((⟨#[45]⟩ : ByteArray) ++ (strOfNums x6_2))) else (none)) else (some (strOfNums x6_2))) = some r := by rw [if_neg (show ¬ (false = true) by decide)] at H; exact H
              clear H
              have H := H1
              clear H1
              by_cases c70 : true = true
              · rw [if_pos c70] at H
                have c70b0 : true = true := c70
                clear c70
                by_cases c71 : 1 + (strOfNums x6_2).size ≤ 9223372036854775807
                · rw [if_pos c71] at H
                  have c71b0 := eq_true c71
                  have c71b1 : decide (1 + (strOfNums x6_2).size ≤ 9223372036854775807) = true := decide_eq_true c71
                  try have c71b2 : (9223372036854775807 < 1 + (strOfNums x6_2).size) = False := eq_false (Nat.not_lt.2 c71)
                  obtain rfl := Option.some.inj H
                  have hcv72 := own_string (P := Tryd.prog) Tryd.underlying31 Tryd.underlying5 Tryd.underlying9 (Kd.own_of_R HO_6.out)
                  go_wp2
                  go_ret
                  exact ⟨by first | rfl | (simp [errW_none, errW_some] <;> rfl) | (simp [*, errW_none, errW_some] <;> rfl), by repeat (first | (with_reducible first | exact HB.out | apply below_alloc | apply pw_below_drewN | apply below_drew1) | exact HB.out)⟩
                · rw [if_neg c71] at H
                  exact absurd H (by simp)
              · exact absurd rfl c70

set_option maxHeartbeats 8000000 in
set_option maxRecDepth 100000 in
theorem spec_Decimal.calls_pos (k : Nat) (a0 : Int) (a1 : Int) (c4 : 0 ≤ a0) (r : ByteArray) (w : World) (h : spec_Decimal.j0 k a0 a1 false = some r) :
    Calls Tryd.prog 5 #[.int .i64 a0, .int .i64 a1] w fun e w' => e = .returned (.string r) ∧ Below w.heap.size w w' := by
  have HB := Aside0.mk (Below.refl w.heap.size w)
  have HA := Aside0.mk h
  clear h
  go_enter Tryd.func5, Tryd.ntmps5
  cases k with
  | zero => exact absurd HA.out (by simp [spec_Decimal.j0])
  | succ kj2 =>
    have HJ2 : Aside0 (kj2 + 1 ≤ kj2 + 1) := ⟨Nat.le_refl _⟩
    have H := HA.out
    clear HA
    simp only [spec_Decimal.j0] at H
    obtain ⟨y280, hy280⟩ : ∃ y_ : List Int, y_ = (([] : List Int)) := ⟨_, rfl⟩
    replace H : (spec_Decimal.l0 kj2 a0 a1 false y280 0) = some r := by first | (rw [hy280]; with_reducible exact H) | (have H2_ := (Option.bind_some _ _).symm.trans H; rw [hy280]; with_reducible exact H2_) | (have H2_ := (Option.bind_some _ _).symm.trans H; with_reducible exact H2_) | with_reducible exact H | (rw [hy280]; exact H) | exact H
    have Ny280 := Aside0.mk hy280
    clear hy280
    have H' := Aside0.mk H
    clear H
    go_wp2_with (first | ((with_reducible refine gate_dst (N := 14) rfl ?_); (try (refine gate_guard (by rfl) ?_; dsimp only)); refine Kd.R_lit (Kd.int .u8) _ 5 ?hg (N := 14) ?hd (xs := ([] : List Int)) (inner := []) (ok := fun _ => True) (okp := fun _ => True) ?hr ?hp (fun _ hk => hk) trivial (Below.refl _ _) (Nat.le_refl _) (by simp) ?_; (case hd => rfl); (case hg => rfl); (case hr => first | (go_simp; done) | (go_simp; rfl)); (case hp => exact (Reps.none _ _)); intro v281 w5 ho6 hb hg_ hnew_; clear hg_ hnew_; (first | rw [← Ny280.out] at ho6 | (simp only [Int.reduceToNat] at ho6; rw [← Ny280.out] at ho6)); have n0_ := Aside0.mk (Kd.R_lower ho6 (below_size (by repeat (first | (with_reducible first | exact HB.out | apply below_alloc | apply pw_below_drewN | apply below_drew1) | exact HB.out)))); have n1_ := Aside0.mk (below_step (by repeat (first | (with_reducible first | exact HB.out | apply below_alloc | apply pw_below_drewN | apply below_drew1) | exact HB.out)) hb); clear HB; have HO282 := n0_; have HB := n1_; clear n0_ n1_; clear hb ho6))
    go_loopg [0, 6, 7] kj2 (fun kq v0 v6 v7 w' => ∃ (x0_2 : Int) (x6_2 : List Int) (x7_2 : Int), v0 = .int .i64 x0_2 ∧ v7 = .int .i64 x7_2 ∧ Aside0 (spec_Decimal.l0 kq x0_2 a1 false x6_2 x7_2 = some r) ∧ Aside0 (kq ≤ kj2) ∧ Aside0 (Kd.R (Kd.int .u8) 5 w' w.heap.size (fun _ => True) v6 x6_2) ∧ Aside0 (Below w.heap.size w w'))
    case atStart => exact ⟨a0, (y280), (0), (by first | rfl | (simp; done) | (simp [*]; done)), (by first | rfl | (simp; done) | (simp [*]; done)), H', ⟨Nat.le_refl _⟩, ⟨by (with_reducible repeat (first | apply Kd.R_alloc | apply Kd.R_drewN | apply Kd.R_drew)); exact HO282.out⟩, ⟨by repeat (first | (with_reducible first | exact HB.out | apply below_alloc | apply pw_below_drewN | apply below_drew1) | exact HB.out)⟩⟩
    case round =>
      clear H'
      try clear p2
      try clear c4
      try clear c4b0
      try clear c5
      try clear p6
      try clear p2
      obtain ⟨x0_2, x6_2, x7_2, rfl, rfl, HA, HK2, HO_6, HB⟩ := hrel
      cases gk with
      | zero => exact absurd HA.out (by simp [spec_Decimal.l0])
      | succ k2 =>
        have H := HA.out
        clear HA
        simp only [spec_Decimal.l0] at H
        have HC7 := Aside0.mk H
        clear H
        go_upto_region 6 with (fail)
        go_cut [26] (fun v26 wc => ∃ (kq : Nat) (x26_6 : Bool), v26 = .bool x26_6 ∧ Aside0 (spec_Decimal.j2 kq x0_2 a1 false x6_2 x7_2 x26_6 = some r) ∧ Aside0 (kq ≤ k2) ∧ Aside0 (Kd.R (Kd.int .u8) 5 wc w.heap.size (fun _ => True) u6 x6_2) ∧ Aside0 (Below w.heap.size w wc))
        case first =>
          have H := HC7.out
          clear HC7
          by_cases c8 : x7_2 < a1
          · rw [if_pos c8] at H
            have c8b0 : decide (x7_2 < a1) = true := decide_eq_true c8
            clear c8
            (first | rw [c8b0] | (simp only [i64_w, i32_w]; rw [c8b0]) | skip)
            have H' := Aside0.mk H
            clear H
            go_wp2
            go_meet
            case rel => exact ⟨_, (true), (by first | rfl | (simp; done) | (simp [*]; done)), H', ⟨by have := HJ2.out; have := HK2.out; first | omega | exact Nat.le_refl _⟩, ⟨by (with_reducible repeat (first | apply Kd.R_alloc | apply Kd.R_drewN | apply Kd.R_drew)); exact HO_6.out⟩, ⟨by repeat (first | (with_reducible first | exact HB.out | apply below_alloc | apply pw_below_drewN | apply below_drew1) | exact HB.out)⟩⟩
          · rw [if_neg c8] at H
            have c8b0 : decide (x7_2 < a1) = false := decide_eq_false c8
            clear c8
            (first | rw [c8b0] | (simp only [i64_w, i32_w]; rw [c8b0]) | skip)
            by_cases c9 : x0_2 > 0
            · rw [if_pos c9] at H
              have c9b0 : decide (0 < x0_2) = true := decide_eq_true c9
              clear c9
              have H' := Aside0.mk H
              clear H
              go_wp2
              go_meet
              case rel => exact ⟨_, (true), (by first | rfl | (simp; done) | (simp [*]; done)), H', ⟨by have := HJ2.out; have := HK2.out; first | omega | exact Nat.le_refl _⟩, ⟨by (with_reducible repeat (first | apply Kd.R_alloc | apply Kd.R_drewN | apply Kd.R_drew)); exact HO_6.out⟩, ⟨by repeat (first | (with_reducible first | exact HB.out | apply below_alloc | apply pw_below_drewN | apply below_drew1) | exact HB.out)⟩⟩
            · rw [if_neg c9] at H
              have c9b0 : decide (0 < x0_2) = false := decide_eq_false c9
              clear c9
              have H' := Aside0.mk H
              clear H
              go_wp2
              go_meet
              case rel => exact ⟨_, ((x7_2 == a1)), (by first | rfl | (simp; done) | (simp [*]; done)), H', ⟨by have := HJ2.out; have := HK2.out; first | omega | exact Nat.le_refl _⟩, ⟨by (with_reducible repeat (first | apply Kd.R_alloc | apply Kd.R_drewN | apply Kd.R_drew)); exact HO_6.out⟩, ⟨by repeat (first | (with_reducible first | exact HB.out | apply below_alloc | apply pw_below_drewN | apply below_drew1) | exact HB.out)⟩⟩
        case rest =>
          clear HC7
          try clear p2
          try clear c4
          try clear c4b0
          try clear c5
          try clear p6
          try clear c8
          try clear c8b0
          try clear c9
          try clear c9b0
          try clear p2
          try clear p6
          obtain ⟨kq, x26_6, rfl, HA, HJ6, HO_6, HB⟩ := hcut
          cases kq with
          | zero => exact absurd HA.out (by simp [spec_Decimal.j2])
          | succ kj6 =>
            have H := HA.out
            clear HA
            simp only [spec_Decimal.j2] at H
            by_cases c10 : x26_6 = true
            · subst c10
              have H1 : (if x7_2 = a1 then (spec_Decimal.j3 kj6 x0_2 a1 false x6_2 x7_2 (decide ((x6_2.length : Int) > 0))) else (spec_Decimal.j3 kj6 x0_2 a1 false x6_2 x7_2 false)) = some r := by rw [if_pos rfl] at H; exact H
              clear H
              have H := H1
              clear H1
              have HC11 := Aside0.mk H
              clear H
              go_upto_region 8 with (fail)
              go_cut [36] (fun v36 wc => ∃ (kq : Nat) (x36_10 : Bool), v36 = .bool x36_10 ∧ Aside0 (spec_Decimal.j3 kq x0_2 a1 false x6_2 x7_2 x36_10 = some r) ∧ Aside0 (kq ≤ kj6) ∧ Aside0 (Kd.R (Kd.int .u8) 5 wc w.heap.size (fun _ => True) u6 x6_2) ∧ Aside0 (Below w.heap.size w wc))
              case first =>
                have H := HC11.out
                clear HC11
                by_cases c12 : x7_2 = a1
                · rw [if_pos c12] at H
                  have c12b0 : (x7_2 == a1) = true := beq_iff_eq.mpr c12
                  have c12b1 : (x7_2 != a1) = false := bne_eq_false_iff_eq.mpr c12
                  clear c12
                  (first | rw [c12b0] | (simp only [i64_w, i32_w]; rw [c12b0]) | skip)
                  have H' := Aside0.mk H
                  clear H
                  obtain ⟨Ao13, co13, eo13⟩ := Kd.R_slice HO_6.out
                  subst eo13
                  go_wp2
                  go_meet
                  case rel => exact ⟨_, (decide ((x6_2.length : Int) > 0)), (by first | rfl | (simp; done) | (simp [*]; done)), H', ⟨by have := HJ2.out; have := HK2.out; have := HJ6.out; first | omega | exact Nat.le_refl _⟩, ⟨by (with_reducible repeat (first | apply Kd.R_alloc | apply Kd.R_drewN | apply Kd.R_drew)); exact HO_6.out⟩, ⟨by repeat (first | (with_reducible first | exact HB.out | apply below_alloc | apply pw_below_drewN | apply below_drew1) | exact HB.out)⟩⟩
                · rw [if_neg c12] at H
                  have c12b0 : (x7_2 == a1) = false := beq_eq_false_iff_ne.mpr c12
                  have c12b1 : (x7_2 != a1) = true := bne_iff_ne.mpr c12
                  (first | rw [c12b0] | (simp only [i64_w, i32_w]; rw [c12b0]) | skip)
                  have H' := Aside0.mk H
                  clear H
                  go_wp2
                  go_meet
                  case rel => exact ⟨_, (false), (by first | rfl | (simp; done) | (simp [*]; done)), H', ⟨by have := HJ2.out; have := HK2.out; have := HJ6.out; first | omega | exact Nat.le_refl _⟩, ⟨by (with_reducible repeat (first | apply Kd.R_alloc | apply Kd.R_drewN | apply Kd.R_drew)); exact HO_6.out⟩, ⟨by repeat (first | (with_reducible first | exact HB.out | apply below_alloc | apply pw_below_drewN | apply below_drew1) | exact HB.out)⟩⟩
              case rest =>
                clear HC11
                try clear c1
                try clear p2
                try clear c4
                try clear c4b0
                try clear c5
                try clear p6
                try clear c8
                try clear c8b0
                try clear c9
                try clear c9b0
                try clear c10
                try clear c12
                try clear c12b0
                try clear c12b1
                try clear p2
                try clear p6
                obtain ⟨kq, x36_10, rfl, HA, HJ10, HO_6, HB⟩ := hcut
                cases kq with
                | zero => exact absurd HA.out (by simp [spec_Decimal.j3])
                | succ kj10 =>
                  have H := HA.out
                  clear HA
                  simp only [spec_Decimal.j3] at H
                  by_cases c14 : x36_10 = true
                  · subst c14
                    have H1 : ((some (([46] : List Int) : List Int)).bind fun y283 => (if y283.length + x6_2.length < 140737488355328 then ((some (y283 ++ x6_2 : List Int)).bind fun y286 => (if x7_2 < a1 then (if (y286.length : Int) = 0 then (if ((wrap64 (48 + (Int.tmod x0_2 10))) % 256) = 48 then (spec_Decimal.l0 kj10 (wrap64 (Int.tdiv x0_2 10)) a1 false y286 (wrap64 (x7_2 + 1))) else ((some (([(wrap64 (48 + (Int.tmod x0_2 10))) % 256] : List Int) : List Int)).bind fun y289 => (if y289.length + y286.length < 140737488355328 then (spec_Decimal.l0 kj10 (wrap64 (Int.tdiv x0_2 10)) a1 false (y289 ++ y286) (wrap64 (x7_2 + 1))) else (none)))) else ((some (([(wrap64 (48 + (Int.tmod x0_2 10))) % 256] : List Int) : List Int)).bind fun y295 => (if y295.length + y286.length < 140737488355328 then (spec_Decimal.l0 kj10 (wrap64 (Int.tdiv x0_2 10)) a1 false (y295 ++ y286) (wrap64 (x7_2 + 1))) else (none)))) else ((some (([(wrap64 (48 + (Int.tmod x0_2 10))) % 256] : List Int) : List Int)).bind fun y301 => (if y301.length + y286.length < 140737488355328 then (spec_Decimal.l0 kj10 (wrap64 (Int.tdiv x0_2 10)) a1 false (y301 ++ y286) (wrap64 (x7_2 + 1))) else (none))))) else (none))) = some r := by rw [if_pos rfl] at H; exact H
                    clear H
                    have H := H1
                    clear H1
                    obtain ⟨y283, hy283⟩ : ∃ y_ : List Int, y_ = (([46] : List Int)) := ⟨_, rfl⟩
                    replace H : (if y283.length + x6_2.length < 140737488355328 then ((some (y283 ++ x6_2 : List Int)).bind fun y286 => (if x7_2 < a1 then (if (y286.length : Int) = 0 then (if ((wrap64 (48 + (Int.tmod x0_2 10))) % 256) = 48 then (spec_Decimal.l0 kj10 (wrap64 (Int.tdiv x0_2 10)) a1 false y286 (wrap64 (x7_2 + 1))) else ((some (([(wrap64 (48 + (Int.tmod x0_2 10))) % 256] : List Int) : List Int)).bind fun y289 => (if y289.length + y286.length < 140737488355328 then (spec_Decimal.l0 kj10 (wrap64 (Int.tdiv x0_2 10)) a1 false (y289 ++ y286) (wrap64 (x7_2 + 1))) else (none)))) else ((some (([(wrap64 (48 + (Int.tmod x0_2 10))) % 256] : List Int) : List Int)).bind fun y295 => (if y295.length + y286.length < 140737488355328 then (spec_Decimal.l0 kj10 (wrap64 (Int.tdiv x0_2 10)) a1 false (y295 ++ y286) (wrap64 (x7_2 + 1))) else (none)))) else ((some (([(wrap64 (48 + (Int.tmod x0_2 10))) % 256] : List Int) : List Int)).bind fun y301 => (if y301.length + y286.length < 140737488355328 then (spec_Decimal.l0 kj10 (wrap64 (Int.tdiv x0_2 10)) a1 false (y301 ++ y286) (wrap64 (x7_2 + 1))) else (none))))) else (none)) = some r := by first | (rw [hy283]; with_reducible exact H) | (have H2_ := (Option.bind_some _ _).symm.trans H; rw [hy283]; with_reducible exact H2_) | (have H2_ := (Option.bind_some _ _).symm.trans H; with_reducible exact H2_) | with_reducible exact H | (rw [hy283]; exact H) | exact H
                    have Ny283 := Aside0.mk hy283
                    clear hy283
                    by_cases c15 : y283.length + x6_2.length < 140737488355328
                    · rw [if_pos c15] at H
                      have LMc15 := Aside0.mk c15
                      clear c15
                      obtain ⟨y286, hy286⟩ : ∃ y_ : List Int, y_ = (y283 ++ x6_2) := ⟨_, rfl⟩
                      replace H : (if x7_2 < a1 then (if (y286.length : Int) = 0 then (if ((wrap64 (48 + (Int.tmod x0_2 10))) % 256) = 48 then (spec_Decimal.l0 kj10 (wrap64 (Int.tdiv x0_2 10)) a1 false y286 (wrap64 (x7_2 + 1))) else ((some (([(wrap64 (48 + (Int.tmod x0_2 10))) % 256] : List Int) : List Int)).bind fun y289 => (if y289.length + y286.length < 140737488355328 then (spec_Decimal.l0 kj10 (wrap64 (Int.tdiv x0_2 10)) a1 false (y289 ++ y286) (wrap64 (x7_2 + 1))) else (none)))) else ((some (([(wrap64 (48 + (Int.tmod x0_2 10))) % 256] : List Int) : List Int)).bind fun y295 => (if y295.length + y286.length < 140737488355328 then (spec_Decimal.l0 kj10 (wrap64 (Int.tdiv x0_2 10)) a1 false (y295 ++ y286) (wrap64 (x7_2 + 1))) else (none)))) else ((some (([(wrap64 (48 + (Int.tmod x0_2 10))) % 256] : List Int) : List Int)).bind fun y301 => (if y301.length + y286.length < 140737488355328 then (spec_Decimal.l0 kj10 (wrap64 (Int.tdiv x0_2 10)) a1 false (y301 ++ y286) (wrap64 (x7_2 + 1))) else (none)))) = some r := by first | (rw [hy286]; with_reducible exact H) | (have H2_ := (Option.bind_some _ _).symm.trans H; rw [hy286]; with_reducible exact H2_) | (have H2_ := (Option.bind_some _ _).symm.trans H; with_reducible exact H2_) | with_reducible exact H | (rw [hy286]; exact H) | exact H
                      have Ny286 := Aside0.mk hy286
                      clear hy286
                      by_cases c16 : x7_2 < a1
                      · rw [if_pos c16] at H
                        have c16b0 : decide (x7_2 < a1) = true := decide_eq_true c16
                        clear c16
                        by_cases c17 : (y286.length : Int) = 0
                        · rw [if_pos c17] at H
                          have c17b0 : ((y286.length : Int) == 0) = true := beq_iff_eq.mpr c17
                          have c17b1 : ((y286.length : Int) != 0) = false := bne_eq_false_iff_eq.mpr c17
                          clear c17
                          by_cases c18 : ((wrap64 (48 + (Int.tmod x0_2 10))) % 256) = 48
                          · rw [if_pos c18] at H
                            have c18b0 : (((wrap64 (48 + (Int.tmod x0_2 10))) % 256) == 48) = true := beq_iff_eq.mpr c18
                            have c18b1 : (((wrap64 (48 + (Int.tmod x0_2 10))) % 256) != 48) = false := bne_eq_false_iff_eq.mpr c18
                            clear c18
                            have H' := Aside0.mk H
                            clear H
                            go_wp2_with (first | ((with_reducible refine gate_dst (N := 37) rfl ?_); (try (refine gate_guard (by rfl) ?_; dsimp only)); refine Kd.R_lit (Kd.int .u8) _ 5 ?hg (N := 37) ?hd (xs := ([46] : List Int)) (inner := [.int .u8 46]) (ok := fun _ => True) (okp := fun _ => True) ?hr ?hp (fun _ hk => hk) trivial (Below.refl _ _) (Nat.le_refl _) (by simp) ?_; (case hd => rfl); (case hg => rfl); (case hr => first | (go_simp; done) | (go_simp; rfl)); (case hp => exact (Reps.one (show Kd.M (Kd.int .u8) _ _ _ 46 [.int .u8 46] from rfl) (Reps.none _ _))); intro v284 w19 ho20 hb hg_ hnew_; clear hg_ hnew_; (first | rw [← Ny283.out] at ho20 | (simp only [Int.reduceToNat] at ho20; rw [← Ny283.out] at ho20)); have n0_ := Aside0.mk (Kd.R_elder' (by (with_reducible repeat (first | apply Kd.R_alloc | apply Kd.R_drewN | apply Kd.R_drew)); exact HO_6.out) (Kd.R_base ho20) hb); have n1_ := Aside0.mk (Kd.R_lower (Kd.R_new' ho20 (Kd.R_lt (by (with_reducible repeat (first | apply Kd.R_alloc | apply Kd.R_drewN | apply Kd.R_drew)); exact HO_6.out))) (below_size (by repeat (first | (with_reducible first | exact HB.out | apply below_alloc | apply pw_below_drewN | apply below_drew1) | exact HB.out)))); have n2_ := Aside0.mk (below_step (by repeat (first | (with_reducible first | exact HB.out | apply below_alloc | apply pw_below_drewN | apply below_drew1) | exact HB.out)) hb); clear HO_6; clear HB; have HO_6 := n0_; have HO285 := n1_; have HB := n2_; clear n0_ n1_ n2_; clear hb ho20; obtain ⟨Ao22, co22, eo22⟩ := Kd.R_slice HO_6.out; subst eo22) | ((with_reducible refine gate_builtin (b := .append) (xs := #[.tmp 37, .tmp 38]) rfl ?_); (try (refine gate_guard (by rfl) ?_; dsimp only)); at_builtin; refine Kd.R_append_rows (Kd.int .u8) (w0 := w) w.heap.size rfl (.tmp 37) (.tmp 38) 31 5 (.int .u8 0) 1 rfl Tryd.underlying31 info5 rfl (by decide) (by omega) v284 y283 x6_2 _ _ _ (fun k_ => some k_ ≠ (.slice Ao22 x6_2.length co22 : Value).ownBlock) (fun _ => False) rfl rfl ?aO ?aR (fun _ _ h => h) (fun _ h => h.elim) ?aF ?aB ?aS ?aL ?_; (case aR => repeat (first | exact (Kd.R_reads' HO_6.out).2.2 | (with_reducible refine Kd.C_alloc ?_ _) | (with_reducible refine Kd.C_drewN ?_ _) | (with_reducible refine Kd.C_drew ?_))); (case aB => exact (by repeat (first | (with_reducible first | exact HB.out | apply below_alloc | apply pw_below_drewN | apply below_drew1) | exact HB.out))); (case aF => exact (fun k_ hk => Kd.fresh' (Kd.R_lt (by (with_reducible repeat (first | apply Kd.R_alloc | apply Kd.R_drewN | apply Kd.R_drew)); exact HO_6.out)) k_ hk)); (case aO => exact (by (with_reducible repeat (first | apply Kd.R_alloc | apply Kd.R_drewN | apply Kd.R_drew)); exact Kd.R_mono HO285.out (fun _ hk => hk.2))); (case aS => exact (below_size (by repeat (first | (with_reducible first | exact HB.out | apply below_alloc | apply pw_below_drewN | apply below_drew1) | exact HB.out)))); (case aL => have := LMc15.out; omega); intro v287 w21 ho hb hg hat; rw [← Ny286.out] at ho; have n0_ := Aside0.mk (Kd.R_after (ok := (fun _ => True)) (by (with_reducible repeat (first | apply Kd.R_alloc | apply Kd.R_drewN | apply Kd.R_drew)); exact HO_6.out) hg hat); have n1_ := Aside0.mk (hb); have n2_ := Aside0.mk (ho); clear HO_6; clear HB; clear HO285; have HO_6 := n0_; have HB := n1_; have HO288 := n2_; clear n0_ n1_ n2_; clear ho hb hg hat; obtain ⟨Ao23, co23, eo23⟩ := Kd.R_slice HO288.out; subst eo23))
                            go_roundg kj10
                            case measure => have := HJ2.out; have := HK2.out; have := HJ6.out; have := HJ10.out; omega
                            case rel => exact ⟨(wrap64 (Int.tdiv x0_2 10)), (y286), (wrap64 (x7_2 + 1)), (by first | rfl | (simp; done) | (simp [*]; done)), (by first | rfl | (simp; done) | (simp [*]; done)), H', ⟨by have := HJ2.out; have := HK2.out; have := HJ6.out; have := HJ10.out; omega⟩, ⟨by (with_reducible repeat (first | apply Kd.R_alloc | apply Kd.R_drewN | apply Kd.R_drew)); exact Kd.R_mono HO288.out (fun _ hk => trivial)⟩, ⟨by repeat (first | (with_reducible first | exact HB.out | apply below_alloc | apply pw_below_drewN | apply below_drew1) | exact HB.out)⟩⟩
                          · rw [if_neg c18] at H
                            have c18b0 : (((wrap64 (48 + (Int.tmod x0_2 10))) % 256) == 48) = false := beq_eq_false_iff_ne.mpr c18
                            have c18b1 : (((wrap64 (48 + (Int.tmod x0_2 10))) % 256) != 48) = true := bne_iff_ne.mpr c18
                            obtain ⟨y289, hy289⟩ : ∃ y_ : List Int, y_ = (([(wrap64 (48 + (Int.tmod x0_2 10))) % 256] : List Int)) := ⟨_, rfl⟩
                            replace H : (if y289.length + y286.length < 140737488355328 then (spec_Decimal.l0 kj10 (wrap64 (Int.tdiv x0_2 10)) a1 false (y289 ++ y286) (wrap64 (x7_2 + 1))) else (none)) = some r := by first | (rw [hy289]; with_reducible exact H) | (have H2_ := (Option.bind_some _ _).symm.trans H; rw [hy289]; with_reducible exact H2_) | (have H2_ := (Option.bind_some _ _).symm.trans H; with_reducible exact H2_) | with_reducible exact H | (rw [hy289]; exact H) | exact H
                            have Ny289 := Aside0.mk hy289
                            clear hy289
                            by_cases c24 : y289.length + y286.length < 140737488355328
                            · rw [if_pos c24] at H
                              have LMc24 := Aside0.mk c24
                              clear c24
                              obtain ⟨y292, hy292⟩ : ∃ y_ : List Int, y_ = (y289 ++ y286) := ⟨_, rfl⟩
                              replace H : (spec_Decimal.l0 kj10 (wrap64 (Int.tdiv x0_2 10)) a1 false y292 (wrap64 (x7_2 + 1))) = some r := by first | (rw [hy292]; with_reducible exact H) | (have H2_ := (Option.bind_some _ _).symm.trans H; rw [hy292]; with_reducible exact H2_) | (have H2_ := (Option.bind_some _ _).symm.trans H; with_reducible exact H2_) | with_reducible exact H | (rw [hy292]; exact H) | exact H
                              have Ny292 := Aside0.mk hy292
                              clear hy292
                              have H' := Aside0.mk H
                              clear H
                              go_wp2_with (first | ((with_reducible refine gate_dst (N := 37) rfl ?_); (try (refine gate_guard (by rfl) ?_; dsimp only)); refine Kd.R_lit (Kd.int .u8) _ 5 ?hg (N := 37) ?hd (xs := ([46] : List Int)) (inner := [.int .u8 46]) (ok := fun _ => True) (okp := fun _ => True) ?hr ?hp (fun _ hk => hk) trivial (Below.refl _ _) (Nat.le_refl _) (by simp) ?_; (case hd => rfl); (case hg => rfl); (case hr => first | (go_simp; done) | (go_simp; rfl)); (case hp => exact (Reps.one (show Kd.M (Kd.int .u8) _ _ _ 46 [.int .u8 46] from rfl) (Reps.none _ _))); intro v284 w25 ho26 hb hg_ hnew_; clear hg_ hnew_; (first | rw [← Ny283.out] at ho26 | (simp only [Int.reduceToNat] at ho26; rw [← Ny283.out] at ho26)); have n0_ := Aside0.mk (Kd.R_elder' (by (with_reducible repeat (first | apply Kd.R_alloc | apply Kd.R_drewN | apply Kd.R_drew)); exact HO_6.out) (Kd.R_base ho26) hb); have n1_ := Aside0.mk (Kd.R_lower (Kd.R_new' ho26 (Kd.R_lt (by (with_reducible repeat (first | apply Kd.R_alloc | apply Kd.R_drewN | apply Kd.R_drew)); exact HO_6.out))) (below_size (by repeat (first | (with_reducible first | exact HB.out | apply below_alloc | apply pw_below_drewN | apply below_drew1) | exact HB.out)))); have n2_ := Aside0.mk (below_step (by repeat (first | (with_reducible first | exact HB.out | apply below_alloc | apply pw_below_drewN | apply below_drew1) | exact HB.out)) hb); clear HO_6; clear HB; have HO_6 := n0_; have HO285 := n1_; have HB := n2_; clear n0_ n1_ n2_; clear hb ho26; obtain ⟨Ao28, co28, eo28⟩ := Kd.R_slice HO_6.out; subst eo28) | ((with_reducible refine gate_builtin (b := .append) (xs := #[.tmp 37, .tmp 38]) rfl ?_); (try (refine gate_guard (by rfl) ?_; dsimp only)); at_builtin; refine Kd.R_append_rows (Kd.int .u8) (w0 := w) w.heap.size rfl (.tmp 37) (.tmp 38) 31 5 (.int .u8 0) 1 rfl Tryd.underlying31 info5 rfl (by decide) (by omega) v284 y283 x6_2 _ _ _ (fun k_ => some k_ ≠ (.slice Ao28 x6_2.length co28 : Value).ownBlock) (fun _ => False) rfl rfl ?aO ?aR (fun _ _ h => h) (fun _ h => h.elim) ?aF ?aB ?aS ?aL ?_; (case aR => repeat (first | exact (Kd.R_reads' HO_6.out).2.2 | (with_reducible refine Kd.C_alloc ?_ _) | (with_reducible refine Kd.C_drewN ?_ _) | (with_reducible refine Kd.C_drew ?_))); (case aB => exact (by repeat (first | (with_reducible first | exact HB.out | apply below_alloc | apply pw_below_drewN | apply below_drew1) | exact HB.out))); (case aF => exact (fun k_ hk => Kd.fresh' (Kd.R_lt (by (with_reducible repeat (first | apply Kd.R_alloc | apply Kd.R_drewN | apply Kd.R_drew)); exact HO_6.out)) k_ hk)); (case aO => exact (by (with_reducible repeat (first | apply Kd.R_alloc | apply Kd.R_drewN | apply Kd.R_drew)); exact Kd.R_mono HO285.out (fun _ hk => hk.2))); (case aS => exact (below_size (by repeat (first | (with_reducible first | exact HB.out | apply below_alloc | apply pw_below_drewN | apply below_drew1) | exact HB.out)))); (case aL => have := LMc15.out; omega); intro v287 w27 ho hb hg hat; rw [← Ny286.out] at ho; have n0_ := Aside0.mk (Kd.R_after (ok := (fun _ => True)) (by (with_reducible repeat (first | apply Kd.R_alloc | apply Kd.R_drewN | apply Kd.R_drew)); exact HO_6.out) hg hat); have n1_ := Aside0.mk (hb); have n2_ := Aside0.mk (ho); clear HO_6; clear HB; clear HO285; have HO_6 := n0_; have HB := n1_; have HO288 := n2_; clear n0_ n1_ n2_; clear ho hb hg hat; obtain ⟨Ao29, co29, eo29⟩ := Kd.R_slice HO288.out; subst eo29) | ((with_reducible refine gate_dst (N := 59) rfl ?_); (try (refine gate_guard (by rfl) ?_; dsimp only)); refine Kd.R_lit (Kd.int .u8) _ 5 ?hg (N := 59) ?hd (xs := ([(wrap64 (48 + (Int.tmod x0_2 10))) % 256] : List Int)) (inner := [.int .u8 ((wrap64 (48 + (Int.tmod x0_2 10))) % 256)]) (ok := fun _ => True) (okp := fun _ => True) ?hr ?hp (fun _ hk => hk) trivial (Below.refl _ _) (Nat.le_refl _) (by simp) ?_; (case hd => rfl); (case hg => rfl); (case hr => first | (go_simp; done) | (go_simp; rfl)); (case hp => exact (Reps.one (show Kd.M (Kd.int .u8) _ _ _ ((wrap64 (48 + (Int.tmod x0_2 10))) % 256) [.int .u8 ((wrap64 (48 + (Int.tmod x0_2 10))) % 256)] from rfl) (Reps.none _ _))); intro v290 w30 ho31 hb hg_ hnew_; clear hg_ hnew_; (first | rw [← Ny289.out] at ho31 | (simp only [Int.reduceToNat] at ho31; rw [← Ny289.out] at ho31)); have n0_ := Aside0.mk (Kd.R_elder' (by (with_reducible repeat (first | apply Kd.R_alloc | apply Kd.R_drewN | apply Kd.R_drew)); exact HO_6.out) (Kd.R_base ho31) hb); have n1_ := Aside0.mk (Kd.R_elder' (by (with_reducible repeat (first | apply Kd.R_alloc | apply Kd.R_drewN | apply Kd.R_drew)); exact HO288.out) (Kd.R_base ho31) hb); have n2_ := Aside0.mk (Kd.R_lower (Kd.R_new' (Kd.R_new' ho31 (Kd.R_lt (by (with_reducible repeat (first | apply Kd.R_alloc | apply Kd.R_drewN | apply Kd.R_drew)); exact HO_6.out))) (Kd.R_lt (by (with_reducible repeat (first | apply Kd.R_alloc | apply Kd.R_drewN | apply Kd.R_drew)); exact HO288.out))) (below_size (by repeat (first | (with_reducible first | exact HB.out | apply below_alloc | apply pw_below_drewN | apply below_drew1) | exact HB.out)))); have n3_ := Aside0.mk (below_step (by repeat (first | (with_reducible first | exact HB.out | apply below_alloc | apply pw_below_drewN | apply below_drew1) | exact HB.out)) hb); clear HO_6; clear HO288; clear HB; have HO_6 := n0_; have HO288 := n1_; have HO291 := n2_; have HB := n3_; clear n0_ n1_ n2_ n3_; clear hb ho31) | ((with_reducible refine gate_builtin (b := .append) (xs := #[.tmp 59, .tmp 60]) rfl ?_); (try (refine gate_guard (by rfl) ?_; dsimp only)); at_builtin; refine Kd.R_append_rows (Kd.int .u8) (w0 := w) w.heap.size rfl (.tmp 59) (.tmp 60) 31 5 (.int .u8 0) 1 rfl Tryd.underlying31 info5 rfl (by decide) (by omega) v290 y289 y286 _ _ _ (fun k_ => some k_ ≠ (.slice Ao28 x6_2.length co28 : Value).ownBlock ∧ some k_ ≠ (.slice Ao29 y286.length co29 : Value).ownBlock) (fun _ => False) rfl rfl ?aO ?aR (fun _ _ h => h) (fun _ h => h.elim) ?aF ?aB ?aS ?aL ?_; (case aR => repeat (first | exact (Kd.R_reads' HO288.out).2.2 | (with_reducible refine Kd.C_alloc ?_ _) | (with_reducible refine Kd.C_drewN ?_ _) | (with_reducible refine Kd.C_drew ?_))); (case aB => exact (by repeat (first | (with_reducible first | exact HB.out | apply below_alloc | apply pw_below_drewN | apply below_drew1) | exact HB.out))); (case aF => exact (fun k_ hk => ⟨Kd.fresh' (Kd.R_lt (by (with_reducible repeat (first | apply Kd.R_alloc | apply Kd.R_drewN | apply Kd.R_drew)); exact HO_6.out)) k_ hk, Kd.fresh' (Kd.R_lt (by (with_reducible repeat (first | apply Kd.R_alloc | apply Kd.R_drewN | apply Kd.R_drew)); exact HO288.out)) k_ hk⟩)); (case aO => exact (by (with_reducible repeat (first | apply Kd.R_alloc | apply Kd.R_drewN | apply Kd.R_drew)); exact Kd.R_mono HO291.out (fun _ hk => ⟨hk.1.2, hk.2⟩))); (case aS => exact (below_size (by repeat (first | (with_reducible first | exact HB.out | apply below_alloc | apply pw_below_drewN | apply below_drew1) | exact HB.out)))); (case aL => have := LMc24.out; omega); intro v293 w32 ho hb hg hat; rw [← Ny292.out] at ho; have n0_ := Aside0.mk (Kd.R_after (ok := (fun k_ => some k_ ≠ (.slice Ao29 y286.length co29 : Value).ownBlock)) (by (with_reducible repeat (first | apply Kd.R_alloc | apply Kd.R_drewN | apply Kd.R_drew)); exact Kd.R_mono HO_6.out (fun _ hk => ⟨hk.1.2, hk.2⟩)) hg hat); have n1_ := Aside0.mk (Kd.R_after (ok := (fun k_ => some k_ ≠ (.slice Ao28 x6_2.length co28 : Value).ownBlock)) (by (with_reducible repeat (first | apply Kd.R_alloc | apply Kd.R_drewN | apply Kd.R_drew)); exact HO288.out) hg hat); have n2_ := Aside0.mk (hb); have n3_ := Aside0.mk (ho); clear HO_6; clear HO288; clear HB; clear HO291; have HO_6 := n0_; have HO288 := n1_; have HB := n2_; have HO294 := n3_; clear n0_ n1_ n2_ n3_; clear ho hb hg hat))
                              go_roundg kj10
                              case measure => have := HJ2.out; have := HK2.out; have := HJ6.out; have := HJ10.out; omega
                              case rel => exact ⟨(wrap64 (Int.tdiv x0_2 10)), (y292), (wrap64 (x7_2 + 1)), (by first | rfl | (simp; done) | (simp [*]; done)), (by first | rfl | (simp; done) | (simp [*]; done)), H', ⟨by have := HJ2.out; have := HK2.out; have := HJ6.out; have := HJ10.out; omega⟩, ⟨by (with_reducible repeat (first | apply Kd.R_alloc | apply Kd.R_drewN | apply Kd.R_drew)); exact Kd.R_mono HO294.out (fun _ hk => trivial)⟩, ⟨by repeat (first | (with_reducible first | exact HB.out | apply below_alloc | apply pw_below_drewN | apply below_drew1) | exact HB.out)⟩⟩
                            · rw [if_neg c24] at H
                              exact absurd H (by simp)
                        · rw [if_neg c17] at H
                          have c17b0 : ((y286.length : Int) == 0) = false := beq_eq_false_iff_ne.mpr c17
                          have c17b1 : ((y286.length : Int) != 0) = true := bne_iff_ne.mpr c17
                          have c17b2 : ¬ (y286 = []) := fun h_ => c17 (by rw [h_]; rfl)
                          obtain ⟨y295, hy295⟩ : ∃ y_ : List Int, y_ = (([(wrap64 (48 + (Int.tmod x0_2 10))) % 256] : List Int)) := ⟨_, rfl⟩
                          replace H : (if y295.length + y286.length < 140737488355328 then (spec_Decimal.l0 kj10 (wrap64 (Int.tdiv x0_2 10)) a1 false (y295 ++ y286) (wrap64 (x7_2 + 1))) else (none)) = some r := by first | (rw [hy295]; with_reducible exact H) | (have H2_ := (Option.bind_some _ _).symm.trans H; rw [hy295]; with_reducible exact H2_) | (have H2_ := (Option.bind_some _ _).symm.trans H; with_reducible exact H2_) | with_reducible exact H | (rw [hy295]; exact H) | exact H
                          have Ny295 := Aside0.mk hy295
                          clear hy295
                          by_cases c33 : y295.length + y286.length < 140737488355328
                          · rw [if_pos c33] at H
                            have LMc33 := Aside0.mk c33
                            clear c33
                            obtain ⟨y298, hy298⟩ : ∃ y_ : List Int, y_ = (y295 ++ y286) := ⟨_, rfl⟩
                            replace H : (spec_Decimal.l0 kj10 (wrap64 (Int.tdiv x0_2 10)) a1 false y298 (wrap64 (x7_2 + 1))) = some r := by first | (rw [hy298]; with_reducible exact H) | (have H2_ := (Option.bind_some _ _).symm.trans H; rw [hy298]; with_reducible exact H2_) | (have H2_ := (Option.bind_some _ _).symm.trans H; with_reducible exact H2_) | with_reducible exact H | (rw [hy298]; exact H) | exact H
                            have Ny298 := Aside0.mk hy298
                            clear hy298
                            have H' := Aside0.mk H
                            clear H
                            go_wp2_with (first | ((with_reducible refine gate_dst (N := 37) rfl ?_); (try (refine gate_guard (by rfl) ?_; dsimp only)); refine Kd.R_lit (Kd.int .u8) _ 5 ?hg (N := 37) ?hd (xs := ([46] : List Int)) (inner := [.int .u8 46]) (ok := fun _ => True) (okp := fun _ => True) ?hr ?hp (fun _ hk => hk) trivial (Below.refl _ _) (Nat.le_refl _) (by simp) ?_; (case hd => rfl); (case hg => rfl); (case hr => first | (go_simp; done) | (go_simp; rfl)); (case hp => exact (Reps.one (show Kd.M (Kd.int .u8) _ _ _ 46 [.int .u8 46] from rfl) (Reps.none _ _))); intro v284 w34 ho35 hb hg_ hnew_; clear hg_ hnew_; (first | rw [← Ny283.out] at ho35 | (simp only [Int.reduceToNat] at ho35; rw [← Ny283.out] at ho35)); have n0_ := Aside0.mk (Kd.R_elder' (by (with_reducible repeat (first | apply Kd.R_alloc | apply Kd.R_drewN | apply Kd.R_drew)); exact HO_6.out) (Kd.R_base ho35) hb); have n1_ := Aside0.mk (Kd.R_lower (Kd.R_new' ho35 (Kd.R_lt (by (with_reducible repeat (first | apply Kd.R_alloc | apply Kd.R_drewN | apply Kd.R_drew)); exact HO_6.out))) (below_size (by repeat (first | (with_reducible first | exact HB.out | apply below_alloc | apply pw_below_drewN | apply below_drew1) | exact HB.out)))); have n2_ := Aside0.mk (below_step (by repeat (first | (with_reducible first | exact HB.out | apply below_alloc | apply pw_below_drewN | apply below_drew1) | exact HB.out)) hb); clear HO_6; clear HB; have HO_6 := n0_; have HO285 := n1_; have HB := n2_; clear n0_ n1_ n2_; clear hb ho35; obtain ⟨Ao37, co37, eo37⟩ := Kd.R_slice HO_6.out; subst eo37) | ((with_reducible refine gate_builtin (b := .append) (xs := #[.tmp 37, .tmp 38]) rfl ?_); (try (refine gate_guard (by rfl) ?_; dsimp only)); at_builtin; refine Kd.R_append_rows (Kd.int .u8) (w0 := w) w.heap.size rfl (.tmp 37) (.tmp 38) 31 5 (.int .u8 0) 1 rfl Tryd.underlying31 info5 rfl (by decide) (by omega) v284 y283 x6_2 _ _ _ (fun k_ => some k_ ≠ (.slice Ao37 x6_2.length co37 : Value).ownBlock) (fun _ => False) rfl rfl ?aO ?aR (fun _ _ h => h) (fun _ h => h.elim) ?aF ?aB ?aS ?aL ?_; (case aR => repeat (first | exact (Kd.R_reads' HO_6.out).2.2 | (with_reducible refine Kd.C_alloc ?_ _) | (with_reducible refine Kd.C_drewN ?_ _) | (with_reducible refine Kd.C_drew ?_))); (case aB => exact (by repeat (first | (with_reducible first | exact HB.out | apply below_alloc | apply pw_below_drewN | apply below_drew1) | exact HB.out))); (case aF => exact (fun k_ hk => Kd.fresh' (Kd.R_lt (by (with_reducible repeat (first | apply Kd.R_alloc | apply Kd.R_drewN | apply Kd.R_drew)); exact HO_6.out)) k_ hk)); (case aO => exact (by (with_reducible repeat (first | apply Kd.R_alloc | apply Kd.R_drewN | apply Kd.R_drew)); exact Kd.R_mono HO285.out (fun _ hk => hk.2))); (case aS => exact (below_size (by repeat (first | (with_reducible first | exact HB.out | apply below_alloc | apply pw_below_drewN | apply below_drew1) | exact HB.out)))); (case aL => have := LMc15.out; omega); intro v287 w36 ho hb hg hat; rw [← Ny286.out] at ho; have n0_ := Aside0.mk (Kd.R_after (ok := (fun _ => True)) (by (with_reducible repeat (first | apply Kd.R_alloc | apply Kd.R_drewN | apply Kd.R_drew)); exact HO_6.out) hg hat); have n1_ := Aside0.mk (hb); have n2_ := Aside0.mk (ho); clear HO_6; clear HB; clear HO285; have HO_6 := n0_; have HB := n1_; have HO288 := n2_; clear n0_ n1_ n2_; clear ho hb hg hat; obtain ⟨Ao38, co38, eo38⟩ := Kd.R_slice HO288.out; subst eo38) | ((with_reducible refine gate_dst (N := 59) rfl ?_); (try (refine gate_guard (by rfl) ?_; dsimp only)); refine Kd.R_lit (Kd.int .u8) _ 5 ?hg (N := 59) ?hd (xs := ([(wrap64 (48 + (Int.tmod x0_2 10))) % 256] : List Int)) (inner := [.int .u8 ((wrap64 (48 + (Int.tmod x0_2 10))) % 256)]) (ok := fun _ => True) (okp := fun _ => True) ?hr ?hp (fun _ hk => hk) trivial (Below.refl _ _) (Nat.le_refl _) (by simp) ?_; (case hd => rfl); (case hg => rfl); (case hr => first | (go_simp; done) | (go_simp; rfl)); (case hp => exact (Reps.one (show Kd.M (Kd.int .u8) _ _ _ ((wrap64 (48 + (Int.tmod x0_2 10))) % 256) [.int .u8 ((wrap64 (48 + (Int.tmod x0_2 10))) % 256)] from rfl) (Reps.none _ _))); intro v296 w39 ho40 hb hg_ hnew_; clear hg_ hnew_; (first | rw [← Ny295.out] at ho40 | (simp only [Int.reduceToNat] at ho40; rw [← Ny295.out] at ho40)); have n0_ := Aside0.mk (Kd.R_elder' (by (with_reducible repeat (first | apply Kd.R_alloc | apply Kd.R_drewN | apply Kd.R_drew)); exact HO_6.out) (Kd.R_base ho40) hb); have n1_ := Aside0.mk (Kd.R_elder' (by (with_reducible repeat (first | apply Kd.R_alloc | apply Kd.R_drewN | apply Kd.R_drew)); exact HO288.out) (Kd.R_base ho40) hb); have n2_ := Aside0.mk (Kd.R_lower (Kd.R_new' (Kd.R_new' ho40 (Kd.R_lt (by (with_reducible repeat (first | apply Kd.R_alloc | apply Kd.R_drewN | apply Kd.R_drew)); exact HO_6.out))) (Kd.R_lt (by (with_reducible repeat (first | apply Kd.R_alloc | apply Kd.R_drewN | apply Kd.R_drew)); exact HO288.out))) (below_size (by repeat (first | (with_reducible first | exact HB.out | apply below_alloc | apply pw_below_drewN | apply below_drew1) | exact HB.out)))); have n3_ := Aside0.mk (below_step (by repeat (first | (with_reducible first | exact HB.out | apply below_alloc | apply pw_below_drewN | apply below_drew1) | exact HB.out)) hb); clear HO_6; clear HO288; clear HB; have HO_6 := n0_; have HO288 := n1_; have HO297 := n2_; have HB := n3_; clear n0_ n1_ n2_ n3_; clear hb ho40) | ((with_reducible refine gate_builtin (b := .append) (xs := #[.tmp 59, .tmp 60]) rfl ?_); (try (refine gate_guard (by rfl) ?_; dsimp only)); at_builtin; refine Kd.R_append_rows (Kd.int .u8) (w0 := w) w.heap.size rfl (.tmp 59) (.tmp 60) 31 5 (.int .u8 0) 1 rfl Tryd.underlying31 info5 rfl (by decide) (by omega) v296 y295 y286 _ _ _ (fun k_ => some k_ ≠ (.slice Ao37 x6_2.length co37 : Value).ownBlock ∧ some k_ ≠ (.slice Ao38 y286.length co38 : Value).ownBlock) (fun _ => False) rfl rfl ?aO ?aR (fun _ _ h => h) (fun _ h => h.elim) ?aF ?aB ?aS ?aL ?_; (case aR => repeat (first | exact (Kd.R_reads' HO288.out).2.2 | (with_reducible refine Kd.C_alloc ?_ _) | (with_reducible refine Kd.C_drewN ?_ _) | (with_reducible refine Kd.C_drew ?_))); (case aB => exact (by repeat (first | (with_reducible first | exact HB.out | apply below_alloc | apply pw_below_drewN | apply below_drew1) | exact HB.out))); (case aF => exact (fun k_ hk => ⟨Kd.fresh' (Kd.R_lt (by (with_reducible repeat (first | apply Kd.R_alloc | apply Kd.R_drewN | apply Kd.R_drew)); exact HO_6.out)) k_ hk, Kd.fresh' (Kd.R_lt (by (with_reducible repeat (first | apply Kd.R_alloc | apply Kd.R_drewN | apply Kd.R_drew)); exact HO288.out)) k_ hk⟩)); (case aO => exact (by (with_reducible repeat (first | apply Kd.R_alloc | apply Kd.R_drewN | apply Kd.R_drew)); exact Kd.R_mono HO297.out (fun _ hk => ⟨hk.1.2, hk.2⟩))); (case aS => exact (below_size (by repeat (first | (with_reducible first | exact HB.out | apply below_alloc | apply pw_below_drewN | apply below_drew1) | exact HB.out)))); (case aL => have := LMc33.out; omega); intro v299 w41 ho hb hg hat; rw [← Ny298.out] at ho; have n0_ := Aside0.mk (Kd.R_after (ok := (fun k_ => some k_ ≠ (.slice Ao38 y286.length co38 : Value).ownBlock)) (by (with_reducible repeat (first | apply Kd.R_alloc | apply Kd.R_drewN | apply Kd.R_drew)); exact Kd.R_mono HO_6.out (fun _ hk => ⟨hk.1.2, hk.2⟩)) hg hat); have n1_ := Aside0.mk (Kd.R_after (ok := (fun k_ => some k_ ≠ (.slice Ao37 x6_2.length co37 : Value).ownBlock)) (by (with_reducible repeat (first | apply Kd.R_alloc | apply Kd.R_drewN | apply Kd.R_drew)); exact HO288.out) hg hat); have n2_ := Aside0.mk (hb); have n3_ := Aside0.mk (ho); clear HO_6; clear HO288; clear HB; clear HO297; have HO_6 := n0_; have HO288 := n1_; have HB := n2_; have HO300 := n3_; clear n0_ n1_ n2_ n3_; clear ho hb hg hat))
                            go_roundg kj10
                            case measure => have := HJ2.out; have := HK2.out; have := HJ6.out; have := HJ10.out; omega
                            case rel => exact ⟨(wrap64 (Int.tdiv x0_2 10)), (y298), (wrap64 (x7_2 + 1)), (by first | rfl | (simp; done) | (simp [*]; done)), (by first | rfl | (simp; done) | (simp [*]; done)), H', ⟨by have := HJ2.out; have := HK2.out; have := HJ6.out; have := HJ10.out; omega⟩, ⟨by (with_reducible repeat (first | apply Kd.R_alloc | apply Kd.R_drewN | apply Kd.R_drew)); exact Kd.R_mono HO300.out (fun _ hk => trivial)⟩, ⟨by repeat (first | (with_reducible first | exact HB.out | apply below_alloc | apply pw_below_drewN | apply below_drew1) | exact HB.out)⟩⟩
                          · rw [if_neg c33] at H
                            exact absurd H (by simp)
                      · rw [if_neg c16] at H
                        have c16b0 : decide (x7_2 < a1) = false := decide_eq_false c16
                        clear c16
                        obtain ⟨y301, hy301⟩ : ∃ y_ : List Int, y_ = (([(wrap64 (48 + (Int.tmod x0_2 10))) % 256] : List Int)) := ⟨_, rfl⟩
                        replace H : (if y301.length + y286.length < 140737488355328 then (spec_Decimal.l0 kj10 (wrap64 (Int.tdiv x0_2 10)) a1 false (y301 ++ y286) (wrap64 (x7_2 + 1))) else (none)) = some r := by first | (rw [hy301]; with_reducible exact H) | (have H2_ := (Option.bind_some _ _).symm.trans H; rw [hy301]; with_reducible exact H2_) | (have H2_ := (Option.bind_some _ _).symm.trans H; with_reducible exact H2_) | with_reducible exact H | (rw [hy301]; exact H) | exact H
                        have Ny301 := Aside0.mk hy301
                        clear hy301
                        by_cases c42 : y301.length + y286.length < 140737488355328
                        · rw [if_pos c42] at H
                          have LMc42 := Aside0.mk c42
                          clear c42
                          obtain ⟨y304, hy304⟩ : ∃ y_ : List Int, y_ = (y301 ++ y286) := ⟨_, rfl⟩
                          replace H : (spec_Decimal.l0 kj10 (wrap64 (Int.tdiv x0_2 10)) a1 false y304 (wrap64 (x7_2 + 1))) = some r := by first | (rw [hy304]; with_reducible exact H) | (have H2_ := (Option.bind_some _ _).symm.trans H; rw [hy304]; with_reducible exact H2_) | (have H2_ := (Option.bind_some _ _).symm.trans H; with_reducible exact H2_) | with_reducible exact H | (rw [hy304]; exact H) | exact H
                          have Ny304 := Aside0.mk hy304
                          clear hy304
                          have H' := Aside0.mk H
                          clear H
                          go_wp2_with (first | ((with_reducible refine gate_dst (N := 37) rfl ?_); (try (refine gate_guard (by rfl) ?_; dsimp only)); refine Kd.R_lit (Kd.int .u8) _ 5 ?hg (N := 37) ?hd (xs := ([46] : List Int)) (inner := [.int .u8 46]) (ok := fun _ => True) (okp := fun _ => True) ?hr ?hp (fun _ hk => hk) trivial (Below.refl _ _) (Nat.le_refl _) (by simp) ?_; (case hd => rfl); (case hg => rfl); (case hr => first | (go_simp; done) | (go_simp; rfl)); (case hp => exact (Reps.one (show Kd.M (Kd.int .u8) _ _ _ 46 [.int .u8 46] from rfl) (Reps.none _ _))); intro v284 w43 ho44 hb hg_ hnew_; clear hg_ hnew_; (first | rw [← Ny283.out] at ho44 | (simp only [Int.reduceToNat] at ho44; rw [← Ny283.out] at ho44)); have n0_ := Aside0.mk (Kd.R_elder' (by (with_reducible repeat (first | apply Kd.R_alloc | apply Kd.R_drewN | apply Kd.R_drew)); exact HO_6.out) (Kd.R_base ho44) hb); have n1_ := Aside0.mk (Kd.R_lower (Kd.R_new' ho44 (Kd.R_lt (by (with_reducible repeat (first | apply Kd.R_alloc | apply Kd.R_drewN | apply Kd.R_drew)); exact HO_6.out))) (below_size (by repeat (first | (with_reducible first | exact HB.out | apply below_alloc | apply pw_below_drewN | apply below_drew1) | exact HB.out)))); have n2_ := Aside0.mk (below_step (by repeat (first | (with_reducible first | exact HB.out | apply below_alloc | apply pw_below_drewN | apply below_drew1) | exact HB.out)) hb); clear HO_6; clear HB; have HO_6 := n0_; have HO285 := n1_; have HB := n2_; clear n0_ n1_ n2_; clear hb ho44; obtain ⟨Ao46, co46, eo46⟩ := Kd.R_slice HO_6.out; subst eo46) | ((with_reducible refine gate_builtin (b := .append) (xs := #[.tmp 37, .tmp 38]) rfl ?_); (try (refine gate_guard (by rfl) ?_; dsimp only)); at_builtin; refine Kd.R_append_rows (Kd.int .u8) (w0 := w) w.heap.size rfl (.tmp 37) (.tmp 38) 31 5 (.int .u8 0) 1 rfl Tryd.underlying31 info5 rfl (by decide) (by omega) v284 y283 x6_2 _ _ _ (fun k_ => some k_ ≠ (.slice Ao46 x6_2.length co46 : Value).ownBlock) (fun _ => False) rfl rfl ?aO ?aR (fun _ _ h => h) (fun _ h => h.elim) ?aF ?aB ?aS ?aL ?_; (case aR => repeat (first | exact (Kd.R_reads' HO_6.out).2.2 | (with_reducible refine Kd.C_alloc ?_ _) | (with_reducible refine Kd.C_drewN ?_ _) | (with_reducible refine Kd.C_drew ?_))); (case aB => exact (by repeat (first | (with_reducible first | exact HB.out | apply below_alloc | apply pw_below_drewN | apply below_drew1) | exact HB.out))); (case aF => exact (fun k_ hk => Kd.fresh' (Kd.R_lt (by (with_reducible repeat (first | apply Kd.R_alloc | apply Kd.R_drewN | apply Kd.R_drew)); exact HO_6.out)) k_ hk)); (case aO => exact (by (with_reducible repeat (first | apply Kd.R_alloc | apply Kd.R_drewN | apply Kd.R_drew)); exact Kd.R_mono HO285.out (fun _ hk => hk.2))); (case aS => exact (below_size (by repeat (first | (with_reducible first | exact HB.out | apply below_alloc | apply pw_below_drewN | apply below_drew1) | exact HB.out)))); (case aL => have := LMc15.out; omega); intro v287 w45 ho hb hg hat; rw [← Ny286.out] at ho; have n0_ := Aside0.mk (Kd.R_after (ok := (fun _ => True)) (by (with_reducible repeat (first | apply Kd.R_alloc | apply Kd.R_drewN | apply Kd.R_drew)); exact HO_6.out) hg hat); have n1_ := Aside0.mk (hb); have n2_ := Aside0.mk (ho); clear HO_6; clear HB; clear HO285; have HO_6 := n0_; have HB := n1_; have HO288 := n2_; clear n0_ n1_ n2_; clear ho hb hg hat) | ((with_reducible refine gate_dst (N := 59) rfl ?_); (try (refine gate_guard (by rfl) ?_; dsimp only)); refine Kd.R_lit (Kd.int .u8) _ 5 ?hg (N := 59) ?hd (xs := ([(wrap64 (48 + (Int.tmod x0_2 10))) % 256] : List Int)) (inner := [.int .u8 ((wrap64 (48 + (Int.tmod x0_2 10))) % 256)]) (ok := fun _ => True) (okp := fun _ => True) ?hr ?hp (fun _ hk => hk) trivial (Below.refl _ _) (Nat.le_refl _) (by simp) ?_; (case hd => rfl); (case hg => rfl); (case hr => first | (go_simp; done) | (go_simp; rfl)); (case hp => exact (Reps.one (show Kd.M (Kd.int .u8) _ _ _ ((wrap64 (48 + (Int.tmod x0_2 10))) % 256) [.int .u8 ((wrap64 (48 + (Int.tmod x0_2 10))) % 256)] from rfl) (Reps.none _ _))); intro v302 w47 ho48 hb hg_ hnew_; clear hg_ hnew_; (first | rw [← Ny301.out] at ho48 | (simp only [Int.reduceToNat] at ho48; rw [← Ny301.out] at ho48)); have n0_ := Aside0.mk (Kd.R_elder' (by (with_reducible repeat (first | apply Kd.R_alloc | apply Kd.R_drewN | apply Kd.R_drew)); exact HO_6.out) (Kd.R_base ho48) hb); have n1_ := Aside0.mk (Kd.R_elder' (by (with_reducible repeat (first | apply Kd.R_alloc | apply Kd.R_drewN | apply Kd.R_drew)); exact HO288.out) (Kd.R_base ho48) hb); have n2_ := Aside0.mk (Kd.R_lower (Kd.R_new' (Kd.R_new' ho48 (Kd.R_lt (by (with_reducible repeat (first | apply Kd.R_alloc | apply Kd.R_drewN | apply Kd.R_drew)); exact HO_6.out))) (Kd.R_lt (by (with_reducible repeat (first | apply Kd.R_alloc | apply Kd.R_drewN | apply Kd.R_drew)); exact HO288.out))) (below_size (by repeat (first | (with_reducible first | exact HB.out | apply below_alloc | apply pw_below_drewN | apply below_drew1) | exact HB.out)))); have n3_ := Aside0.mk (below_step (by repeat (first | (with_reducible first | exact HB.out | apply below_alloc | apply pw_below_drewN | apply below_drew1) | exact HB.out)) hb); clear HO_6; clear HO288; clear HB; have HO_6 := n0_; have HO288 := n1_; have HO303 := n2_; have HB := n3_; clear n0_ n1_ n2_ n3_; clear hb ho48; obtain ⟨Ao50, co50, eo50⟩ := Kd.R_slice HO288.out; subst eo50) | ((with_reducible refine gate_builtin (b := .append) (xs := #[.tmp 59, .tmp 60]) rfl ?_); (try (refine gate_guard (by rfl) ?_; dsimp only)); at_builtin; refine Kd.R_append_rows (Kd.int .u8) (w0 := w) w.heap.size rfl (.tmp 59) (.tmp 60) 31 5 (.int .u8 0) 1 rfl Tryd.underlying31 info5 rfl (by decide) (by omega) v302 y301 y286 _ _ _ (fun k_ => some k_ ≠ (.slice Ao46 x6_2.length co46 : Value).ownBlock ∧ some k_ ≠ (.slice Ao50 y286.length co50 : Value).ownBlock) (fun _ => False) rfl rfl ?aO ?aR (fun _ _ h => h) (fun _ h => h.elim) ?aF ?aB ?aS ?aL ?_; (case aR => repeat (first | exact (Kd.R_reads' HO288.out).2.2 | (with_reducible refine Kd.C_alloc ?_ _) | (with_reducible refine Kd.C_drewN ?_ _) | (with_reducible refine Kd.C_drew ?_))); (case aB => exact (by repeat (first | (with_reducible first | exact HB.out | apply below_alloc | apply pw_below_drewN | apply below_drew1) | exact HB.out))); (case aF => exact (fun k_ hk => ⟨Kd.fresh' (Kd.R_lt (by (with_reducible repeat (first | apply Kd.R_alloc | apply Kd.R_drewN | apply Kd.R_drew)); exact HO_6.out)) k_ hk, Kd.fresh' (Kd.R_lt (by (with_reducible repeat (first | apply Kd.R_alloc | apply Kd.R_drewN | apply Kd.R_drew)); exact HO288.out)) k_ hk⟩)); (case aO => exact (by (with_reducible repeat (first | apply Kd.R_alloc | apply Kd.R_drewN | apply Kd.R_drew)); exact Kd.R_mono HO303.out (fun _ hk => ⟨hk.1.2, hk.2⟩))); (case aS => exact (below_size (by repeat (first | (with_reducible first | exact HB.out | apply below_alloc | apply pw_below_drewN | apply below_drew1) | exact HB.out)))); (case aL => have := LMc42.out; omega); intro v305 w49 ho hb hg hat; rw [← Ny304.out] at ho; have n0_ := Aside0.mk (Kd.R_after (ok := (fun k_ => some k_ ≠ (.slice Ao50 y286.length co50 : Value).ownBlock)) (by (with_reducible repeat (first | apply Kd.R_alloc | apply Kd.R_drewN | apply Kd.R_drew)); exact Kd.R_mono HO_6.out (fun _ hk => ⟨hk.1.2, hk.2⟩)) hg hat); have n1_ := Aside0.mk (Kd.R_after (ok := (fun k_ => some k_ ≠ (.slice Ao46 x6_2.length co46 : Value).ownBlock)) (by (with_reducible repeat (first | apply Kd.R_alloc | apply Kd.R_drewN | apply Kd.R_drew)); exact HO288.out) hg hat); have n2_ := Aside0.mk (hb); have n3_ := Aside0.mk (ho); clear HO_6; clear HO288; clear HB; clear HO303; have HO_6 := n0_; have HO288 := n1_; have HB := n2_; have HO306 := n3_; clear n0_ n1_ n2_ n3_; clear ho hb hg hat))
                          go_roundg kj10
                          case measure => have := HJ2.out; have := HK2.out; have := HJ6.out; have := HJ10.out; omega
                          case rel => exact ⟨(wrap64 (Int.tdiv x0_2 10)), (y304), (wrap64 (x7_2 + 1)), (by first | rfl | (simp; done) | (simp [*]; done)), (by first | rfl | (simp; done) | (simp [*]; done)), H', ⟨by have := HJ2.out; have := HK2.out; have := HJ6.out; have := HJ10.out; omega⟩, ⟨by (with_reducible repeat (first | apply Kd.R_alloc | apply Kd.R_drewN | apply Kd.R_drew)); exact Kd.R_mono HO306.out (fun _ hk => trivial)⟩, ⟨by repeat (first | (with_reducible first | exact HB.out | apply below_alloc | apply pw_below_drewN | apply below_drew1) | exact HB.out)⟩⟩
                        · rw [if_neg c42] at H
                          exact absurd H (by simp)
                    · rw [if_neg c15] at H
                      exact absurd H (by simp)
                  · replace c14 := Bool.eq_false_iff.mpr c14
                    subst c14
                    have H1 : (if x7_2 < a1 then (if (x6_2.length : Int) = 0 then (if ((wrap64 (48 + (Int.tmod x0_2 10))) % 256) = 48 then (spec_Decimal.l0 kj10 (wrap64 (Int.tdiv x0_2 10)) a1 false x6_2 (wrap64 (x7_2 + 1))) else ((some (([(wrap64 (48 + (Int.tmod x0_2 10))) % 256] : List Int) : List Int)).bind fun y307 => (if y307.length + x6_2.length < 140737488355328 then (spec_Decimal.l0 kj10 (wrap64 (Int.tdiv x0_2 10)) a1 false (y307 ++ x6_2) (wrap64 (x7_2 + 1))) else (none)))) else ((some (([(wrap64 (48 + (Int.tmod x0_2 10))) % 256] : List Int) : List Int)).bind fun y313 => (if y313.length + x6_2.length < 140737488355328 then (spec_Decimal.l0 kj10 (wrap64 (Int.tdiv x0_2 10)) a1 false (y313 ++ x6_2) (wrap64 (x7_2 + 1))) else (none)))) else ((some (([(wrap64 (48 + (Int.tmod x0_2 10))) % 256] : List Int) : List Int)).bind fun y319 => (if y319.length + x6_2.length < 140737488355328 then (spec_Decimal.l0 kj10 (wrap64 (Int.tdiv x0_2 10)) a1 false (y319 ++ x6_2) (wrap64 (x7_2 + 1))) else (none)))) = some r := by rw [if_neg (show ¬ (false = true) by decide)] at H; exact H
                    clear H
                    have H := H1
                    clear H1
                    by_cases c51 : x7_2 < a1
                    · rw [if_pos c51] at H
                      have c51b0 : decide (x7_2 < a1) = true := decide_eq_true c51
                      clear c51
                      by_cases c52 : (x6_2.length : Int) = 0
                      · rw [if_pos c52] at H
                        have c52b0 : ((x6_2.length : Int) == 0) = true := beq_iff_eq.mpr c52
                        have c52b1 : ((x6_2.length : Int) != 0) = false := bne_eq_false_iff_eq.mpr c52
                        clear c52
                        by_cases c53 : ((wrap64 (48 + (Int.tmod x0_2 10))) % 256) = 48
                        · rw [if_pos c53] at H
                          have c53b0 : (((wrap64 (48 + (Int.tmod x0_2 10))) % 256) == 48) = true := beq_iff_eq.mpr c53
                          have c53b1 : (((wrap64 (48 + (Int.tmod x0_2 10))) % 256) != 48) = false := bne_eq_false_iff_eq.mpr c53
                          clear c53
                          have H' := Aside0.mk H
                          clear H
                          obtain ⟨Ao54, co54, eo54⟩ := Kd.R_slice HO_6.out
                          subst eo54
                          go_wp2
                          go_roundg kj10
                          case measure => have := HJ2.out; have := HK2.out; have := HJ6.out; have := HJ10.out; omega
                          case rel => exact ⟨(wrap64 (Int.tdiv x0_2 10)), (x6_2), (wrap64 (x7_2 + 1)), (by first | rfl | (simp; done) | (simp [*]; done)), (by first | rfl | (simp; done) | (simp [*]; done)), H', ⟨by have := HJ2.out; have := HK2.out; have := HJ6.out; have := HJ10.out; omega⟩, ⟨by (with_reducible repeat (first | apply Kd.R_alloc | apply Kd.R_drewN | apply Kd.R_drew)); exact HO_6.out⟩, ⟨by repeat (first | (with_reducible first | exact HB.out | apply below_alloc | apply pw_below_drewN | apply below_drew1) | exact HB.out)⟩⟩
                        · rw [if_neg c53] at H
                          have c53b0 : (((wrap64 (48 + (Int.tmod x0_2 10))) % 256) == 48) = false := beq_eq_false_iff_ne.mpr c53
                          have c53b1 : (((wrap64 (48 + (Int.tmod x0_2 10))) % 256) != 48) = true := bne_iff_ne.mpr c53
                          obtain ⟨y307, hy307⟩ : ∃ y_ : List Int, y_ = (([(wrap64 (48 + (Int.tmod x0_2 10))) % 256] : List Int)) := ⟨_, rfl⟩
                          replace H : (if y307.length + x6_2.length < 140737488355328 then (spec_Decimal.l0 kj10 (wrap64 (Int.tdiv x0_2 10)) a1 false (y307 ++ x6_2) (wrap64 (x7_2 + 1))) else (none)) = some r := by first | (rw [hy307]; with_reducible exact H) | (have H2_ := (Option.bind_some _ _).symm.trans H; rw [hy307]; with_reducible exact H2_) | (have H2_ := (Option.bind_some _ _).symm.trans H; with_reducible exact H2_) | with_reducible exact H | (rw [hy307]; exact H) | exact H
                          have Ny307 := Aside0.mk hy307
                          clear hy307
                          by_cases c55 : y307.length + x6_2.length < 140737488355328
                          · rw [if_pos c55] at H
                            have LMc55 := Aside0.mk c55
                            clear c55
                            obtain ⟨y310, hy310⟩ : ∃ y_ : List Int, y_ = (y307 ++ x6_2) := ⟨_, rfl⟩
                            replace H : (spec_Decimal.l0 kj10 (wrap64 (Int.tdiv x0_2 10)) a1 false y310 (wrap64 (x7_2 + 1))) = some r := by first | (rw [hy310]; with_reducible exact H) | (have H2_ := (Option.bind_some _ _).symm.trans H; rw [hy310]; with_reducible exact H2_) | (have H2_ := (Option.bind_some _ _).symm.trans H; with_reducible exact H2_) | with_reducible exact H | (rw [hy310]; exact H) | exact H
                            have Ny310 := Aside0.mk hy310
                            clear hy310
                            have H' := Aside0.mk H
                            clear H
                            obtain ⟨Ao56, co56, eo56⟩ := Kd.R_slice HO_6.out
                            subst eo56
                            go_wp2_with (first | ((with_reducible refine gate_dst (N := 59) rfl ?_); (try (refine gate_guard (by rfl) ?_; dsimp only)); refine Kd.R_lit (Kd.int .u8) _ 5 ?hg (N := 59) ?hd (xs := ([(wrap64 (48 + (Int.tmod x0_2 10))) % 256] : List Int)) (inner := [.int .u8 ((wrap64 (48 + (Int.tmod x0_2 10))) % 256)]) (ok := fun _ => True) (okp := fun _ => True) ?hr ?hp (fun _ hk => hk) trivial (Below.refl _ _) (Nat.le_refl _) (by simp) ?_; (case hd => rfl); (case hg => rfl); (case hr => first | (go_simp; done) | (go_simp; rfl)); (case hp => exact (Reps.one (show Kd.M (Kd.int .u8) _ _ _ ((wrap64 (48 + (Int.tmod x0_2 10))) % 256) [.int .u8 ((wrap64 (48 + (Int.tmod x0_2 10))) % 256)] from rfl) (Reps.none _ _))); intro v308 w57 ho58 hb hg_ hnew_; clear hg_ hnew_; (first | rw [← Ny307.out] at ho58 | (simp only [Int.reduceToNat] at ho58; rw [← Ny307.out] at ho58)); have n0_ := Aside0.mk (Kd.R_elder' (by (with_reducible repeat (first | apply Kd.R_alloc | apply Kd.R_drewN | apply Kd.R_drew)); exact HO_6.out) (Kd.R_base ho58) hb); have n1_ := Aside0.mk (Kd.R_lower (Kd.R_new' ho58 (Kd.R_lt (by (with_reducible repeat (first | apply Kd.R_alloc | apply Kd.R_drewN | apply Kd.R_drew)); exact HO_6.out))) (below_size (by repeat (first | (with_reducible first | exact HB.out | apply below_alloc | apply pw_below_drewN | apply below_drew1) | exact HB.out)))); have n2_ := Aside0.mk (below_step (by repeat (first | (with_reducible first | exact HB.out | apply below_alloc | apply pw_below_drewN | apply below_drew1) | exact HB.out)) hb); clear HO_6; clear HB; have HO_6 := n0_; have HO309 := n1_; have HB := n2_; clear n0_ n1_ n2_; clear hb ho58) | ((with_reducible refine gate_builtin (b := .append) (xs := #[.tmp 59, .tmp 60]) rfl ?_); (try (refine gate_guard (by rfl) ?_; dsimp only)); at_builtin; refine Kd.R_append_rows (Kd.int .u8) (w0 := w) w.heap.size rfl (.tmp 59) (.tmp 60) 31 5 (.int .u8 0) 1 rfl Tryd.underlying31 info5 rfl (by decide) (by omega) v308 y307 x6_2 _ _ _ (fun k_ => some k_ ≠ (.slice Ao56 x6_2.length co56 : Value).ownBlock) (fun _ => False) rfl rfl ?aO ?aR (fun _ _ h => h) (fun _ h => h.elim) ?aF ?aB ?aS ?aL ?_; (case aR => repeat (first | exact (Kd.R_reads' HO_6.out).2.2 | (with_reducible refine Kd.C_alloc ?_ _) | (with_reducible refine Kd.C_drewN ?_ _) | (with_reducible refine Kd.C_drew ?_))); (case aB => exact (by repeat (first | (with_reducible first | exact HB.out | apply below_alloc | apply pw_below_drewN | apply below_drew1) | exact HB.out))); (case aF => exact (fun k_ hk => Kd.fresh' (Kd.R_lt (by (with_reducible repeat (first | apply Kd.R_alloc | apply Kd.R_drewN | apply Kd.R_drew)); exact HO_6.out)) k_ hk)); (case aO => exact (by (with_reducible repeat (first | apply Kd.R_alloc | apply Kd.R_drewN | apply Kd.R_drew)); exact Kd.R_mono HO309.out (fun _ hk => hk.2))); (case aS => exact (below_size (by repeat (first | (with_reducible first | exact HB.out | apply below_alloc | apply pw_below_drewN | apply below_drew1) | exact HB.out)))); (case aL => have := LMc55.out; omega); intro v311 w59 ho hb hg hat; rw [← Ny310.out] at ho; have n0_ := Aside0.mk (Kd.R_after (ok := (fun _ => True)) (by (with_reducible repeat (first | apply Kd.R_alloc | apply Kd.R_drewN | apply Kd.R_drew)); exact HO_6.out) hg hat); have n1_ := Aside0.mk (hb); have n2_ := Aside0.mk (ho); clear HO_6; clear HB; clear HO309; have HO_6 := n0_; have HB := n1_; have HO312 := n2_; clear n0_ n1_ n2_; clear ho hb hg hat))
                            go_roundg kj10
                            case measure => have := HJ2.out; have := HK2.out; have := HJ6.out; have := HJ10.out; omega
                            case rel => exact ⟨(wrap64 (Int.tdiv x0_2 10)), (y310), (wrap64 (x7_2 + 1)), (by first | rfl | (simp; done) | (simp [*]; done)), (by first | rfl | (simp; done) | (simp [*]; done)), H', ⟨by have := HJ2.out; have := HK2.out; have := HJ6.out; have := HJ10.out; omega⟩, ⟨by (with_reducible repeat (first | apply Kd.R_alloc | apply Kd.R_drewN | apply Kd.R_drew)); exact Kd.R_mono HO312.out (fun _ hk => trivial)⟩, ⟨by repeat (first | (with_reducible first | exact HB.out | apply below_alloc | apply pw_below_drewN | apply below_drew1) | exact HB.out)⟩⟩
                          · rw [if_neg c55] at H
                            exact absurd H (by simp)
                      · rw [if_neg c52] at H
                        have c52b0 : ((x6_2.length : Int) == 0) = false := beq_eq_false_iff_ne.mpr c52
                        have c52b1 : ((x6_2.length : Int) != 0) = true := bne_iff_ne.mpr c52
                        have c52b2 : ¬ (x6_2 = []) := fun h_ => c52 (by rw [h_]; rfl)
                        obtain ⟨y313, hy313⟩ : ∃ y_ : List Int, y_ = (([(wrap64 (48 + (Int.tmod x0_2 10))) % 256] : List Int)) := ⟨_, rfl⟩
                        replace H : (if y313.length + x6_2.length < 140737488355328 then (spec_Decimal.l0 kj10 (wrap64 (Int.tdiv x0_2 10)) a1 false (y313 ++ x6_2) (wrap64 (x7_2 + 1))) else (none)) = some r := by first | (rw [hy313]; with_reducible exact H) | (have H2_ := (Option.bind_some _ _).symm.trans H; rw [hy313]; with_reducible exact H2_) | (have H2_ := (Option.bind_some _ _).symm.trans H; with_reducible exact H2_) | with_reducible exact H | (rw [hy313]; exact H) | exact H
                        have Ny313 := Aside0.mk hy313
                        clear hy313
                        by_cases c60 : y313.length + x6_2.length < 140737488355328
                        · rw [if_pos c60] at H
                          have LMc60 := Aside0.mk c60
                          clear c60
                          obtain ⟨y316, hy316⟩ : ∃ y_ : List Int, y_ = (y313 ++ x6_2) := ⟨_, rfl⟩
                          replace H : (spec_Decimal.l0 kj10 (wrap64 (Int.tdiv x0_2 10)) a1 false y316 (wrap64 (x7_2 + 1))) = some r := by first | (rw [hy316]; with_reducible exact H) | (have H2_ := (Option.bind_some _ _).symm.trans H; rw [hy316]; with_reducible exact H2_) | (have H2_ := (Option.bind_some _ _).symm.trans H; with_reducible exact H2_) | with_reducible exact H | (rw [hy316]; exact H) | exact H
                          have Ny316 := Aside0.mk hy316
                          clear hy316
                          have H' := Aside0.mk H
                          clear H
                          obtain ⟨Ao61, co61, eo61⟩ := Kd.R_slice HO_6.out
                          subst eo61
                          go_wp2_with (first | ((with_reducible refine gate_dst (N := 59) rfl ?_); (try (refine gate_guard (by rfl) ?_; dsimp only)); refine Kd.R_lit (Kd.int .u8) _ 5 ?hg (N := 59) ?hd (xs := ([(wrap64 (48 + (Int.tmod x0_2 10))) % 256] : List Int)) (inner := [.int .u8 ((wrap64 (48 + (Int.tmod x0_2 10))) % 256)]) (ok := fun _ => True) (okp := fun _ => True) ?hr ?hp (fun _ hk => hk) trivial (Below.refl _ _) (Nat.le_refl _) (by simp) ?_; (case hd => rfl); (case hg => rfl); (case hr => first | (go_simp; done) | (go_simp; rfl)); (case hp => exact (Reps.one (show Kd.M (Kd.int .u8) _ _ _ ((wrap64 (48 + (Int.tmod x0_2 10))) % 256) [.int .u8 ((wrap64 (48 + (Int.tmod x0_2 10))) % 256)] from rfl) (Reps.none _ _))); intro v314 w62 ho63 hb hg_ hnew_; clear hg_ hnew_; (first | rw [← Ny313.out] at ho63 | (simp only [Int.reduceToNat] at ho63; rw [← Ny313.out] at ho63)); have n0_ := Aside0.mk (Kd.R_elder' (by (with_reducible repeat (first | apply Kd.R_alloc | apply Kd.R_drewN | apply Kd.R_drew)); exact HO_6.out) (Kd.R_base ho63) hb); have n1_ := Aside0.mk (Kd.R_lower (Kd.R_new' ho63 (Kd.R_lt (by (with_reducible repeat (first | apply Kd.R_alloc | apply Kd.R_drewN | apply Kd.R_drew)); exact HO_6.out))) (below_size (by repeat (first | (with_reducible first | exact HB.out | apply below_alloc | apply pw_below_drewN | apply below_drew1) | exact HB.out)))); have n2_ := Aside0.mk (below_step (by repeat (first | (with_reducible first | exact HB.out | apply below_alloc | apply pw_below_drewN | apply below_drew1) | exact HB.out)) hb); clear HO_6; clear HB; have HO_6 := n0_; have HO315 := n1_; have HB := n2_; clear n0_ n1_ n2_; clear hb ho63) | ((with_reducible refine gate_builtin (b := .append) (xs := #[.tmp 59, .tmp 60]) rfl ?_); (try (refine gate_guard (by rfl) ?_; dsimp only)); at_builtin; refine Kd.R_append_rows (Kd.int .u8) (w0 := w) w.heap.size rfl (.tmp 59) (.tmp 60) 31 5 (.int .u8 0) 1 rfl Tryd.underlying31 info5 rfl (by decide) (by omega) v314 y313 x6_2 _ _ _ (fun k_ => some k_ ≠ (.slice Ao61 x6_2.length co61 : Value).ownBlock) (fun _ => False) rfl rfl ?aO ?aR (fun _ _ h => h) (fun _ h => h.elim) ?aF ?aB ?aS ?aL ?_; (case aR => repeat (first | exact (Kd.R_reads' HO_6.out).2.2 | (with_reducible refine Kd.C_alloc ?_ _) | (with_reducible refine Kd.C_drewN ?_ _) | (with_reducible refine Kd.C_drew ?_))); (case aB => exact (by repeat (first | (with_reducible first | exact HB.out | apply below_alloc | apply pw_below_drewN | apply below_drew1) | exact HB.out))); (case aF => exact (fun k_ hk => Kd.fresh' (Kd.R_lt (by (with_reducible repeat (first | apply Kd.R_alloc | apply Kd.R_drewN | apply Kd.R_drew)); exact HO_6.out)) k_ hk)); (case aO => exact (by (with_reducible repeat (first | apply Kd.R_alloc | apply Kd.R_drewN | apply Kd.R_drew)); exact Kd.R_mono HO315.out (fun _ hk => hk.2))); (case aS => exact (below_size (by repeat (first | (with_reducible first | exact HB.out | apply below_alloc | apply pw_below_drewN | apply below_drew1) | exact HB.out)))); (case aL => have := LMc60.out; omega); intro v317 w64 ho hb hg hat; rw [← Ny316.out] at ho; have n0_ := Aside0.mk (Kd.R_after (ok := (fun _ => True)) (by (with_reducible repeat (first | apply Kd.R_alloc | apply Kd.R_drewN | apply Kd.R_drew)); exact HO_6.out) hg hat); have n1_ := Aside0.mk (hb); have n2_ := Aside0.mk (ho); clear HO_6; clear HB; clear HO315; have HO_6 := n0_; have HB := n1_; have HO318 := n2_; clear n0_ n1_ n2_; clear ho hb hg hat))
                          go_roundg kj10
                          case measure => have := HJ2.out; have := HK2.out; have := HJ6.out; have := HJ10.out; omega
                          case rel => exact ⟨(wrap64 (Int.tdiv x0_2 10)), (y316), (wrap64 (x7_2 + 1)), (by first | rfl | (simp; done) | (simp [*]; done)), (by first | rfl | (simp; done) | (simp [*]; done)), H', ⟨by have := HJ2.out; have := HK2.out; have := HJ6.out; have := HJ10.out; omega⟩, ⟨by (with_reducible repeat (first | apply Kd.R_alloc | apply Kd.R_drewN | apply Kd.R_drew)); exact Kd.R_mono HO318.out (fun _ hk => trivial)⟩, ⟨by repeat (first | (with_reducible first | exact HB.out | apply below_alloc | apply pw_below_drewN | apply below_drew1) | exact HB.out)⟩⟩
                        · rw [if_neg c60] at H
                          exact absurd H (by simp)
                    · rw [if_neg c51] at H
                      have c51b0 : decide (x7_2 < a1) = false := decide_eq_false c51
                      clear c51
                      obtain ⟨y319, hy319⟩ : ∃ y_ : List Int, y_ = (([(wrap64 (48 + (Int.tmod x0_2 10))) % 256] : List Int)) := ⟨_, rfl⟩
                      replace H : (if y319.length + x6_2.length < 140737488355328 then (spec_Decimal.l0 kj10 (wrap64 (Int.tdiv x0_2 10)) a1 false (y319 ++ x6_2) (wrap64 (x7_2 + 1))) else (none)) = some r := by first | (rw [hy319]; with_reducible exact H) | (have H2_ := (Option.bind_some _ _).symm.trans H; rw [hy319]; with_reducible exact H2_) | (have H2_ := (Option.bind_some _ _).symm.trans H; with_reducible exact H2_) | with_reducible exact H | (rw [hy319]; exact H) | exact H
                      have Ny319 := Aside0.mk hy319
                      clear hy319
                      by_cases c65 : y319.length + x6_2.length < 140737488355328
                      · rw [if_pos c65] at H
                        have LMc65 := Aside0.mk c65
                        clear c65
                        obtain ⟨y322, hy322⟩ : ∃ y_ : List Int, y_ = (y319 ++ x6_2) := ⟨_, rfl⟩
                        replace H : (spec_Decimal.l0 kj10 (wrap64 (Int.tdiv x0_2 10)) a1 false y322 (wrap64 (x7_2 + 1))) = some r := by first | (rw [hy322]; with_reducible exact H) | (have H2_ := (Option.bind_some _ _).symm.trans H; rw [hy322]; with_reducible exact H2_) | (have H2_ := (Option.bind_some _ _).symm.trans H; with_reducible exact H2_) | with_reducible exact H | (rw [hy322]; exact H) | exact H
                        have Ny322 := Aside0.mk hy322
                        clear hy322
                        have H' := Aside0.mk H
                        clear H
                        go_wp2_with (first | ((with_reducible refine gate_dst (N := 59) rfl ?_); (try (refine gate_guard (by rfl) ?_; dsimp only)); refine Kd.R_lit (Kd.int .u8) _ 5 ?hg (N := 59) ?hd (xs := ([(wrap64 (48 + (Int.tmod x0_2 10))) % 256] : List Int)) (inner := [.int .u8 ((wrap64 (48 + (Int.tmod x0_2 10))) % 256)]) (ok := fun _ => True) (okp := fun _ => True) ?hr ?hp (fun _ hk => hk) trivial (Below.refl _ _) (Nat.le_refl _) (by simp) ?_; (case hd => rfl); (case hg => rfl); (case hr => first | (go_simp; done) | (go_simp; rfl)); (case hp => exact (Reps.one (show Kd.M (Kd.int .u8) _ _ _ ((wrap64 (48 + (Int.tmod x0_2 10))) % 256) [.int .u8 ((wrap64 (48 + (Int.tmod x0_2 10))) % 256)] from rfl) (Reps.none _ _))); intro v320 w66 ho67 hb hg_ hnew_; clear hg_ hnew_; (first | rw [← Ny319.out] at ho67 | (simp only [Int.reduceToNat] at ho67; rw [← Ny319.out] at ho67)); have n0_ := Aside0.mk (Kd.R_elder' (by (with_reducible repeat (first | apply Kd.R_alloc | apply Kd.R_drewN | apply Kd.R_drew)); exact HO_6.out) (Kd.R_base ho67) hb); have n1_ := Aside0.mk (Kd.R_lower (Kd.R_new' ho67 (Kd.R_lt (by (with_reducible repeat (first | apply Kd.R_alloc | apply Kd.R_drewN | apply Kd.R_drew)); exact HO_6.out))) (below_size (by repeat (first | (with_reducible first | exact HB.out | apply below_alloc | apply pw_below_drewN | apply below_drew1) | exact HB.out)))); have n2_ := Aside0.mk (below_step (by repeat (first | (with_reducible first | exact HB.out | apply below_alloc | apply pw_below_drewN | apply below_drew1) | exact HB.out)) hb); clear HO_6; clear HB; have HO_6 := n0_; have HO321 := n1_; have HB := n2_; clear n0_ n1_ n2_; clear hb ho67; obtain ⟨Ao69, co69, eo69⟩ := Kd.R_slice HO_6.out; subst eo69) | ((with_reducible refine gate_builtin (b := .append) (xs := #[.tmp 59, .tmp 60]) rfl ?_); (try (refine gate_guard (by rfl) ?_; dsimp only)); at_builtin; refine Kd.R_append_rows (Kd.int .u8) (w0 := w) w.heap.size rfl (.tmp 59) (.tmp 60) 31 5 (.int .u8 0) 1 rfl Tryd.underlying31 info5 rfl (by decide) (by omega) v320 y319 x6_2 _ _ _ (fun k_ => some k_ ≠ (.slice Ao69 x6_2.length co69 : Value).ownBlock) (fun _ => False) rfl rfl ?aO ?aR (fun _ _ h => h) (fun _ h => h.elim) ?aF ?aB ?aS ?aL ?_; (case aR => repeat (first | exact (Kd.R_reads' HO_6.out).2.2 | (with_reducible refine Kd.C_alloc ?_ _) | (with_reducible refine Kd.C_drewN ?_ _) | (with_reducible refine Kd.C_drew ?_))); (case aB => exact (by repeat (first | (with_reducible first | exact HB.out | apply below_alloc | apply pw_below_drewN | apply below_drew1) | exact HB.out))); (case aF => exact (fun k_ hk => Kd.fresh' (Kd.R_lt (by (with_reducible repeat (first | apply Kd.R_alloc | apply Kd.R_drewN | apply Kd.R_drew)); exact HO_6.out)) k_ hk)); (case aO => exact (by (with_reducible repeat (first | apply Kd.R_alloc | apply Kd.R_drewN | apply Kd.R_drew)); exact Kd.R_mono HO321.out (fun _ hk => hk.2))); (case aS => exact (below_size (by repeat (first | (with_reducible first | exact HB.out | apply below_alloc | apply pw_below_drewN | apply below_drew1) | exact HB.out)))); (case aL => have := LMc65.out; omega); intro v323 w68 ho hb hg hat; rw [← Ny322.out] at ho; have n0_ := Aside0.mk (Kd.R_after (ok := (fun _ => True)) (by (with_reducible repeat (first | apply Kd.R_alloc | apply Kd.R_drewN | apply Kd.R_drew)); exact HO_6.out) hg hat); have n1_ := Aside0.mk (hb); have n2_ := Aside0.mk (ho); clear HO_6; clear HB; clear HO321; have HO_6 := n0_; have HB := n1_; have HO324 := n2_; clear n0_ n1_ n2_; clear ho hb hg hat))
                        go_roundg kj10
                        case measure => have := HJ2.out; have := HK2.out; have := HJ6.out; have := HJ10.out; omega
                        case rel => exact ⟨(wrap64 (Int.tdiv x0_2 10)), (y322), (wrap64 (x7_2 + 1)), (by first | rfl | (simp; done) | (simp [*]; done)), (by first | rfl | (simp; done) | (simp [*]; done)), H', ⟨by have := HJ2.out; have := HK2.out; have := HJ6.out; have := HJ10.out; omega⟩, ⟨by (with_reducible repeat (first | apply Kd.R_alloc | apply Kd.R_drewN | apply Kd.R_drew)); exact Kd.R_mono HO324.out (fun _ hk => trivial)⟩, ⟨by repeat (first | (with_reducible first | exact HB.out | apply below_alloc | apply pw_below_drewN | apply below_drew1) | exact HB.out)⟩⟩
                      · rw [if_neg c65] at H
                        exact absurd H (by simp)
            · replace c10 := Bool.eq_false_iff.mpr c10
              subst c10
              have H1 : (if false = true then (if 1 + (strOfNums x6_2).size ≤ 9223372036854775807 then (some ((⟨#[45]⟩ : ByteArray) ++ (strOfNums x6_2))) else (none)) else (some (strOfNums x6_2))) = some r := by rw [if_neg (show ¬ (false = true) by decide)] at H; exact H
              clear H
              have H := H1
              clear H1
              by_cases c70 : false = true
              · exact absurd c70 (by decide)
              · rw [if_neg c70] at H
                have c70b0 : false = false := by simpa using c70
                clear c70
                obtain rfl := Option.some.inj H
                have hcv73 := own_string (P := Tryd.prog) Tryd.underlying31 Tryd.underlying5 Tryd.underlying9 (Kd.own_of_R HO_6.out)
                go_wp2
                go_ret
                exact ⟨by first | rfl | (simp [errW_none, errW_some] <;> rfl) | (simp [*, errW_none, errW_some] <;> rfl), by repeat (first | (with_reducible first | exact HB.out | apply below_alloc | apply pw_below_drewN | apply below_drew1) | exact HB.out)⟩

end Go.Proofs.YtkcbalikahmeiaaDoor.PFnAmountText

