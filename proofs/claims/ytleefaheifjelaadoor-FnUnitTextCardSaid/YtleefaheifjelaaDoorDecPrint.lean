-- The kit printed this; of its text spec.Decimal alone is kept, its contract turned by gen_dec.py.
import Derived.Test.YtleefaheifjelaaDoorPFnUnitTextx0
namespace Go.Proofs.YtleefaheifjelaaDoor.PFnUnitText
open Go.RowKit Go.Proofs.YtleefaheifjelaaDoorW.PrintWords Go.Proofs.YtleefaheifjelaaDoorW.PrintLast Go.Proofs.YtleefaheifjelaaDoorW.PrintMore
attribute [local go_sem] max2_int min2_int max_two min_two max_three min_three max_four min_four   -- for this text's walks alone
set_option linter.unusedVariables false
set_option linter.unusedSimpArgs false

set_option linter.unnecessarySimpa false
/-! ### spec_Decimal: function 7 -/
mutual
def spec_Decimal.j0 : Nat → Int → Int → Bool → Option (ByteArray)
  | 0, _, _, _ => none
  | k + 1, x0, x1, x5 => spec_Decimal.l0 k x0 x1 x5 (([] : List Int)) 0
def spec_Decimal.l0 : Nat → Int → Int → Bool → List Int → Int → Option (ByteArray)
  | 0, _, _, _, _, _ => none
  | k + 1, x0, x1, x5, x6, x7 => if x7 < x1 then (spec_Decimal.j2 k x0 x1 x5 x6 x7 true) else (if x0 > 0 then (spec_Decimal.j2 k x0 x1 x5 x6 x7 true) else (spec_Decimal.j2 k x0 x1 x5 x6 x7 (x7 == x1)))
def spec_Decimal.j2 : Nat → Int → Int → Bool → List Int → Int → Bool → Option (ByteArray)
  | 0, _, _, _, _, _, _ => none
  | k + 1, x0, x1, x5, x6, x7, x26 => if x26 = true then (if x7 = x1 then (spec_Decimal.j3 k x0 x1 x5 x6 x7 (decide ((x6.length : Int) > 0))) else (spec_Decimal.j3 k x0 x1 x5 x6 x7 false)) else (if x5 = true then (if 1 + (strOfNums x6).size ≤ 9223372036854775807 then (some ((⟨#[45]⟩ : ByteArray) ++ (strOfNums x6))) else (none)) else (some (strOfNums x6)))
def spec_Decimal.j3 : Nat → Int → Int → Bool → List Int → Int → Bool → Option (ByteArray)
  | 0, _, _, _, _, _, _ => none
  | k + 1, x0, x1, x5, x6, x7, x36 => if x36 = true then ((some (([46] : List Int) : List Int)).bind fun y123 => (if y123.length + x6.length < 140737488355328 then ((some (y123 ++ x6 : List Int)).bind fun y126 => (if x7 < x1 then (if (y126.length : Int) = 0 then (if ((wrap64 (48 + (Int.tmod x0 10))) % 256) = 48 then (spec_Decimal.l0 k (wrap64 (Int.tdiv x0 10)) x1 x5 y126 (wrap64 (x7 + 1))) else ((some (([(wrap64 (48 + (Int.tmod x0 10))) % 256] : List Int) : List Int)).bind fun y129 => (if y129.length + y126.length < 140737488355328 then (spec_Decimal.l0 k (wrap64 (Int.tdiv x0 10)) x1 x5 (y129 ++ y126) (wrap64 (x7 + 1))) else (none)))) else ((some (([(wrap64 (48 + (Int.tmod x0 10))) % 256] : List Int) : List Int)).bind fun y135 => (if y135.length + y126.length < 140737488355328 then (spec_Decimal.l0 k (wrap64 (Int.tdiv x0 10)) x1 x5 (y135 ++ y126) (wrap64 (x7 + 1))) else (none)))) else ((some (([(wrap64 (48 + (Int.tmod x0 10))) % 256] : List Int) : List Int)).bind fun y141 => (if y141.length + y126.length < 140737488355328 then (spec_Decimal.l0 k (wrap64 (Int.tdiv x0 10)) x1 x5 (y141 ++ y126) (wrap64 (x7 + 1))) else (none))))) else (none))) else (if x7 < x1 then (if (x6.length : Int) = 0 then (if ((wrap64 (48 + (Int.tmod x0 10))) % 256) = 48 then (spec_Decimal.l0 k (wrap64 (Int.tdiv x0 10)) x1 x5 x6 (wrap64 (x7 + 1))) else ((some (([(wrap64 (48 + (Int.tmod x0 10))) % 256] : List Int) : List Int)).bind fun y147 => (if y147.length + x6.length < 140737488355328 then (spec_Decimal.l0 k (wrap64 (Int.tdiv x0 10)) x1 x5 (y147 ++ x6) (wrap64 (x7 + 1))) else (none)))) else ((some (([(wrap64 (48 + (Int.tmod x0 10))) % 256] : List Int) : List Int)).bind fun y153 => (if y153.length + x6.length < 140737488355328 then (spec_Decimal.l0 k (wrap64 (Int.tdiv x0 10)) x1 x5 (y153 ++ x6) (wrap64 (x7 + 1))) else (none)))) else ((some (([(wrap64 (48 + (Int.tmod x0 10))) % 256] : List Int) : List Int)).bind fun y159 => (if y159.length + x6.length < 140737488355328 then (spec_Decimal.l0 k (wrap64 (Int.tdiv x0 10)) x1 x5 (y159 ++ x6) (wrap64 (x7 + 1))) else (none))))
end
def spec_Decimal.f (k : Nat) (a0 : Int) (a1 : Int) : Option (ByteArray) := if a0 < 0 then (spec_Decimal.j0 k (wrap64 (-a0)) a1 (decide (a0 < 0))) else (spec_Decimal.j0 k a0 a1 (decide (a0 < 0)))
theorem spec_Decimal.mono_l : ∀ k, (∀ y0 y1 y2, LeO (spec_Decimal.j0 k y0 y1 y2) (spec_Decimal.j0 (k + 1) y0 y1 y2)) ∧ (∀ y0 y1 y2 y3 y4, LeO (spec_Decimal.l0 k y0 y1 y2 y3 y4) (spec_Decimal.l0 (k + 1) y0 y1 y2 y3 y4)) ∧ (∀ y0 y1 y2 y3 y4 y5, LeO (spec_Decimal.j2 k y0 y1 y2 y3 y4 y5) (spec_Decimal.j2 (k + 1) y0 y1 y2 y3 y4 y5)) ∧ (∀ y0 y1 y2 y3 y4 y5, LeO (spec_Decimal.j3 k y0 y1 y2 y3 y4 y5) (spec_Decimal.j3 (k + 1) y0 y1 y2 y3 y4 y5))
  | 0 => ⟨fun _ _ _ r h => by simp [spec_Decimal.j0] at h, fun _ _ _ _ _ r h => by simp [spec_Decimal.l0] at h, fun _ _ _ _ _ _ r h => by simp [spec_Decimal.j2] at h, fun _ _ _ _ _ _ r h => by simp [spec_Decimal.j3] at h⟩
  | k + 1 => by
    obtain ⟨ih0, ih1, ih2, ih3⟩ := spec_Decimal.mono_l k
    refine ⟨?_, ?_, ?_, ?_⟩
    · intro y0 y1 y2
      unfold spec_Decimal.j0
      repeat' first
      | (with_reducible exact ih0 _ _ _)
      | (with_reducible exact ih1 _ _ _ _ _)
      | (with_reducible exact ih2 _ _ _ _ _ _)
      | (with_reducible exact ih3 _ _ _ _ _ _)
      | (with_reducible exact LeO.refl _)
      | (with_reducible exact LeO.none _)
      | (with_reducible refine LeO.ite ?_ ?_)
      | (with_reducible refine LeO.bind ?_ (fun _ => ?_))
      | exact ih0 _ _ _
      | exact ih1 _ _ _ _ _
      | exact ih2 _ _ _ _ _ _
      | exact ih3 _ _ _ _ _ _
      | exact LeO.none _
      | refine LeO.ite ?_ ?_
      | refine LeO.bind ?_ (fun _ => ?_)
    · intro y0 y1 y2 y3 y4
      unfold spec_Decimal.l0
      repeat' first
      | (with_reducible exact ih0 _ _ _)
      | (with_reducible exact ih1 _ _ _ _ _)
      | (with_reducible exact ih2 _ _ _ _ _ _)
      | (with_reducible exact ih3 _ _ _ _ _ _)
      | (with_reducible exact LeO.refl _)
      | (with_reducible exact LeO.none _)
      | (with_reducible refine LeO.ite ?_ ?_)
      | (with_reducible refine LeO.bind ?_ (fun _ => ?_))
      | exact ih0 _ _ _
      | exact ih1 _ _ _ _ _
      | exact ih2 _ _ _ _ _ _
      | exact ih3 _ _ _ _ _ _
      | exact LeO.none _
      | refine LeO.ite ?_ ?_
      | refine LeO.bind ?_ (fun _ => ?_)
    · intro y0 y1 y2 y3 y4 y5
      unfold spec_Decimal.j2
      repeat' first
      | (with_reducible exact ih0 _ _ _)
      | (with_reducible exact ih1 _ _ _ _ _)
      | (with_reducible exact ih2 _ _ _ _ _ _)
      | (with_reducible exact ih3 _ _ _ _ _ _)
      | (with_reducible exact LeO.refl _)
      | (with_reducible exact LeO.none _)
      | (with_reducible refine LeO.ite ?_ ?_)
      | (with_reducible refine LeO.bind ?_ (fun _ => ?_))
      | exact ih0 _ _ _
      | exact ih1 _ _ _ _ _
      | exact ih2 _ _ _ _ _ _
      | exact ih3 _ _ _ _ _ _
      | exact LeO.none _
      | refine LeO.ite ?_ ?_
      | refine LeO.bind ?_ (fun _ => ?_)
    · intro y0 y1 y2 y3 y4 y5
      unfold spec_Decimal.j3
      repeat' first
      | (with_reducible exact ih0 _ _ _)
      | (with_reducible exact ih1 _ _ _ _ _)
      | (with_reducible exact ih2 _ _ _ _ _ _)
      | (with_reducible exact ih3 _ _ _ _ _ _)
      | (with_reducible exact LeO.refl _)
      | (with_reducible exact LeO.none _)
      | (with_reducible refine LeO.ite ?_ ?_)
      | (with_reducible refine LeO.bind ?_ (fun _ => ?_))
      | exact ih0 _ _ _
      | exact ih1 _ _ _ _ _
      | exact ih2 _ _ _ _ _ _
      | exact ih3 _ _ _ _ _ _
      | exact LeO.none _
      | refine LeO.ite ?_ ?_
      | refine LeO.bind ?_ (fun _ => ?_)
theorem spec_Decimal.mono : ∀ a0 a1 k, LeO (spec_Decimal.f k a0 a1) (spec_Decimal.f (k + 1) a0 a1) := by
  intro a0 a1 k
  obtain ⟨ih0, ih1, ih2, ih3⟩ := spec_Decimal.mono_l k
  unfold spec_Decimal.f
  repeat' first
      | (with_reducible exact ih0 _ _ _)
      | (with_reducible exact ih1 _ _ _ _ _)
      | (with_reducible exact ih2 _ _ _ _ _ _)
      | (with_reducible exact ih3 _ _ _ _ _ _)
      | (with_reducible exact LeO.refl _)
      | (with_reducible exact LeO.none _)
      | (with_reducible refine LeO.ite ?_ ?_)
      | (with_reducible refine LeO.bind ?_ (fun _ => ?_))
      | exact ih0 _ _ _
      | exact ih1 _ _ _ _ _
      | exact ih2 _ _ _ _ _ _
      | exact ih3 _ _ _ _ _ _
      | exact LeO.none _
      | refine LeO.ite ?_ ?_
      | refine LeO.bind ?_ (fun _ => ?_)
set_option maxHeartbeats 8000000 in
set_option maxRecDepth 100000 in
theorem spec_Decimal.calls_neg (k : Nat) (a0 : Int) (a1 : Int) (c4 : a0 < 0) (r : ByteArray) (w : World) (h : spec_Decimal.j0 k (wrap64 (-a0)) a1 true = some r) :
    Calls Tryd.prog 7 #[.int .i64 a0, .int .i64 a1] w fun e w' => e = .returned (.string r) ∧ Below w.heap.size w w' := by
  have HB := Aside0.mk (Below.refl w.heap.size w)
  have HA := Aside0.mk h
  clear h
  go_enter Tryd.func7, Tryd.ntmps7
  cases k with
  | zero => exact absurd HA.out (by simp [spec_Decimal.j0])
  | succ kj2 =>
    have HJ2 : Aside0 (kj2 + 1 ≤ kj2 + 1) := ⟨Nat.le_refl _⟩
    have H := HA.out
    clear HA
    simp only [spec_Decimal.j0] at H
    obtain ⟨y120, hy120⟩ : ∃ y_ : List Int, y_ = (([] : List Int)) := ⟨_, rfl⟩
    replace H : (spec_Decimal.l0 kj2 (wrap64 (-a0)) a1 true y120 0) = some r := by first | (rw [hy120]; with_reducible exact H) | (have H2_ := (Option.bind_some _ _).symm.trans H; rw [hy120]; with_reducible exact H2_) | (have H2_ := (Option.bind_some _ _).symm.trans H; with_reducible exact H2_) | with_reducible exact H | (rw [hy120]; exact H) | exact H
    have Ny120 := Aside0.mk hy120
    clear hy120
    have H' := Aside0.mk H
    clear H
    go_wp2_with (first | ((with_reducible refine gate_dst (N := 14) rfl ?_); (try (refine gate_guard (by rfl) ?_; dsimp only)); refine Kd.R_lit (Kd.int .u8) _ 5 ?hg (N := 14) ?hd (xs := ([] : List Int)) (inner := []) (ok := fun _ => True) (okp := fun _ => True) ?hr ?hp (fun _ hk => hk) trivial (Below.refl _ _) (Nat.le_refl _) (by simp) ?_; (case hd => rfl); (case hg => rfl); (case hr => first | (go_simp; done) | (go_simp; rfl)); (case hp => exact (Reps.none _ _)); intro v121 w5 ho6 hb hg_ hnew_; clear hg_ hnew_; (first | rw [← Ny120.out] at ho6 | (simp only [Int.reduceToNat] at ho6; rw [← Ny120.out] at ho6)); have n0_ := Aside0.mk (Kd.R_lower ho6 (below_size (by repeat (first | (with_reducible first | exact HB.out | apply below_alloc | apply pw_below_drewN | apply below_drew1) | exact HB.out)))); have n1_ := Aside0.mk (below_step (by repeat (first | (with_reducible first | exact HB.out | apply below_alloc | apply pw_below_drewN | apply below_drew1) | exact HB.out)) hb); clear HB; have HO122 := n0_; have HB := n1_; clear n0_ n1_; clear hb ho6))
    go_loopg [0, 6, 7] kj2 (fun kq v0 v6 v7 w' => ∃ (x0_2 : Int) (x6_2 : List Int) (x7_2 : Int), v0 = .int .i64 x0_2 ∧ v7 = .int .i64 x7_2 ∧ Aside0 (spec_Decimal.l0 kq x0_2 a1 true x6_2 x7_2 = some r) ∧ Aside0 (kq ≤ kj2) ∧ Aside0 (Kd.R (Kd.int .u8) 5 w' w.heap.size (fun _ => True) v6 x6_2) ∧ Aside0 (Below w.heap.size w w'))
    case atStart => exact ⟨(wrap64 (-a0)), (y120), (0), (by first | rfl | (simp; done) | (simp [*]; done)), (by first | rfl | (simp; done) | (simp [*]; done)), H', ⟨Nat.le_refl _⟩, ⟨by (with_reducible repeat (first | apply Kd.R_alloc | apply Kd.R_drewN | apply Kd.R_drew)); exact HO122.out⟩, ⟨by repeat (first | (with_reducible first | exact HB.out | apply below_alloc | apply pw_below_drewN | apply below_drew1) | exact HB.out)⟩⟩
    case round =>
      clear H'
      try clear p2
      try clear c4
      try clear c4b0
      try clear p6
      try clear p2
      obtain ⟨x0_2, x6_2, x7_2, rfl, rfl, HA, HK2, HO_6, HB⟩ := hrel
      cases gk with
      | zero => exact absurd HA.out (by simp [spec_Decimal.l0])
      | succ k2 =>
        have H := HA.out
        clear HA
        simp only [spec_Decimal.l0] at H
        have HC7 := Aside0.mk H
        clear H
        go_upto_region 6 with (fail)
        go_cut [26] (fun v26 wc => ∃ (kq : Nat) (x26_6 : Bool), v26 = .bool x26_6 ∧ Aside0 (spec_Decimal.j2 kq x0_2 a1 true x6_2 x7_2 x26_6 = some r) ∧ Aside0 (kq ≤ k2) ∧ Aside0 (Kd.R (Kd.int .u8) 5 wc w.heap.size (fun _ => True) u6 x6_2) ∧ Aside0 (Below w.heap.size w wc))
        case first =>
          have H := HC7.out
          clear HC7
          by_cases c8 : x7_2 < a1
          · rw [if_pos c8] at H
            have c8b0 : decide (x7_2 < a1) = true := decide_eq_true c8
            clear c8
            (first | rw [c8b0] | (simp only [i64_w, i32_w]; rw [c8b0]) | skip)
            have H' := Aside0.mk H
            clear H
            go_wp2
            go_meet
            case rel => exact ⟨_, (true), (by first | rfl | (simp; done) | (simp [*]; done)), H', ⟨by have := HJ2.out; have := HK2.out; first | omega | exact Nat.le_refl _⟩, ⟨by (with_reducible repeat (first | apply Kd.R_alloc | apply Kd.R_drewN | apply Kd.R_drew)); exact HO_6.out⟩, ⟨by repeat (first | (with_reducible first | exact HB.out | apply below_alloc | apply pw_below_drewN | apply below_drew1) | exact HB.out)⟩⟩
          · rw [if_neg c8] at H
            have c8b0 : decide (x7_2 < a1) = false := decide_eq_false c8
            clear c8
            (first | rw [c8b0] | (simp only [i64_w, i32_w]; rw [c8b0]) | skip)
            by_cases c9 : x0_2 > 0
            · rw [if_pos c9] at H
              have c9b0 : decide (0 < x0_2) = true := decide_eq_true c9
              clear c9
              have H' := Aside0.mk H
              clear H
              go_wp2
              go_meet
              case rel => exact ⟨_, (true), (by first | rfl | (simp; done) | (simp [*]; done)), H', ⟨by have := HJ2.out; have := HK2.out; first | omega | exact Nat.le_refl _⟩, ⟨by (with_reducible repeat (first | apply Kd.R_alloc | apply Kd.R_drewN | apply Kd.R_drew)); exact HO_6.out⟩, ⟨by repeat (first | (with_reducible first | exact HB.out | apply below_alloc | apply pw_below_drewN | apply below_drew1) | exact HB.out)⟩⟩
            · rw [if_neg c9] at H
              have c9b0 : decide (0 < x0_2) = false := decide_eq_false c9
              clear c9
              have H' := Aside0.mk H
              clear H
              go_wp2
              go_meet
              case rel => exact ⟨_, ((x7_2 == a1)), (by first | rfl | (simp; done) | (simp [*]; done)), H', ⟨by have := HJ2.out; have := HK2.out; first | omega | exact Nat.le_refl _⟩, ⟨by (with_reducible repeat (first | apply Kd.R_alloc | apply Kd.R_drewN | apply Kd.R_drew)); exact HO_6.out⟩, ⟨by repeat (first | (with_reducible first | exact HB.out | apply below_alloc | apply pw_below_drewN | apply below_drew1) | exact HB.out)⟩⟩
        case rest =>
          clear HC7
          try clear p2
          try clear c4
          try clear c4b0
          try clear p6
          try clear c7
          try clear c8
          try clear c8b0
          try clear c9
          try clear c9b0
          try clear p2
          try clear p6
          obtain ⟨kq, x26_6, rfl, HA, HJ6, HO_6, HB⟩ := hcut
          cases kq with
          | zero => exact absurd HA.out (by simp [spec_Decimal.j2])
          | succ kj6 =>
            have H := HA.out
            clear HA
            simp only [spec_Decimal.j2] at H
            by_cases c10 : x26_6 = true
            · subst c10
              have H1 : (if x7_2 = a1 then (spec_Decimal.j3 kj6 x0_2 a1 true x6_2 x7_2 (decide ((x6_2.length : Int) > 0))) else (spec_Decimal.j3 kj6 x0_2 a1 true x6_2 x7_2 false)) = some r := by rw [if_pos rfl] at H; exact H
              clear H
              have H := H1
              clear H1
              have HC11 := Aside0.mk H
              clear H
              go_upto_region 8 with (fail)
              go_cut [36] (fun v36 wc => ∃ (kq : Nat) (x36_10 : Bool), v36 = .bool x36_10 ∧ Aside0 (spec_Decimal.j3 kq x0_2 a1 true x6_2 x7_2 x36_10 = some r) ∧ Aside0 (kq ≤ kj6) ∧ Aside0 (Kd.R (Kd.int .u8) 5 wc w.heap.size (fun _ => True) u6 x6_2) ∧ Aside0 (Below w.heap.size w wc))
              case first =>
                have H := HC11.out
                clear HC11
                by_cases c12 : x7_2 = a1
                · rw [if_pos c12] at H
                  have c12b0 : (x7_2 == a1) = true := beq_iff_eq.mpr c12
                  have c12b1 : (x7_2 != a1) = false := bne_eq_false_iff_eq.mpr c12
                  clear c12
                  (first | rw [c12b0] | (simp only [i64_w, i32_w]; rw [c12b0]) | skip)
                  have H' := Aside0.mk H
                  clear H
                  obtain ⟨Ao13, co13, eo13⟩ := Kd.R_slice HO_6.out
                  subst eo13
                  go_wp2
                  go_meet
                  case rel => exact ⟨_, (decide ((x6_2.length : Int) > 0)), (by first | rfl | (simp; done) | (simp [*]; done)), H', ⟨by have := HJ2.out; have := HK2.out; have := HJ6.out; first | omega | exact Nat.le_refl _⟩, ⟨by (with_reducible repeat (first | apply Kd.R_alloc | apply Kd.R_drewN | apply Kd.R_drew)); exact HO_6.out⟩, ⟨by repeat (first | (with_reducible first | exact HB.out | apply below_alloc | apply pw_below_drewN | apply below_drew1) | exact HB.out)⟩⟩
                · rw [if_neg c12] at H
                  have c12b0 : (x7_2 == a1) = false := beq_eq_false_iff_ne.mpr c12
                  have c12b1 : (x7_2 != a1) = true := bne_iff_ne.mpr c12
                  (first | rw [c12b0] | (simp only [i64_w, i32_w]; rw [c12b0]) | skip)
                  have H' := Aside0.mk H
                  clear H
                  go_wp2
                  go_meet
                  case rel => exact ⟨_, (false), (by first | rfl | (simp; done) | (simp [*]; done)), H', ⟨by have := HJ2.out; have := HK2.out; have := HJ6.out; first | omega | exact Nat.le_refl _⟩, ⟨by (with_reducible repeat (first | apply Kd.R_alloc | apply Kd.R_drewN | apply Kd.R_drew)); exact HO_6.out⟩, ⟨by repeat (first | (with_reducible first | exact HB.out | apply below_alloc | apply pw_below_drewN | apply below_drew1) | exact HB.out)⟩⟩
              case rest =>
                clear HC11
                try clear c1
                try clear p2
                try clear c4
                try clear c4b0
                try clear p6
                try clear c7
                try clear c8
                try clear c8b0
                try clear c9
                try clear c9b0
                try clear c10
                try clear c12
                try clear c12b0
                try clear c12b1
                try clear p2
                try clear p6
                obtain ⟨kq, x36_10, rfl, HA, HJ10, HO_6, HB⟩ := hcut
                cases kq with
                | zero => exact absurd HA.out (by simp [spec_Decimal.j3])
                | succ kj10 =>
                  have H := HA.out
                  clear HA
                  simp only [spec_Decimal.j3] at H
                  by_cases c14 : x36_10 = true
                  · subst c14
                    have H1 : ((some (([46] : List Int) : List Int)).bind fun y123 => (if y123.length + x6_2.length < 140737488355328 then ((some (y123 ++ x6_2 : List Int)).bind fun y126 => (if x7_2 < a1 then (if (y126.length : Int) = 0 then (if ((wrap64 (48 + (Int.tmod x0_2 10))) % 256) = 48 then (spec_Decimal.l0 kj10 (wrap64 (Int.tdiv x0_2 10)) a1 true y126 (wrap64 (x7_2 + 1))) else ((some (([(wrap64 (48 + (Int.tmod x0_2 10))) % 256] : List Int) : List Int)).bind fun y129 => (if y129.length + y126.length < 140737488355328 then (spec_Decimal.l0 kj10 (wrap64 (Int.tdiv x0_2 10)) a1 true (y129 ++ y126) (wrap64 (x7_2 + 1))) else (none)))) else ((some (([(wrap64 (48 + (Int.tmod x0_2 10))) % 256] : List Int) : List Int)).bind fun y135 => (if y135.length + y126.length < 140737488355328 then (spec_Decimal.l0 kj10 (wrap64 (Int.tdiv x0_2 10)) a1 true (y135 ++ y126) (wrap64 (x7_2 + 1))) else (none)))) else ((some (([(wrap64 (48 + (Int.tmod x0_2 10))) % 256] : List Int) : List Int)).bind fun y141 => (if y141.length + y126.length < 140737488355328 then (spec_Decimal.l0 kj10 (wrap64 (Int.tdiv x0_2 10)) a1 true (y141 ++ y126) (wrap64 (x7_2 + 1))) else (none))))) else (none))) = some r := by rw [if_pos rfl] at H; exact H
                    clear H
                    have H := H1
                    clear H1
                    obtain ⟨y123, hy123⟩ : ∃ y_ : List Int, y_ = (([46] : List Int)) := ⟨_, rfl⟩
                    replace H : (if y123.length + x6_2.length < 140737488355328 then ((some (y123 ++ x6_2 : List Int)).bind fun y126 => (if x7_2 < a1 then (if (y126.length : Int) = 0 then (if ((wrap64 (48 + (Int.tmod x0_2 10))) % 256) = 48 then (spec_Decimal.l0 kj10 (wrap64 (Int.tdiv x0_2 10)) a1 true y126 (wrap64 (x7_2 + 1))) else ((some (([(wrap64 (48 + (Int.tmod x0_2 10))) % 256] : List Int) : List Int)).bind fun y129 => (if y129.length + y126.length < 140737488355328 then (spec_Decimal.l0 kj10 (wrap64 (Int.tdiv x0_2 10)) a1 true (y129 ++ y126) (wrap64 (x7_2 + 1))) else (none)))) else ((some (([(wrap64 (48 + (Int.tmod x0_2 10))) % 256] : List Int) : List Int)).bind fun y135 => (if y135.length + y126.length < 140737488355328 then (spec_Decimal.l0 kj10 (wrap64 (Int.tdiv x0_2 10)) a1 true (y135 ++ y126) (wrap64 (x7_2 + 1))) else (none)))) else ((some (([(wrap64 (48 + (Int.tmod x0_2 10))) % 256] : List Int) : List Int)).bind fun y141 => (if y141.length + y126.length < 140737488355328 then (spec_Decimal.l0 kj10 (wrap64 (Int.tdiv x0_2 10)) a1 true (y141 ++ y126) (wrap64 (x7_2 + 1))) else (none))))) else (none)) = some r := by first | (rw [hy123]; with_reducible exact H) | (have H2_ := (Option.bind_some _ _).symm.trans H; rw [hy123]; with_reducible exact H2_) | (have H2_ := (Option.bind_some _ _).symm.trans H; with_reducible exact H2_) | with_reducible exact H | (rw [hy123]; exact H) | exact H
                    have Ny123 := Aside0.mk hy123
                    clear hy123
                    by_cases c15 : y123.length + x6_2.length < 140737488355328
                    · rw [if_pos c15] at H
                      have LMc15 := Aside0.mk c15
                      clear c15
                      obtain ⟨y126, hy126⟩ : ∃ y_ : List Int, y_ = (y123 ++ x6_2) := ⟨_, rfl⟩
                      replace H : (if x7_2 < a1 then (if (y126.length : Int) = 0 then (if ((wrap64 (48 + (Int.tmod x0_2 10))) % 256) = 48 then (spec_Decimal.l0 kj10 (wrap64 (Int.tdiv x0_2 10)) a1 true y126 (wrap64 (x7_2 + 1))) else ((some (([(wrap64 (48 + (Int.tmod x0_2 10))) % 256] : List Int) : List Int)).bind fun y129 => (if y129.length + y126.length < 140737488355328 then (spec_Decimal.l0 kj10 (wrap64 (Int.tdiv x0_2 10)) a1 true (y129 ++ y126) (wrap64 (x7_2 + 1))) else (none)))) else ((some (([(wrap64 (48 + (Int.tmod x0_2 10))) % 256] : List Int) : List Int)).bind fun y135 => (if y135.length + y126.length < 140737488355328 then (spec_Decimal.l0 kj10 (wrap64 (Int.tdiv x0_2 10)) a1 true (y135 ++ y126) (wrap64 (x7_2 + 1))) else (none)))) else ((some (([(wrap64 (48 + (Int.tmod x0_2 10))) % 256] : List Int) : List Int)).bind fun y141 => (if y141.length + y126.length < 140737488355328 then (spec_Decimal.l0 kj10 (wrap64 (Int.tdiv x0_2 10)) a1 true (y141 ++ y126) (wrap64 (x7_2 + 1))) else (none)))) = some r := by first | (rw [hy126]; with_reducible exact H) | (have H2_ := (Option.bind_some _ _).symm.trans H; rw [hy126]; with_reducible exact H2_) | (have H2_ := (Option.bind_some _ _).symm.trans H; with_reducible exact H2_) | with_reducible exact H | (rw [hy126]; exact H) | exact H
                      have Ny126 := Aside0.mk hy126
                      clear hy126
                      by_cases c16 : x7_2 < a1
                      · rw [if_pos c16] at H
                        have c16b0 : decide (x7_2 < a1) = true := decide_eq_true c16
                        clear c16
                        by_cases c17 : (y126.length : Int) = 0
                        · rw [if_pos c17] at H
                          have c17b0 : ((y126.length : Int) == 0) = true := beq_iff_eq.mpr c17
                          have c17b1 : ((y126.length : Int) != 0) = false := bne_eq_false_iff_eq.mpr c17
                          clear c17
                          by_cases c18 : ((wrap64 (48 + (Int.tmod x0_2 10))) % 256) = 48
                          · rw [if_pos c18] at H
                            have c18b0 : (((wrap64 (48 + (Int.tmod x0_2 10))) % 256) == 48) = true := beq_iff_eq.mpr c18
                            have c18b1 : (((wrap64 (48 + (Int.tmod x0_2 10))) % 256) != 48) = false := bne_eq_false_iff_eq.mpr c18
                            clear c18
                            have H' := Aside0.mk H
                            clear H
                            go_wp2_with (first | ((with_reducible refine gate_dst (N := 37) rfl ?_); (try (refine gate_guard (by rfl) ?_; dsimp only)); refine Kd.R_lit (Kd.int .u8) _ 5 ?hg (N := 37) ?hd (xs := ([46] : List Int)) (inner := [.int .u8 46]) (ok := fun _ => True) (okp := fun _ => True) ?hr ?hp (fun _ hk => hk) trivial (Below.refl _ _) (Nat.le_refl _) (by simp) ?_; (case hd => rfl); (case hg => rfl); (case hr => first | (go_simp; done) | (go_simp; rfl)); (case hp => exact (Reps.one (show Kd.M (Kd.int .u8) _ _ _ 46 [.int .u8 46] from rfl) (Reps.none _ _))); intro v124 w19 ho20 hb hg_ hnew_; clear hg_ hnew_; (first | rw [← Ny123.out] at ho20 | (simp only [Int.reduceToNat] at ho20; rw [← Ny123.out] at ho20)); have n0_ := Aside0.mk (Kd.R_elder' (by (with_reducible repeat (first | apply Kd.R_alloc | apply Kd.R_drewN | apply Kd.R_drew)); exact HO_6.out) (Kd.R_base ho20) hb); have n1_ := Aside0.mk (Kd.R_lower (Kd.R_new' ho20 (Kd.R_lt (by (with_reducible repeat (first | apply Kd.R_alloc | apply Kd.R_drewN | apply Kd.R_drew)); exact HO_6.out))) (below_size (by repeat (first | (with_reducible first | exact HB.out | apply below_alloc | apply pw_below_drewN | apply below_drew1) | exact HB.out)))); have n2_ := Aside0.mk (below_step (by repeat (first | (with_reducible first | exact HB.out | apply below_alloc | apply pw_below_drewN | apply below_drew1) | exact HB.out)) hb); clear HO_6; clear HB; have HO_6 := n0_; have HO125 := n1_; have HB := n2_; clear n0_ n1_ n2_; clear hb ho20; obtain ⟨Ao22, co22, eo22⟩ := Kd.R_slice HO_6.out; subst eo22) | ((with_reducible refine gate_builtin (b := .append) (xs := #[.tmp 37, .tmp 38]) rfl ?_); (try (refine gate_guard (by rfl) ?_; dsimp only)); at_builtin; refine Kd.R_append_rows (Kd.int .u8) (w0 := w) w.heap.size rfl (.tmp 37) (.tmp 38) 34 5 (.int .u8 0) 1 rfl Tryd.underlying34 info5 rfl (by decide) (by omega) v124 y123 x6_2 _ _ _ (fun k_ => some k_ ≠ (.slice Ao22 x6_2.length co22 : Value).ownBlock) (fun _ => False) rfl rfl ?aO ?aR (fun _ _ h => h) (fun _ h => h.elim) ?aF ?aB ?aS ?aL ?_; (case aR => repeat (first | exact (Kd.R_reads' HO_6.out).2.2 | (with_reducible refine Kd.C_alloc ?_ _) | (with_reducible refine Kd.C_drewN ?_ _) | (with_reducible refine Kd.C_drew ?_))); (case aB => exact (by repeat (first | (with_reducible first | exact HB.out | apply below_alloc | apply pw_below_drewN | apply below_drew1) | exact HB.out))); (case aF => exact (fun k_ hk => Kd.fresh' (Kd.R_lt (by (with_reducible repeat (first | apply Kd.R_alloc | apply Kd.R_drewN | apply Kd.R_drew)); exact HO_6.out)) k_ hk)); (case aO => exact (by (with_reducible repeat (first | apply Kd.R_alloc | apply Kd.R_drewN | apply Kd.R_drew)); exact Kd.R_mono HO125.out (fun _ hk => hk.2))); (case aS => exact (below_size (by repeat (first | (with_reducible first | exact HB.out | apply below_alloc | apply pw_below_drewN | apply below_drew1) | exact HB.out)))); (case aL => have := LMc15.out; omega); intro v127 w21 ho hb hg hat; rw [← Ny126.out] at ho; have n0_ := Aside0.mk (Kd.R_after (ok := (fun _ => True)) (by (with_reducible repeat (first | apply Kd.R_alloc | apply Kd.R_drewN | apply Kd.R_drew)); exact HO_6.out) hg hat); have n1_ := Aside0.mk (hb); have n2_ := Aside0.mk (ho); clear HO_6; clear HB; clear HO125; have HO_6 := n0_; have HB := n1_; have HO128 := n2_; clear n0_ n1_ n2_; clear ho hb hg hat; obtain ⟨Ao23, co23, eo23⟩ := Kd.R_slice HO128.out; subst eo23))
                            go_roundg kj10
                            case measure => have := HJ2.out; have := HK2.out; have := HJ6.out; have := HJ10.out; omega
                            case rel => exact ⟨(wrap64 (Int.tdiv x0_2 10)), (y126), (wrap64 (x7_2 + 1)), (by first | rfl | (simp; done) | (simp [*]; done)), (by first | rfl | (simp; done) | (simp [*]; done)), H', ⟨by have := HJ2.out; have := HK2.out; have := HJ6.out; have := HJ10.out; omega⟩, ⟨by (with_reducible repeat (first | apply Kd.R_alloc | apply Kd.R_drewN | apply Kd.R_drew)); exact Kd.R_mono HO128.out (fun _ hk => trivial)⟩, ⟨by repeat (first | (with_reducible first | exact HB.out | apply below_alloc | apply pw_below_drewN | apply below_drew1) | exact HB.out)⟩⟩
                          · rw [if_neg c18] at H
                            have c18b0 : (((wrap64 (48 + (Int.tmod x0_2 10))) % 256) == 48) = false := beq_eq_false_iff_ne.mpr c18
                            have c18b1 : (((wrap64 (48 + (Int.tmod x0_2 10))) % 256) != 48) = true := bne_iff_ne.mpr c18
                            obtain ⟨y129, hy129⟩ : ∃ y_ : List Int, y_ = (([(wrap64 (48 + (Int.tmod x0_2 10))) % 256] : List Int)) := ⟨_, rfl⟩
                            replace H : (if y129.length + y126.length < 140737488355328 then (spec_Decimal.l0 kj10 (wrap64 (Int.tdiv x0_2 10)) a1 true (y129 ++ y126) (wrap64 (x7_2 + 1))) else (none)) = some r := by first | (rw [hy129]; with_reducible exact H) | (have H2_ := (Option.bind_some _ _).symm.trans H; rw [hy129]; with_reducible exact H2_) | (have H2_ := (Option.bind_some _ _).symm.trans H; with_reducible exact H2_) | with_reducible exact H | (rw [hy129]; exact H) | exact H
                            have Ny129 := Aside0.mk hy129
                            clear hy129
                            by_cases c24 : y129.length + y126.length < 140737488355328
                            · rw [if_pos c24] at H
                              have LMc24 := Aside0.mk c24
                              clear c24
                              obtain ⟨y132, hy132⟩ : ∃ y_ : List Int, y_ = (y129 ++ y126) := ⟨_, rfl⟩
                              replace H : (spec_Decimal.l0 kj10 (wrap64 (Int.tdiv x0_2 10)) a1 true y132 (wrap64 (x7_2 + 1))) = some r := by first | (rw [hy132]; with_reducible exact H) | (have H2_ := (Option.bind_some _ _).symm.trans H; rw [hy132]; with_reducible exact H2_) | (have H2_ := (Option.bind_some _ _).symm.trans H; with_reducible exact H2_) | with_reducible exact H | (rw [hy132]; exact H) | exact H
                              have Ny132 := Aside0.mk hy132
                              clear hy132
                              have H' := Aside0.mk H
                              clear H
                              go_wp2_with (first | ((with_reducible refine gate_dst (N := 37) rfl ?_); (try (refine gate_guard (by rfl) ?_; dsimp only)); refine Kd.R_lit (Kd.int .u8) _ 5 ?hg (N := 37) ?hd (xs := ([46] : List Int)) (inner := [.int .u8 46]) (ok := fun _ => True) (okp := fun _ => True) ?hr ?hp (fun _ hk => hk) trivial (Below.refl _ _) (Nat.le_refl _) (by simp) ?_; (case hd => rfl); (case hg => rfl); (case hr => first | (go_simp; done) | (go_simp; rfl)); (case hp => exact (Reps.one (show Kd.M (Kd.int .u8) _ _ _ 46 [.int .u8 46] from rfl) (Reps.none _ _))); intro v124 w25 ho26 hb hg_ hnew_; clear hg_ hnew_; (first | rw [← Ny123.out] at ho26 | (simp only [Int.reduceToNat] at ho26; rw [← Ny123.out] at ho26)); have n0_ := Aside0.mk (Kd.R_elder' (by (with_reducible repeat (first | apply Kd.R_alloc | apply Kd.R_drewN | apply Kd.R_drew)); exact HO_6.out) (Kd.R_base ho26) hb); have n1_ := Aside0.mk (Kd.R_lower (Kd.R_new' ho26 (Kd.R_lt (by (with_reducible repeat (first | apply Kd.R_alloc | apply Kd.R_drewN | apply Kd.R_drew)); exact HO_6.out))) (below_size (by repeat (first | (with_reducible first | exact HB.out | apply below_alloc | apply pw_below_drewN | apply below_drew1) | exact HB.out)))); have n2_ := Aside0.mk (below_step (by repeat (first | (with_reducible first | exact HB.out | apply below_alloc | apply pw_below_drewN | apply below_drew1) | exact HB.out)) hb); clear HO_6; clear HB; have HO_6 := n0_; have HO125 := n1_; have HB := n2_; clear n0_ n1_ n2_; clear hb ho26; obtain ⟨Ao28, co28, eo28⟩ := Kd.R_slice HO_6.out; subst eo28) | ((with_reducible refine gate_builtin (b := .append) (xs := #[.tmp 37, .tmp 38]) rfl ?_); (try (refine gate_guard (by rfl) ?_; dsimp only)); at_builtin; refine Kd.R_append_rows (Kd.int .u8) (w0 := w) w.heap.size rfl (.tmp 37) (.tmp 38) 34 5 (.int .u8 0) 1 rfl Tryd.underlying34 info5 rfl (by decide) (by omega) v124 y123 x6_2 _ _ _ (fun k_ => some k_ ≠ (.slice Ao28 x6_2.length co28 : Value).ownBlock) (fun _ => False) rfl rfl ?aO ?aR (fun _ _ h => h) (fun _ h => h.elim) ?aF ?aB ?aS ?aL ?_; (case aR => repeat (first | exact (Kd.R_reads' HO_6.out).2.2 | (with_reducible refine Kd.C_alloc ?_ _) | (with_reducible refine Kd.C_drewN ?_ _) | (with_reducible refine Kd.C_drew ?_))); (case aB => exact (by repeat (first | (with_reducible first | exact HB.out | apply below_alloc | apply pw_below_drewN | apply below_drew1) | exact HB.out))); (case aF => exact (fun k_ hk => Kd.fresh' (Kd.R_lt (by (with_reducible repeat (first | apply Kd.R_alloc | apply Kd.R_drewN | apply Kd.R_drew)); exact HO_6.out)) k_ hk)); (case aO => exact (by (with_reducible repeat (first | apply Kd.R_alloc | apply Kd.R_drewN | apply Kd.R_drew)); exact Kd.R_mono HO125.out (fun _ hk => hk.2))); (case aS => exact (below_size (by repeat (first | (with_reducible first | exact HB.out | apply below_alloc | apply pw_below_drewN | apply below_drew1) | exact HB.out)))); (case aL => have := LMc15.out; omega); intro v127 w27 ho hb hg hat; rw [← Ny126.out] at ho; have n0_ := Aside0.mk (Kd.R_after (ok := (fun _ => True)) (by (with_reducible repeat (first | apply Kd.R_alloc | apply Kd.R_drewN | apply Kd.R_drew)); exact HO_6.out) hg hat); have n1_ := Aside0.mk (hb); have n2_ := Aside0.mk (ho); clear HO_6; clear HB; clear HO125; have HO_6 := n0_; have HB := n1_; have HO128 := n2_; clear n0_ n1_ n2_; clear ho hb hg hat; obtain ⟨Ao29, co29, eo29⟩ := Kd.R_slice HO128.out; subst eo29) | ((with_reducible refine gate_dst (N := 59) rfl ?_); (try (refine gate_guard (by rfl) ?_; dsimp only)); refine Kd.R_lit (Kd.int .u8) _ 5 ?hg (N := 59) ?hd (xs := ([(wrap64 (48 + (Int.tmod x0_2 10))) % 256] : List Int)) (inner := [.int .u8 ((wrap64 (48 + (Int.tmod x0_2 10))) % 256)]) (ok := fun _ => True) (okp := fun _ => True) ?hr ?hp (fun _ hk => hk) trivial (Below.refl _ _) (Nat.le_refl _) (by simp) ?_; (case hd => rfl); (case hg => rfl); (case hr => first | (go_simp; done) | (go_simp; rfl)); (case hp => exact (Reps.one (show Kd.M (Kd.int .u8) _ _ _ ((wrap64 (48 + (Int.tmod x0_2 10))) % 256) [.int .u8 ((wrap64 (48 + (Int.tmod x0_2 10))) % 256)] from rfl) (Reps.none _ _))); intro v130 w30 ho31 hb hg_ hnew_; clear hg_ hnew_; (first | rw [← Ny129.out] at ho31 | (simp only [Int.reduceToNat] at ho31; rw [← Ny129.out] at ho31)); have n0_ := Aside0.mk (Kd.R_elder' (by (with_reducible repeat (first | apply Kd.R_alloc | apply Kd.R_drewN | apply Kd.R_drew)); exact HO_6.out) (Kd.R_base ho31) hb); have n1_ := Aside0.mk (Kd.R_elder' (by (with_reducible repeat (first | apply Kd.R_alloc | apply Kd.R_drewN | apply Kd.R_drew)); exact HO128.out) (Kd.R_base ho31) hb); have n2_ := Aside0.mk (Kd.R_lower (Kd.R_new' (Kd.R_new' ho31 (Kd.R_lt (by (with_reducible repeat (first | apply Kd.R_alloc | apply Kd.R_drewN | apply Kd.R_drew)); exact HO_6.out))) (Kd.R_lt (by (with_reducible repeat (first | apply Kd.R_alloc | apply Kd.R_drewN | apply Kd.R_drew)); exact HO128.out))) (below_size (by repeat (first | (with_reducible first | exact HB.out | apply below_alloc | apply pw_below_drewN | apply below_drew1) | exact HB.out)))); have n3_ := Aside0.mk (below_step (by repeat (first | (with_reducible first | exact HB.out | apply below_alloc | apply pw_below_drewN | apply below_drew1) | exact HB.out)) hb); clear HO_6; clear HO128; clear HB; have HO_6 := n0_; have HO128 := n1_; have HO131 := n2_; have HB := n3_; clear n0_ n1_ n2_ n3_; clear hb ho31) | ((with_reducible refine gate_builtin (b := .append) (xs := #[.tmp 59, .tmp 60]) rfl ?_); (try (refine gate_guard (by rfl) ?_; dsimp only)); at_builtin; refine Kd.R_append_rows (Kd.int .u8) (w0 := w) w.heap.size rfl (.tmp 59) (.tmp 60) 34 5 (.int .u8 0) 1 rfl Tryd.underlying34 info5 rfl (by decide) (by omega) v130 y129 y126 _ _ _ (fun k_ => some k_ ≠ (.slice Ao28 x6_2.length co28 : Value).ownBlock ∧ some k_ ≠ (.slice Ao29 y126.length co29 : Value).ownBlock) (fun _ => False) rfl rfl ?aO ?aR (fun _ _ h => h) (fun _ h => h.elim) ?aF ?aB ?aS ?aL ?_; (case aR => repeat (first | exact (Kd.R_reads' HO128.out).2.2 | (with_reducible refine Kd.C_alloc ?_ _) | (with_reducible refine Kd.C_drewN ?_ _) | (with_reducible refine Kd.C_drew ?_))); (case aB => exact (by repeat (first | (with_reducible first | exact HB.out | apply below_alloc | apply pw_below_drewN | apply below_drew1) | exact HB.out))); (case aF => exact (fun k_ hk => ⟨Kd.fresh' (Kd.R_lt (by (with_reducible repeat (first | apply Kd.R_alloc | apply Kd.R_drewN | apply Kd.R_drew)); exact HO_6.out)) k_ hk, Kd.fresh' (Kd.R_lt (by (with_reducible repeat (first | apply Kd.R_alloc | apply Kd.R_drewN | apply Kd.R_drew)); exact HO128.out)) k_ hk⟩)); (case aO => exact (by (with_reducible repeat (first | apply Kd.R_alloc | apply Kd.R_drewN | apply Kd.R_drew)); exact Kd.R_mono HO131.out (fun _ hk => ⟨hk.1.2, hk.2⟩))); (case aS => exact (below_size (by repeat (first | (with_reducible first | exact HB.out | apply below_alloc | apply pw_below_drewN | apply below_drew1) | exact HB.out)))); (case aL => have := LMc24.out; omega); intro v133 w32 ho hb hg hat; rw [← Ny132.out] at ho; have n0_ := Aside0.mk (Kd.R_after (ok := (fun k_ => some k_ ≠ (.slice Ao29 y126.length co29 : Value).ownBlock)) (by (with_reducible repeat (first | apply Kd.R_alloc | apply Kd.R_drewN | apply Kd.R_drew)); exact Kd.R_mono HO_6.out (fun _ hk => ⟨hk.1.2, hk.2⟩)) hg hat); have n1_ := Aside0.mk (Kd.R_after (ok := (fun k_ => some k_ ≠ (.slice Ao28 x6_2.length co28 : Value).ownBlock)) (by (with_reducible repeat (first | apply Kd.R_alloc | apply Kd.R_drewN | apply Kd.R_drew)); exact HO128.out) hg hat); have n2_ := Aside0.mk (hb); have n3_ := Aside0.mk (ho); clear HO_6; clear HO128; clear HB; clear HO131; have HO_6 := n0_; have HO128 := n1_; have HB := n2_; have HO134 := n3_; clear n0_ n1_ n2_ n3_; clear ho hb hg hat))
                              go_roundg kj10
                              case measure => have := HJ2.out; have := HK2.out; have := HJ6.out; have := HJ10.out; omega
                              case rel => exact ⟨(wrap64 (Int.tdiv x0_2 10)), (y132), (wrap64 (x7_2 + 1)), (by first | rfl | (simp; done) | (simp [*]; done)), (by first | rfl | (simp; done) | (simp [*]; done)), H', ⟨by have := HJ2.out; have := HK2.out; have := HJ6.out; have := HJ10.out; omega⟩, ⟨by (with_reducible repeat (first | apply Kd.R_alloc | apply Kd.R_drewN | apply Kd.R_drew)); exact Kd.R_mono HO134.out (fun _ hk => trivial)⟩, ⟨by repeat (first | (with_reducible first | exact HB.out | apply below_alloc | apply pw_below_drewN | apply below_drew1) | exact HB.out)⟩⟩
                            · rw [if_neg c24] at H
                              exact absurd H (by simp)
                        · rw [if_neg c17] at H
                          have c17b0 : ((y126.length : Int) == 0) = false := beq_eq_false_iff_ne.mpr c17
                          have c17b1 : ((y126.length : Int) != 0) = true := bne_iff_ne.mpr c17
                          have c17b2 : ¬ (y126 = []) := fun h_ => c17 (by rw [h_]; rfl)
                          obtain ⟨y135, hy135⟩ : ∃ y_ : List Int, y_ = (([(wrap64 (48 + (Int.tmod x0_2 10))) % 256] : List Int)) := ⟨_, rfl⟩
                          replace H : (if y135.length + y126.length < 140737488355328 then (spec_Decimal.l0 kj10 (wrap64 (Int.tdiv x0_2 10)) a1 true (y135 ++ y126) (wrap64 (x7_2 + 1))) else (none)) = some r := by first | (rw [hy135]; with_reducible exact H) | (have H2_ := (Option.bind_some _ _).symm.trans H; rw [hy135]; with_reducible exact H2_) | (have H2_ := (Option.bind_some _ _).symm.trans H; with_reducible exact H2_) | with_reducible exact H | (rw [hy135]; exact H) | exact H
                          have Ny135 := Aside0.mk hy135
                          clear hy135
                          by_cases c33 : y135.length + y126.length < 140737488355328
                          · rw [if_pos c33] at H
                            have LMc33 := Aside0.mk c33
                            clear c33
                            obtain ⟨y138, hy138⟩ : ∃ y_ : List Int, y_ = (y135 ++ y126) := ⟨_, rfl⟩
                            replace H : (spec_Decimal.l0 kj10 (wrap64 (Int.tdiv x0_2 10)) a1 true y138 (wrap64 (x7_2 + 1))) = some r := by first | (rw [hy138]; with_reducible exact H) | (have H2_ := (Option.bind_some _ _).symm.trans H; rw [hy138]; with_reducible exact H2_) | (have H2_ := (Option.bind_some _ _).symm.trans H; with_reducible exact H2_) | with_reducible exact H | (rw [hy138]; exact H) | exact H
                            have Ny138 := Aside0.mk hy138
                            clear hy138
                            have H' := Aside0.mk H
                            clear H
                            go_wp2_with (first | ((with_reducible refine gate_dst (N := 37) rfl ?_); (try (refine gate_guard (by rfl) ?_; dsimp only)); refine Kd.R_lit (Kd.int .u8) _ 5 ?hg (N := 37) ?hd (xs := ([46] : List Int)) (inner := [.int .u8 46]) (ok := fun _ => True) (okp := fun _ => True) ?hr ?hp (fun _ hk => hk) trivial (Below.refl _ _) (Nat.le_refl _) (by simp) ?_; (case hd => rfl); (case hg => rfl); (case hr => first | (go_simp; done) | (go_simp; rfl)); (case hp => exact (Reps.one (show Kd.M (Kd.int .u8) _ _ _ 46 [.int .u8 46] from rfl) (Reps.none _ _))); intro v124 w34 ho35 hb hg_ hnew_; clear hg_ hnew_; (first | rw [← Ny123.out] at ho35 | (simp only [Int.reduceToNat] at ho35; rw [← Ny123.out] at ho35)); have n0_ := Aside0.mk (Kd.R_elder' (by (with_reducible repeat (first | apply Kd.R_alloc | apply Kd.R_drewN | apply Kd.R_drew)); exact HO_6.out) (Kd.R_base ho35) hb); have n1_ := Aside0.mk (Kd.R_lower (Kd.R_new' ho35 (Kd.R_lt (by (with_reducible repeat (first | apply Kd.R_alloc | apply Kd.R_drewN | apply Kd.R_drew)); exact HO_6.out))) (below_size (by repeat (first | (with_reducible first | exact HB.out | apply below_alloc | apply pw_below_drewN | apply below_drew1) | exact HB.out)))); have n2_ := Aside0.mk (below_step (by repeat (first | (with_reducible first | exact HB.out | apply below_alloc | apply pw_below_drewN | apply below_drew1) | exact HB.out)) hb); clear HO_6; clear HB; have HO_6 := n0_; have HO125 := n1_; have HB := n2_; clear n0_ n1_ n2_; clear hb ho35; obtain ⟨Ao37, co37, eo37⟩ := Kd.R_slice HO_6.out; subst eo37) | ((with_reducible refine gate_builtin (b := .append) (xs := #[.tmp 37, .tmp 38]) rfl ?_); (try (refine gate_guard (by rfl) ?_; dsimp only)); at_builtin; refine Kd.R_append_rows (Kd.int .u8) (w0 := w) w.heap.size rfl (.tmp 37) (.tmp 38) 34 5 (.int .u8 0) 1 rfl Tryd.underlying34 info5 rfl (by decide) (by omega) v124 y123 x6_2 _ _ _ (fun k_ => some k_ ≠ (.slice Ao37 x6_2.length co37 : Value).ownBlock) (fun _ => False) rfl rfl ?aO ?aR (fun _ _ h => h) (fun _ h => h.elim) ?aF ?aB ?aS ?aL ?_; (case aR => repeat (first | exact (Kd.R_reads' HO_6.out).2.2 | (with_reducible refine Kd.C_alloc ?_ _) | (with_reducible refine Kd.C_drewN ?_ _) | (with_reducible refine Kd.C_drew ?_))); (case aB => exact (by repeat (first | (with_reducible first | exact HB.out | apply below_alloc | apply pw_below_drewN | apply below_drew1) | exact HB.out))); (case aF => exact (fun k_ hk => Kd.fresh' (Kd.R_lt (by (with_reducible repeat (first | apply Kd.R_alloc | apply Kd.R_drewN | apply Kd.R_drew)); exact HO_6.out)) k_ hk)); (case aO => exact (by (with_reducible repeat (first | apply Kd.R_alloc | apply Kd.R_drewN | apply Kd.R_drew)); exact Kd.R_mono HO125.out (fun _ hk => hk.2))); (case aS => exact (below_size (by repeat (first | (with_reducible first | exact HB.out | apply below_alloc | apply pw_below_drewN | apply below_drew1) | exact HB.out)))); (case aL => have := LMc15.out; omega); intro v127 w36 ho hb hg hat; rw [← Ny126.out] at ho; have n0_ := Aside0.mk (Kd.R_after (ok := (fun _ => True)) (by (with_reducible repeat (first | apply Kd.R_alloc | apply Kd.R_drewN | apply Kd.R_drew)); exact HO_6.out) hg hat); have n1_ := Aside0.mk (hb); have n2_ := Aside0.mk (ho); clear HO_6; clear HB; clear HO125; have HO_6 := n0_; have HB := n1_; have HO128 := n2_; clear n0_ n1_ n2_; clear ho hb hg hat; obtain ⟨Ao38, co38, eo38⟩ := Kd.R_slice HO128.out; subst eo38) | ((with_reducible refine gate_dst (N := 59) rfl ?_); (try (refine gate_guard (by rfl) ?_; dsimp only)); refine Kd.R_lit (Kd.int .u8) _ 5 ?hg (N := 59) ?hd (xs := ([(wrap64 (48 + (Int.tmod x0_2 10))) % 256] : List Int)) (inner := [.int .u8 ((wrap64 (48 + (Int.tmod x0_2 10))) % 256)]) (ok := fun _ => True) (okp := fun _ => True) ?hr ?hp (fun _ hk => hk) trivial (Below.refl _ _) (Nat.le_refl _) (by simp) ?_; (case hd => rfl); (case hg => rfl); (case hr => first | (go_simp; done) | (go_simp; rfl)); (case hp => exact (Reps.one (show Kd.M (Kd.int .u8) _ _ _ ((wrap64 (48 + (Int.tmod x0_2 10))) % 256) [.int .u8 ((wrap64 (48 + (Int.tmod x0_2 10))) % 256)] from rfl) (Reps.none _ _))); intro v136 w39 ho40 hb hg_ hnew_; clear hg_ hnew_; (first | rw [← Ny135.out] at ho40 | (simp only [Int.reduceToNat] at ho40; rw [← Ny135.out] at ho40)); have n0_ := Aside0.mk (Kd.R_elder' (by (with_reducible repeat (first | apply Kd.R_alloc | apply Kd.R_drewN | apply Kd.R_drew)); exact HO_6.out) (Kd.R_base ho40) hb); have n1_ := Aside0.mk (Kd.R_elder' (by (with_reducible repeat (first | apply Kd.R_alloc | apply Kd.R_drewN | apply Kd.R_drew)); exact HO128.out) (Kd.R_base ho40) hb); have n2_ := Aside0.mk (Kd.R_lower (Kd.R_new' (Kd.R_new' ho40 (Kd.R_lt (by (with_reducible repeat (first | apply Kd.R_alloc | apply Kd.R_drewN | apply Kd.R_drew)); exact HO_6.out))) (Kd.R_lt (by (with_reducible repeat (first | apply Kd.R_alloc | apply Kd.R_drewN | apply Kd.R_drew)); exact HO128.out))) (below_size (by repeat (first | (with_reducible first | exact HB.out | apply below_alloc | apply pw_below_drewN | apply below_drew1) | exact HB.out)))); have n3_ := Aside0.mk (below_step (by repeat (first | (with_reducible first | exact HB.out | apply below_alloc | apply pw_below_drewN | apply below_drew1) | exact HB.out)) hb); clear HO_6; clear HO128; clear HB; have HO_6 := n0_; have HO128 := n1_; have HO137 := n2_; have HB := n3_; clear n0_ n1_ n2_ n3_; clear hb ho40) | ((with_reducible refine gate_builtin (b := .append) (xs := #[.tmp 59, .tmp 60]) rfl ?_); (try (refine gate_guard (by rfl) ?_; dsimp only)); at_builtin; refine Kd.R_append_rows (Kd.int .u8) (w0 := w) w.heap.size rfl (.tmp 59) (.tmp 60) 34 5 (.int .u8 0) 1 rfl Tryd.underlying34 info5 rfl (by decide) (by omega) v136 y135 y126 _ _ _ (fun k_ => some k_ ≠ (.slice Ao37 x6_2.length co37 : Value).ownBlock ∧ some k_ ≠ (.slice Ao38 y126.length co38 : Value).ownBlock) (fun _ => False) rfl rfl ?aO ?aR (fun _ _ h => h) (fun _ h => h.elim) ?aF ?aB ?aS ?aL ?_; (case aR => repeat (first | exact (Kd.R_reads' HO128.out).2.2 | (with_reducible refine Kd.C_alloc ?_ _) | (with_reducible refine Kd.C_drewN ?_ _) | (with_reducible refine Kd.C_drew ?_))); (case aB => exact (by repeat (first | (with_reducible first | exact HB.out | apply below_alloc | apply pw_below_drewN | apply below_drew1) | exact HB.out))); (case aF => exact (fun k_ hk => ⟨Kd.fresh' (Kd.R_lt (by (with_reducible repeat (first | apply Kd.R_alloc | apply Kd.R_drewN | apply Kd.R_drew)); exact HO_6.out)) k_ hk, Kd.fresh' (Kd.R_lt (by (with_reducible repeat (first | apply Kd.R_alloc | apply Kd.R_drewN | apply Kd.R_drew)); exact HO128.out)) k_ hk⟩)); (case aO => exact (by (with_reducible repeat (first | apply Kd.R_alloc | apply Kd.R_drewN | apply Kd.R_drew)); exact Kd.R_mono HO137.out (fun _ hk => ⟨hk.1.2, hk.2⟩))); (case aS => exact (below_size (by repeat (first | (with_reducible first | exact HB.out | apply below_alloc | apply pw_below_drewN | apply below_drew1) | exact HB.out)))); (case aL => have := LMc33.out; omega); intro v139 w41 ho hb hg hat; rw [← Ny138.out] at ho; have n0_ := Aside0.mk (Kd.R_after (ok := (fun k_ => some k_ ≠ (.slice Ao38 y126.length co38 : Value).ownBlock)) (by (with_reducible repeat (first | apply Kd.R_alloc | apply Kd.R_drewN | apply Kd.R_drew)); exact Kd.R_mono HO_6.out (fun _ hk => ⟨hk.1.2, hk.2⟩)) hg hat); have n1_ := Aside0.mk (Kd.R_after (ok := (fun k_ => some k_ ≠ (.slice Ao37 x6_2.length co37 : Value).ownBlock)) (by (with_reducible repeat (first | apply Kd.R_alloc | apply Kd.R_drewN | apply Kd.R_drew)); exact HO128.out) hg hat); have n2_ := Aside0.mk (hb); have n3_ := Aside0.mk (ho); clear HO_6; clear HO128; clear HB; clear HO137; have HO_6 := n0_; have HO128 := n1_; have HB := n2_; have HO140 := n3_; clear n0_ n1_ n2_ n3_; clear ho hb hg hat))
                            go_roundg kj10
                            case measure => have := HJ2.out; have := HK2.out; have := HJ6.out; have := HJ10.out; omega
                            case rel => exact ⟨(wrap64 (Int.tdiv x0_2 10)), (y138), (wrap64 (x7_2 + 1)), (by first | rfl | (simp; done) | (simp [*]; done)), (by first | rfl | (simp; done) | (simp [*]; done)), H', ⟨by have := HJ2.out; have := HK2.out; have := HJ6.out; have := HJ10.out; omega⟩, ⟨by (with_reducible repeat (first | apply Kd.R_alloc | apply Kd.R_drewN | apply Kd.R_drew)); exact Kd.R_mono HO140.out (fun _ hk => trivial)⟩, ⟨by repeat (first | (with_reducible first | exact HB.out | apply below_alloc | apply pw_below_drewN | apply below_drew1) | exact HB.out)⟩⟩
                          · rw [if_neg c33] at H
                            exact absurd H (by simp)
                      · rw [if_neg c16] at H
                        have c16b0 : decide (x7_2 < a1) = false := decide_eq_false c16
                        clear c16
                        obtain ⟨y141, hy141⟩ : ∃ y_ : List Int, y_ = (([(wrap64 (48 + (Int.tmod x0_2 10))) % 256] : List Int)) := ⟨_, rfl⟩
                        replace H : (if y141.length + y126.length < 140737488355328 then (spec_Decimal.l0 kj10 (wrap64 (Int.tdiv x0_2 10)) a1 true (y141 ++ y126) (wrap64 (x7_2 + 1))) else (none)) = some r := by first | (rw [hy141]; with_reducible exact H) | (have H2_ := (Option.bind_some _ _).symm.trans H; rw [hy141]; with_reducible exact H2_) | (have H2_ := (Option.bind_some _ _).symm.trans H; with_reducible exact H2_) | with_reducible exact H | (rw [hy141]; exact H) | exact H
                        have Ny141 := Aside0.mk hy141
                        clear hy141
                        by_cases c42 : y141.length + y126.length < 140737488355328
                        · rw [if_pos c42] at H
                          have LMc42 := Aside0.mk c42
                          clear c42
                          obtain ⟨y144, hy144⟩ : ∃ y_ : List Int, y_ = (y141 ++ y126) := ⟨_, rfl⟩
                          replace H : (spec_Decimal.l0 kj10 (wrap64 (Int.tdiv x0_2 10)) a1 true y144 (wrap64 (x7_2 + 1))) = some r := by first | (rw [hy144]; with_reducible exact H) | (have H2_ := (Option.bind_some _ _).symm.trans H; rw [hy144]; with_reducible exact H2_) | (have H2_ := (Option.bind_some _ _).symm.trans H; with_reducible exact H2_) | with_reducible exact H | (rw [hy144]; exact H) | exact H
                          have Ny144 := Aside0.mk hy144
                          clear hy144
                          have H' := Aside0.mk H
                          clear H
                          go_wp2_with (first | ((with_reducible refine gate_dst (N := 37) rfl ?_); (try (refine gate_guard (by rfl) ?_; dsimp only)); refine Kd.R_lit (Kd.int .u8) _ 5 ?hg (N := 37) ?hd (xs := ([46] : List Int)) (inner := [.int .u8 46]) (ok := fun _ => True) (okp := fun _ => True) ?hr ?hp (fun _ hk => hk) trivial (Below.refl _ _) (Nat.le_refl _) (by simp) ?_; (case hd => rfl); (case hg => rfl); (case hr => first | (go_simp; done) | (go_simp; rfl)); (case hp => exact (Reps.one (show Kd.M (Kd.int .u8) _ _ _ 46 [.int .u8 46] from rfl) (Reps.none _ _))); intro v124 w43 ho44 hb hg_ hnew_; clear hg_ hnew_; (first | rw [← Ny123.out] at ho44 | (simp only [Int.reduceToNat] at ho44; rw [← Ny123.out] at ho44)); have n0_ := Aside0.mk (Kd.R_elder' (by (with_reducible repeat (first | apply Kd.R_alloc | apply Kd.R_drewN | apply Kd.R_drew)); exact HO_6.out) (Kd.R_base ho44) hb); have n1_ := Aside0.mk (Kd.R_lower (Kd.R_new' ho44 (Kd.R_lt (by (with_reducible repeat (first | apply Kd.R_alloc | apply Kd.R_drewN | apply Kd.R_drew)); exact HO_6.out))) (below_size (by repeat (first | (with_reducible first | exact HB.out | apply below_alloc | apply pw_below_drewN | apply below_drew1) | exact HB.out)))); have n2_ := Aside0.mk (below_step (by repeat (first | (with_reducible first | exact HB.out | apply below_alloc | apply pw_below_drewN | apply below_drew1) | exact HB.out)) hb); clear HO_6; clear HB; have HO_6 := n0_; have HO125 := n1_; have HB := n2_; clear n0_ n1_ n2_; clear hb ho44; obtain ⟨Ao46, co46, eo46⟩ := Kd.R_slice HO_6.out; subst eo46) | ((with_reducible refine gate_builtin (b := .append) (xs := #[.tmp 37, .tmp 38]) rfl ?_); (try (refine gate_guard (by rfl) ?_; dsimp only)); at_builtin; refine Kd.R_append_rows (Kd.int .u8) (w0 := w) w.heap.size rfl (.tmp 37) (.tmp 38) 34 5 (.int .u8 0) 1 rfl Tryd.underlying34 info5 rfl (by decide) (by omega) v124 y123 x6_2 _ _ _ (fun k_ => some k_ ≠ (.slice Ao46 x6_2.length co46 : Value).ownBlock) (fun _ => False) rfl rfl ?aO ?aR (fun _ _ h => h) (fun _ h => h.elim) ?aF ?aB ?aS ?aL ?_; (case aR => repeat (first | exact (Kd.R_reads' HO_6.out).2.2 | (with_reducible refine Kd.C_alloc ?_ _) | (with_reducible refine Kd.C_drewN ?_ _) | (with_reducible refine Kd.C_drew ?_))); (case aB => exact (by repeat (first | (with_reducible first | exact HB.out | apply below_alloc | apply pw_below_drewN | apply below_drew1) | exact HB.out))); (case aF => exact (fun k_ hk => Kd.fresh' (Kd.R_lt (by (with_reducible repeat (first | apply Kd.R_alloc | apply Kd.R_drewN | apply Kd.R_drew)); exact HO_6.out)) k_ hk)); (case aO => exact (by (with_reducible repeat (first | apply Kd.R_alloc | apply Kd.R_drewN | apply Kd.R_drew)); exact Kd.R_mono HO125.out (fun _ hk => hk.2))); (case aS => exact (below_size (by repeat (first | (with_reducible first | exact HB.out | apply below_alloc | apply pw_below_drewN | apply below_drew1) | exact HB.out)))); (case aL => have := LMc15.out; omega); intro v127 w45 ho hb hg hat; rw [← Ny126.out] at ho; have n0_ := Aside0.mk (Kd.R_after (ok := (fun _ => True)) (by (with_reducible repeat (first | apply Kd.R_alloc | apply Kd.R_drewN | apply Kd.R_drew)); exact HO_6.out) hg hat); have n1_ := Aside0.mk (hb); have n2_ := Aside0.mk (ho); clear HO_6; clear HB; clear HO125; have HO_6 := n0_; have HB := n1_; have HO128 := n2_; clear n0_ n1_ n2_; clear ho hb hg hat) | ((with_reducible refine gate_dst (N := 59) rfl ?_); (try (refine gate_guard (by rfl) ?_; dsimp only)); refine Kd.R_lit (Kd.int .u8) _ 5 ?hg (N := 59) ?hd (xs := ([(wrap64 (48 + (Int.tmod x0_2 10))) % 256] : List Int)) (inner := [.int .u8 ((wrap64 (48 + (Int.tmod x0_2 10))) % 256)]) (ok := fun _ => True) (okp := fun _ => True) ?hr ?hp (fun _ hk => hk) trivial (Below.refl _ _) (Nat.le_refl _) (by simp) ?_; (case hd => rfl); (case hg => rfl); (case hr => first | (go_simp; done) | (go_simp; rfl)); (case hp => exact (Reps.one (show Kd.M (Kd.int .u8) _ _ _ ((wrap64 (48 + (Int.tmod x0_2 10))) % 256) [.int .u8 ((wrap64 (48 + (Int.tmod x0_2 10))) % 256)] from rfl) (Reps.none _ _))); intro v142 w47 ho48 hb hg_ hnew_; clear hg_ hnew_; (first | rw [← Ny141.out] at ho48 | (simp only [Int.reduceToNat] at ho48; rw [← Ny141.out] at ho48)); have n0_ := Aside0.mk (Kd.R_elder' (by (with_reducible repeat (first | apply Kd.R_alloc | apply Kd.R_drewN | apply Kd.R_drew)); exact HO_6.out) (Kd.R_base ho48) hb); have n1_ := Aside0.mk (Kd.R_elder' (by (with_reducible repeat (first | apply Kd.R_alloc | apply Kd.R_drewN | apply Kd.R_drew)); exact HO128.out) (Kd.R_base ho48) hb); have n2_ := Aside0.mk (Kd.R_lower (Kd.R_new' (Kd.R_new' ho48 (Kd.R_lt (by (with_reducible repeat (first | apply Kd.R_alloc | apply Kd.R_drewN | apply Kd.R_drew)); exact HO_6.out))) (Kd.R_lt (by (with_reducible repeat (first | apply Kd.R_alloc | apply Kd.R_drewN | apply Kd.R_drew)); exact HO128.out))) (below_size (by repeat (first | (with_reducible first | exact HB.out | apply below_alloc | apply pw_below_drewN | apply below_drew1) | exact HB.out)))); have n3_ := Aside0.mk (below_step (by repeat (first | (with_reducible first | exact HB.out | apply below_alloc | apply pw_below_drewN | apply below_drew1) | exact HB.out)) hb); clear HO_6; clear HO128; clear HB; have HO_6 := n0_; have HO128 := n1_; have HO143 := n2_; have HB := n3_; clear n0_ n1_ n2_ n3_; clear hb ho48; obtain ⟨Ao50, co50, eo50⟩ := Kd.R_slice HO128.out; subst eo50) | ((with_reducible refine gate_builtin (b := .append) (xs := #[.tmp 59, .tmp 60]) rfl ?_); (try (refine gate_guard (by rfl) ?_; dsimp only)); at_builtin; refine Kd.R_append_rows (Kd.int .u8) (w0 := w) w.heap.size rfl (.tmp 59) (.tmp 60) 34 5 (.int .u8 0) 1 rfl Tryd.underlying34 info5 rfl (by decide) (by omega) v142 y141 y126 _ _ _ (fun k_ => some k_ ≠ (.slice Ao46 x6_2.length co46 : Value).ownBlock ∧ some k_ ≠ (.slice Ao50 y126.length co50 : Value).ownBlock) (fun _ => False) rfl rfl ?aO ?aR (fun _ _ h => h) (fun _ h => h.elim) ?aF ?aB ?aS ?aL ?_; (case aR => repeat (first | exact (Kd.R_reads' HO128.out).2.2 | (with_reducible refine Kd.C_alloc ?_ _) | (with_reducible refine Kd.C_drewN ?_ _) | (with_reducible refine Kd.C_drew ?_))); (case aB => exact (by repeat (first | (with_reducible first | exact HB.out | apply below_alloc | apply pw_below_drewN | apply below_drew1) | exact HB.out))); (case aF => exact (fun k_ hk => ⟨Kd.fresh' (Kd.R_lt (by (with_reducible repeat (first | apply Kd.R_alloc | apply Kd.R_drewN | apply Kd.R_drew)); exact HO_6.out)) k_ hk, Kd.fresh' (Kd.R_lt (by (with_reducible repeat (first | apply Kd.R_alloc | apply Kd.R_drewN | apply Kd.R_drew)); exact HO128.out)) k_ hk⟩)); (case aO => exact (by (with_reducible repeat (first | apply Kd.R_alloc | apply Kd.R_drewN | apply Kd.R_drew)); exact Kd.R_mono HO143.out (fun _ hk => ⟨hk.1.2, hk.2⟩))); (case aS => exact (below_size (by repeat (first | (with_reducible first | exact HB.out | apply below_alloc | apply pw_below_drewN | apply below_drew1) | exact HB.out)))); (case aL => have := LMc42.out; omega); intro v145 w49 ho hb hg hat; rw [← Ny144.out] at ho; have n0_ := Aside0.mk (Kd.R_after (ok := (fun k_ => some k_ ≠ (.slice Ao50 y126.length co50 : Value).ownBlock)) (by (with_reducible repeat (first | apply Kd.R_alloc | apply Kd.R_drewN | apply Kd.R_drew)); exact Kd.R_mono HO_6.out (fun _ hk => ⟨hk.1.2, hk.2⟩)) hg hat); have n1_ := Aside0.mk (Kd.R_after (ok := (fun k_ => some k_ ≠ (.slice Ao46 x6_2.length co46 : Value).ownBlock)) (by (with_reducible repeat (first | apply Kd.R_alloc | apply Kd.R_drewN | apply Kd.R_drew)); exact HO128.out) hg hat); have n2_ := Aside0.mk (hb); have n3_ := Aside0.mk (ho); clear HO_6; clear HO128; clear HB; clear HO143; have HO_6 := n0_; have HO128 := n1_; have HB := n2_; have HO146 := n3_; clear n0_ n1_ n2_ n3_; clear ho hb hg hat))
                          go_roundg kj10
                          case measure => have := HJ2.out; have := HK2.out; have := HJ6.out; have := HJ10.out; omega
                          case rel => exact ⟨(wrap64 (Int.tdiv x0_2 10)), (y144), (wrap64 (x7_2 + 1)), (by first | rfl | (simp; done) | (simp [*]; done)), (by first | rfl | (simp; done) | (simp [*]; done)), H', ⟨by have := HJ2.out; have := HK2.out; have := HJ6.out; have := HJ10.out; omega⟩, ⟨by (with_reducible repeat (first | apply Kd.R_alloc | apply Kd.R_drewN | apply Kd.R_drew)); exact Kd.R_mono HO146.out (fun _ hk => trivial)⟩, ⟨by repeat (first | (with_reducible first | exact HB.out | apply below_alloc | apply pw_below_drewN | apply below_drew1) | exact HB.out)⟩⟩
                        · rw [if_neg c42] at H
                          exact absurd H (by simp)
                    · rw [if_neg c15] at H
                      exact absurd H (by simp)
                  · replace c14 := Bool.eq_false_iff.mpr c14
                    subst c14
                    have H1 : (if x7_2 < a1 then (if (x6_2.length : Int) = 0 then (if ((wrap64 (48 + (Int.tmod x0_2 10))) % 256) = 48 then (spec_Decimal.l0 kj10 (wrap64 (Int.tdiv x0_2 10)) a1 true x6_2 (wrap64 (x7_2 + 1))) else ((some (([(wrap64 (48 + (Int.tmod x0_2 10))) % 256] : List Int) : List Int)).bind fun y147 => (if y147.length + x6_2.length < 140737488355328 then (spec_Decimal.l0 kj10 (wrap64 (Int.tdiv x0_2 10)) a1 true (y147 ++ x6_2) (wrap64 (x7_2 + 1))) else (none)))) else ((some (([(wrap64 (48 + (Int.tmod x0_2 10))) % 256] : List Int) : List Int)).bind fun y153 => (if y153.length + x6_2.length < 140737488355328 then (spec_Decimal.l0 kj10 (wrap64 (Int.tdiv x0_2 10)) a1 true (y153 ++ x6_2) (wrap64 (x7_2 + 1))) else (none)))) else ((some (([(wrap64 (48 + (Int.tmod x0_2 10))) % 256] : List Int) : List Int)).bind fun y159 => (if y159.length + x6_2.length < 140737488355328 then (spec_Decimal.l0 kj10 (wrap64 (Int.tdiv x0_2 10)) a1 true (y159 ++ x6_2) (wrap64 (x7_2 + 1))) else (none)))) = some r := by rw [if_neg (show ¬ (false = true) by decide)] at H; exact H
                    clear H
                    have H := H1
                    clear H1
                    by_cases c51 : x7_2 < a1
                    · rw [if_pos c51] at H
                      have c51b0 : decide (x7_2 < a1) = true := decide_eq_true c51
                      clear c51
                      by_cases c52 : (x6_2.length : Int) = 0
                      · rw [if_pos c52] at H
                        have c52b0 : ((x6_2.length : Int) == 0) = true := beq_iff_eq.mpr c52
                        have c52b1 : ((x6_2.length : Int) != 0) = false := bne_eq_false_iff_eq.mpr c52
                        clear c52
                        by_cases c53 : ((wrap64 (48 + (Int.tmod x0_2 10))) % 256) = 48
                        · rw [if_pos c53] at H
                          have c53b0 : (((wrap64 (48 + (Int.tmod x0_2 10))) % 256) == 48) = true := beq_iff_eq.mpr c53
                          have c53b1 : (((wrap64 (48 + (Int.tmod x0_2 10))) % 256) != 48) = false := bne_eq_false_iff_eq.mpr c53
                          clear c53
                          have H' := Aside0.mk H
                          clear H
                          obtain ⟨Ao54, co54, eo54⟩ := Kd.R_slice HO_6.out
                          subst eo54
                          go_wp2
                          go_roundg kj10
                          case measure => have := HJ2.out; have := HK2.out; have := HJ6.out; have := HJ10.out; omega
                          case rel => exact ⟨(wrap64 (Int.tdiv x0_2 10)), (x6_2), (wrap64 (x7_2 + 1)), (by first | rfl | (simp; done) | (simp [*]; done)), (by first | rfl | (simp; done) | (simp [*]; done)), H', ⟨by have := HJ2.out; have := HK2.out; have := HJ6.out; have := HJ10.out; omega⟩, ⟨by (with_reducible repeat (first | apply Kd.R_alloc | apply Kd.R_drewN | apply Kd.R_drew)); exact HO_6.out⟩, ⟨by repeat (first | (with_reducible first | exact HB.out | apply below_alloc | apply pw_below_drewN | apply below_drew1) | exact HB.out)⟩⟩
                        · rw [if_neg c53] at H
                          have c53b0 : (((wrap64 (48 + (Int.tmod x0_2 10))) % 256) == 48) = false := beq_eq_false_iff_ne.mpr c53
                          have c53b1 : (((wrap64 (48 + (Int.tmod x0_2 10))) % 256) != 48) = true := bne_iff_ne.mpr c53
                          obtain ⟨y147, hy147⟩ : ∃ y_ : List Int, y_ = (([(wrap64 (48 + (Int.tmod x0_2 10))) % 256] : List Int)) := ⟨_, rfl⟩
                          replace H : (if y147.length + x6_2.length < 140737488355328 then (spec_Decimal.l0 kj10 (wrap64 (Int.tdiv x0_2 10)) a1 true (y147 ++ x6_2) (wrap64 (x7_2 + 1))) else (none)) = some r := by first | (rw [hy147]; with_reducible exact H) | (have H2_ := (Option.bind_some _ _).symm.trans H; rw [hy147]; with_reducible exact H2_) | (have H2_ := (Option.bind_some _ _).symm.trans H; with_reducible exact H2_) | with_reducible exact H | (rw [hy147]; exact H) | exact H
                          have Ny147 := Aside0.mk hy147
                          clear hy147
                          by_cases c55 : y147.length + x6_2.length < 140737488355328
                          · rw [if_pos c55] at H
                            have LMc55 := Aside0.mk c55
                            clear c55
                            obtain ⟨y150, hy150⟩ : ∃ y_ : List Int, y_ = (y147 ++ x6_2) := ⟨_, rfl⟩
                            replace H : (spec_Decimal.l0 kj10 (wrap64 (Int.tdiv x0_2 10)) a1 true y150 (wrap64 (x7_2 + 1))) = some r := by first | (rw [hy150]; with_reducible exact H) | (have H2_ := (Option.bind_some _ _).symm.trans H; rw [hy150]; with_reducible exact H2_) | (have H2_ := (Option.bind_some _ _).symm.trans H; with_reducible exact H2_) | with_reducible exact H | (rw [hy150]; exact H) | exact H
                            have Ny150 := Aside0.mk hy150
                            clear hy150
                            have H' := Aside0.mk H
                            clear H
                            obtain ⟨Ao56, co56, eo56⟩ := Kd.R_slice HO_6.out
                            subst eo56
                            go_wp2_with (first | ((with_reducible refine gate_dst (N := 59) rfl ?_); (try (refine gate_guard (by rfl) ?_; dsimp only)); refine Kd.R_lit (Kd.int .u8) _ 5 ?hg (N := 59) ?hd (xs := ([(wrap64 (48 + (Int.tmod x0_2 10))) % 256] : List Int)) (inner := [.int .u8 ((wrap64 (48 + (Int.tmod x0_2 10))) % 256)]) (ok := fun _ => True) (okp := fun _ => True) ?hr ?hp (fun _ hk => hk) trivial (Below.refl _ _) (Nat.le_refl _) (by simp) ?_; (case hd => rfl); (case hg => rfl); (case hr => first | (go_simp; done) | (go_simp; rfl)); (case hp => exact (Reps.one (show Kd.M (Kd.int .u8) _ _ _ ((wrap64 (48 + (Int.tmod x0_2 10))) % 256) [.int .u8 ((wrap64 (48 + (Int.tmod x0_2 10))) % 256)] from rfl) (Reps.none _ _))); intro v148 w57 ho58 hb hg_ hnew_; clear hg_ hnew_; (first | rw [← Ny147.out] at ho58 | (simp only [Int.reduceToNat] at ho58; rw [← Ny147.out] at ho58)); have n0_ := Aside0.mk (Kd.R_elder' (by (with_reducible repeat (first | apply Kd.R_alloc | apply Kd.R_drewN | apply Kd.R_drew)); exact HO_6.out) (Kd.R_base ho58) hb); have n1_ := Aside0.mk (Kd.R_lower (Kd.R_new' ho58 (Kd.R_lt (by (with_reducible repeat (first | apply Kd.R_alloc | apply Kd.R_drewN | apply Kd.R_drew)); exact HO_6.out))) (below_size (by repeat (first | (with_reducible first | exact HB.out | apply below_alloc | apply pw_below_drewN | apply below_drew1) | exact HB.out)))); have n2_ := Aside0.mk (below_step (by repeat (first | (with_reducible first | exact HB.out | apply below_alloc | apply pw_below_drewN | apply below_drew1) | exact HB.out)) hb); clear HO_6; clear HB; have HO_6 := n0_; have HO149 := n1_; have HB := n2_; clear n0_ n1_ n2_; clear hb ho58) | ((with_reducible refine gate_builtin (b := .append) (xs := #[.tmp 59, .tmp 60]) rfl ?_); (try (refine gate_guard (by rfl) ?_; dsimp only)); at_builtin; refine Kd.R_append_rows (Kd.int .u8) (w0 := w) w.heap.size rfl (.tmp 59) (.tmp 60) 34 5 (.int .u8 0) 1 rfl Tryd.underlying34 info5 rfl (by decide) (by omega) v148 y147 x6_2 _ _ _ (fun k_ => some k_ ≠ (.slice Ao56 x6_2.length co56 : Value).ownBlock) (fun _ => False) rfl rfl ?aO ?aR (fun _ _ h => h) (fun _ h => h.elim) ?aF ?aB ?aS ?aL ?_; (case aR => repeat (first | exact (Kd.R_reads' HO_6.out).2.2 | (with_reducible refine Kd.C_alloc ?_ _) | (with_reducible refine Kd.C_drewN ?_ _) | (with_reducible refine Kd.C_drew ?_))); (case aB => exact (by repeat (first | (with_reducible first | exact HB.out | apply below_alloc | apply pw_below_drewN | apply below_drew1) | exact HB.out))); (case aF => exact (fun k_ hk => Kd.fresh' (Kd.R_lt (by (with_reducible repeat (first | apply Kd.R_alloc | apply Kd.R_drewN | apply Kd.R_drew)); exact HO_6.out)) k_ hk)); (case aO => exact (by (with_reducible repeat (first | apply Kd.R_alloc | apply Kd.R_drewN | apply Kd.R_drew)); exact Kd.R_mono HO149.out (fun _ hk => hk.2))); (case aS => exact (below_size (by repeat (first | (with_reducible first | exact HB.out | apply below_alloc | apply pw_below_drewN | apply below_drew1) | exact HB.out)))); (case aL => have := LMc55.out; omega); intro v151 w59 ho hb hg hat; rw [← Ny150.out] at ho; have n0_ := Aside0.mk (Kd.R_after (ok := (fun _ => True)) (by (with_reducible repeat (first | apply Kd.R_alloc | apply Kd.R_drewN | apply Kd.R_drew)); exact HO_6.out) hg hat); have n1_ := Aside0.mk (hb); have n2_ := Aside0.mk (ho); clear HO_6; clear HB; clear HO149; have HO_6 := n0_; have HB := n1_; have HO152 := n2_; clear n0_ n1_ n2_; clear ho hb hg hat))
                            go_roundg kj10
                            case measure => have := HJ2.out; have := HK2.out; have := HJ6.out; have := HJ10.out; omega
                            case rel => exact ⟨(wrap64 (Int.tdiv x0_2 10)), (y150), (wrap64 (x7_2 + 1)), (by first | rfl | (simp; done) | (simp [*]; done)), (by first | rfl | (simp; done) | (simp [*]; done)), H', ⟨by have := HJ2.out; have := HK2.out; have := HJ6.out; have := HJ10.out; omega⟩, ⟨by (with_reducible repeat (first | apply Kd.R_alloc | apply Kd.R_drewN | apply Kd.R_drew)); exact Kd.R_mono HO152.out (fun _ hk => trivial)⟩, ⟨by repeat (first | (with_reducible first | exact HB.out | apply below_alloc | apply pw_below_drewN | apply below_drew1) | exact HB.out)⟩⟩
                          · rw [if_neg c55] at H
                            exact absurd H (by simp)
                      · rw [if_neg c52] at H
                        have c52b0 : ((x6_2.length : Int) == 0) = false := beq_eq_false_iff_ne.mpr c52
                        have c52b1 : ((x6_2.length : Int) != 0) = true := bne_iff_ne.mpr c52
                        have c52b2 : ¬ (x6_2 = []) := fun h_ => c52 (by rw [h_]; rfl)
                        obtain ⟨y153, hy153⟩ : ∃ y_ : List Int, y_ = (([(wrap64 (48 + (Int.tmod x0_2 10))) % 256] : List Int)) := ⟨_, rfl⟩
                        replace H : (if y153.length + x6_2.length < 140737488355328 then (spec_Decimal.l0 kj10 (wrap64 (Int.tdiv x0_2 10)) a1 true (y153 ++ x6_2) (wrap64 (x7_2 + 1))) else (none)) = some r := by first | (rw [hy153]; with_reducible exact H) | (have H2_ := (Option.bind_some _ _).symm.trans H; rw [hy153]; with_reducible exact H2_) | (have H2_ := (Option.bind_some _ _).symm.trans H; with_reducible exact H2_) | with_reducible exact H | (rw [hy153]; exact H) | exact H
                        have Ny153 := Aside0.mk hy153
                        clear hy153
                        by_cases c60 : y153.length + x6_2.length < 140737488355328
                        · rw [if_pos c60] at H
                          have LMc60 := Aside0.mk c60
                          clear c60
                          obtain ⟨y156, hy156⟩ : ∃ y_ : List Int, y_ = (y153 ++ x6_2) := ⟨_, rfl⟩
                          replace H : (spec_Decimal.l0 kj10 (wrap64 (Int.tdiv x0_2 10)) a1 true y156 (wrap64 (x7_2 + 1))) = some r := by first | (rw [hy156]; with_reducible exact H) | (have H2_ := (Option.bind_some _ _).symm.trans H; rw [hy156]; with_reducible exact H2_) | (have H2_ := (Option.bind_some _ _).symm.trans H; with_reducible exact H2_) | with_reducible exact H | (rw [hy156]; exact H) | exact H
                          have Ny156 := Aside0.mk hy156
                          clear hy156
                          have H' := Aside0.mk H
                          clear H
                          obtain ⟨Ao61, co61, eo61⟩ := Kd.R_slice HO_6.out
                          subst eo61
                          go_wp2_with (first | ((with_reducible refine gate_dst (N := 59) rfl ?_); (try (refine gate_guard (by rfl) ?_; dsimp only)); refine Kd.R_lit (Kd.int .u8) _ 5 ?hg (N := 59) ?hd (xs := ([(wrap64 (48 + (Int.tmod x0_2 10))) % 256] : List Int)) (inner := [.int .u8 ((wrap64 (48 + (Int.tmod x0_2 10))) % 256)]) (ok := fun _ => True) (okp := fun _ => True) ?hr ?hp (fun _ hk => hk) trivial (Below.refl _ _) (Nat.le_refl _) (by simp) ?_; (case hd => rfl); (case hg => rfl); (case hr => first | (go_simp; done) | (go_simp; rfl)); (case hp => exact (Reps.one (show Kd.M (Kd.int .u8) _ _ _ ((wrap64 (48 + (Int.tmod x0_2 10))) % 256) [.int .u8 ((wrap64 (48 + (Int.tmod x0_2 10))) % 256)] from rfl) (Reps.none _ _))); intro v154 w62 ho63 hb hg_ hnew_; clear hg_ hnew_; (first | rw [← Ny153.out] at ho63 | (simp only [Int.reduceToNat] at ho63; rw [← Ny153.out] at ho63)); have n0_ := Aside0.mk (Kd.R_elder' (by (with_reducible repeat (first | apply Kd.R_alloc | apply Kd.R_drewN | apply Kd.R_drew)); exact HO_6.out) (Kd.R_base ho63) hb); have n1_ := Aside0.mk (Kd.R_lower (Kd.R_new' ho63 (Kd.R_lt (by (with_reducible repeat (first | apply Kd.R_alloc | apply Kd.R_drewN | apply Kd.R_drew)); exact HO_6.out))) (below_size (by repeat (first | (with_reducible first | exact HB.out | apply below_alloc | apply pw_below_drewN | apply below_drew1) | exact HB.out)))); have n2_ := Aside0.mk (below_step (by repeat (first | (with_reducible first | exact HB.out | apply below_alloc | apply pw_below_drewN | apply below_drew1) | exact HB.out)) hb); clear HO_6; clear HB; have HO_6 := n0_; have HO155 := n1_; have HB := n2_; clear n0_ n1_ n2_; clear hb ho63) | ((with_reducible refine gate_builtin (b := .append) (xs := #[.tmp 59, .tmp 60]) rfl ?_); (try (refine gate_guard (by rfl) ?_; dsimp only)); at_builtin; refine Kd.R_append_rows (Kd.int .u8) (w0 := w) w.heap.size rfl (.tmp 59) (.tmp 60) 34 5 (.int .u8 0) 1 rfl Tryd.underlying34 info5 rfl (by decide) (by omega) v154 y153 x6_2 _ _ _ (fun k_ => some k_ ≠ (.slice Ao61 x6_2.length co61 : Value).ownBlock) (fun _ => False) rfl rfl ?aO ?aR (fun _ _ h => h) (fun _ h => h.elim) ?aF ?aB ?aS ?aL ?_; (case aR => repeat (first | exact (Kd.R_reads' HO_6.out).2.2 | (with_reducible refine Kd.C_alloc ?_ _) | (with_reducible refine Kd.C_drewN ?_ _) | (with_reducible refine Kd.C_drew ?_))); (case aB => exact (by repeat (first | (with_reducible first | exact HB.out | apply below_alloc | apply pw_below_drewN | apply below_drew1) | exact HB.out))); (case aF => exact (fun k_ hk => Kd.fresh' (Kd.R_lt (by (with_reducible repeat (first | apply Kd.R_alloc | apply Kd.R_drewN | apply Kd.R_drew)); exact HO_6.out)) k_ hk)); (case aO => exact (by (with_reducible repeat (first | apply Kd.R_alloc | apply Kd.R_drewN | apply Kd.R_drew)); exact Kd.R_mono HO155.out (fun _ hk => hk.2))); (case aS => exact (below_size (by repeat (first | (with_reducible first | exact HB.out | apply below_alloc | apply pw_below_drewN | apply below_drew1) | exact HB.out)))); (case aL => have := LMc60.out; omega); intro v157 w64 ho hb hg hat; rw [← Ny156.out] at ho; have n0_ := Aside0.mk (Kd.R_after (ok := (fun _ => True)) (by (with_reducible repeat (first | apply Kd.R_alloc | apply Kd.R_drewN | apply Kd.R_drew)); exact HO_6.out) hg hat); have n1_ := Aside0.mk (hb); have n2_ := Aside0.mk (ho); clear HO_6; clear HB; clear HO155; have HO_6 := n0_; have HB := n1_; have HO158 := n2_; clear n0_ n1_ n2_; clear ho hb hg hat))
                          go_roundg kj10
                          case measure => have := HJ2.out; have := HK2.out; have := HJ6.out; have := HJ10.out; omega
                          case rel => exact ⟨(wrap64 (Int.tdiv x0_2 10)), (y156), (wrap64 (x7_2 + 1)), (by first | rfl | (simp; done) | (simp [*]; done)), (by first | rfl | (simp; done) | (simp [*]; done)), H', ⟨by have := HJ2.out; have := HK2.out; have := HJ6.out; have := HJ10.out; omega⟩, ⟨by (with_reducible repeat (first | apply Kd.R_alloc | apply Kd.R_drewN | apply Kd.R_drew)); exact Kd.R_mono HO158.out (fun _ hk => trivial)⟩, ⟨by repeat (first | (with_reducible first | exact HB.out | apply below_alloc | apply pw_below_drewN | apply below_drew1) | exact HB.out)⟩⟩
                        · rw [if_neg c60] at H
                          exact absurd H (by simp)
                    · rw [if_neg c51] at H
                      have c51b0 : decide (x7_2 < a1) = false := decide_eq_false c51
                      clear c51
                      obtain ⟨y159, hy159⟩ : ∃ y_ : List Int, y_ = (([(wrap64 (48 + (Int.tmod x0_2 10))) % 256] : List Int)) := ⟨_, rfl⟩
                      replace H : (if y159.length + x6_2.length < 140737488355328 then (spec_Decimal.l0 kj10 (wrap64 (Int.tdiv x0_2 10)) a1 true (y159 ++ x6_2) (wrap64 (x7_2 + 1))) else (none)) = some r := by first | (rw [hy159]; with_reducible exact H) | (have H2_ := (Option.bind_some _ _).symm.trans H; rw [hy159]; with_reducible exact H2_) | (have H2_ := (Option.bind_some _ _).symm.trans H; with_reducible exact H2_) | with_reducible exact H | (rw [hy159]; exact H) | exact H
                      have Ny159 := Aside0.mk hy159
                      clear hy159
                      by_cases c65 : y159.length + x6_2.length < 140737488355328
                      · rw [if_pos c65] at H
                        have LMc65 := Aside0.mk c65
                        clear c65
                        obtain ⟨y162, hy162⟩ : ∃ y_ : List Int, y_ = (y159 ++ x6_2) := ⟨_, rfl⟩
                        replace H : (spec_Decimal.l0 kj10 (wrap64 (Int.tdiv x0_2 10)) a1 true y162 (wrap64 (x7_2 + 1))) = some r := by first | (rw [hy162]; with_reducible exact H) | (have H2_ := (Option.bind_some _ _).symm.trans H; rw [hy162]; with_reducible exact H2_) | (have H2_ := (Option.bind_some _ _).symm.trans H; with_reducible exact H2_) | with_reducible exact H | (rw [hy162]; exact H) | exact H
                        have Ny162 := Aside0.mk hy162
                        clear hy162
                        have H' := Aside0.mk H
                        clear H
                        go_wp2_with (first | ((with_reducible refine gate_dst (N := 59) rfl ?_); (try (refine gate_guard (by rfl) ?_; dsimp only)); refine Kd.R_lit (Kd.int .u8) _ 5 ?hg (N := 59) ?hd (xs := ([(wrap64 (48 + (Int.tmod x0_2 10))) % 256] : List Int)) (inner := [.int .u8 ((wrap64 (48 + (Int.tmod x0_2 10))) % 256)]) (ok := fun _ => True) (okp := fun _ => True) ?hr ?hp (fun _ hk => hk) trivial (Below.refl _ _) (Nat.le_refl _) (by simp) ?_; (case hd => rfl); (case hg => rfl); (case hr => first | (go_simp; done) | (go_simp; rfl)); (case hp => exact (Reps.one (show Kd.M (Kd.int .u8) _ _ _ ((wrap64 (48 + (Int.tmod x0_2 10))) % 256) [.int .u8 ((wrap64 (48 + (Int.tmod x0_2 10))) % 256)] from rfl) (Reps.none _ _))); intro v160 w66 ho67 hb hg_ hnew_; clear hg_ hnew_; (first | rw [← Ny159.out] at ho67 | (simp only [Int.reduceToNat] at ho67; rw [← Ny159.out] at ho67)); have n0_ := Aside0.mk (Kd.R_elder' (by (with_reducible repeat (first | apply Kd.R_alloc | apply Kd.R_drewN | apply Kd.R_drew)); exact HO_6.out) (Kd.R_base ho67) hb); have n1_ := Aside0.mk (Kd.R_lower (Kd.R_new' ho67 (Kd.R_lt (by (with_reducible repeat (first | apply Kd.R_alloc | apply Kd.R_drewN | apply Kd.R_drew)); exact HO_6.out))) (below_size (by repeat (first | (with_reducible first | exact HB.out | apply below_alloc | apply pw_below_drewN | apply below_drew1) | exact HB.out)))); have n2_ := Aside0.mk (below_step (by repeat (first | (with_reducible first | exact HB.out | apply below_alloc | apply pw_below_drewN | apply below_drew1) | exact HB.out)) hb); clear HO_6; clear HB; have HO_6 := n0_; have HO161 := n1_; have HB := n2_; clear n0_ n1_ n2_; clear hb ho67; obtain ⟨Ao69, co69, eo69⟩ := Kd.R_slice HO_6.out; subst eo69) | ((with_reducible refine gate_builtin (b := .append) (xs := #[.tmp 59, .tmp 60]) rfl ?_); (try (refine gate_guard (by rfl) ?_; dsimp only)); at_builtin; refine Kd.R_append_rows (Kd.int .u8) (w0 := w) w.heap.size rfl (.tmp 59) (.tmp 60) 34 5 (.int .u8 0) 1 rfl Tryd.underlying34 info5 rfl (by decide) (by omega) v160 y159 x6_2 _ _ _ (fun k_ => some k_ ≠ (.slice Ao69 x6_2.length co69 : Value).ownBlock) (fun _ => False) rfl rfl ?aO ?aR (fun _ _ h => h) (fun _ h => h.elim) ?aF ?aB ?aS ?aL ?_; (case aR => repeat (first | exact (Kd.R_reads' HO_6.out).2.2 | (with_reducible refine Kd.C_alloc ?_ _) | (with_reducible refine Kd.C_drewN ?_ _) | (with_reducible refine Kd.C_drew ?_))); (case aB => exact (by repeat (first | (with_reducible first | exact HB.out | apply below_alloc | apply pw_below_drewN | apply below_drew1) | exact HB.out))); (case aF => exact (fun k_ hk => Kd.fresh' (Kd.R_lt (by (with_reducible repeat (first | apply Kd.R_alloc | apply Kd.R_drewN | apply Kd.R_drew)); exact HO_6.out)) k_ hk)); (case aO => exact (by (with_reducible repeat (first | apply Kd.R_alloc | apply Kd.R_drewN | apply Kd.R_drew)); exact Kd.R_mono HO161.out (fun _ hk => hk.2))); (case aS => exact (below_size (by repeat (first | (with_reducible first | exact HB.out | apply below_alloc | apply pw_below_drewN | apply below_drew1) | exact HB.out)))); (case aL => have := LMc65.out; omega); intro v163 w68 ho hb hg hat; rw [← Ny162.out] at ho; have n0_ := Aside0.mk (Kd.R_after (ok := (fun _ => True)) (by (with_reducible repeat (first | apply Kd.R_alloc | apply Kd.R_drewN | apply Kd.R_drew)); exact HO_6.out) hg hat); have n1_ := Aside0.mk (hb); have n2_ := Aside0.mk (ho); clear HO_6; clear HB; clear HO161; have HO_6 := n0_; have HB := n1_; have HO164 := n2_; clear n0_ n1_ n2_; clear ho hb hg hat))
                        go_roundg kj10
                        case measure => have := HJ2.out; have := HK2.out; have := HJ6.out; have := HJ10.out; omega
                        case rel => exact ⟨(wrap64 (Int.tdiv x0_2 10)), (y162), (wrap64 (x7_2 + 1)), (by first | rfl | (simp; done) | (simp [*]; done)), (by first | rfl | (simp; done) | (simp [*]; done)), H', ⟨by have := HJ2.out; have := HK2.out; have := HJ6.out; have := HJ10.out; omega⟩, ⟨by (with_reducible repeat (first | apply Kd.R_alloc | apply Kd.R_drewN | apply Kd.R_drew)); exact Kd.R_mono HO164.out (fun _ hk => trivial)⟩, ⟨by repeat (first | (with_reducible first | exact HB.out | apply below_alloc | apply pw_below_drewN | apply below_drew1) | exact HB.out)⟩⟩
                      · rw [if_neg c65] at H
                        exact absurd H (by simp)
            · replace c10 := Bool.eq_false_iff.mpr c10
              subst c10
              have H1 : (if true = true then (if 1 + (strOfNums x6_2).size ≤ 9223372036854775807 then (some ((⟨#[45]⟩ : ByteArray) ++ (strOfNums x6_2))) else (none)) else (some (strOfNums x6_2))) = some r := by rw [if_neg (show ¬ (false = true) by decide)] at H; exact H
              clear H
              have H := H1
              clear H1
              by_cases c70 : true = true
              · rw [if_pos c70] at H
                have c70b0 : true = true := c70
                clear c70
                by_cases c71 : 1 + (strOfNums x6_2).size ≤ 9223372036854775807
                · rw [if_pos c71] at H
                  have c71b0 := eq_true c71
                  have c71b1 : decide (1 + (strOfNums x6_2).size ≤ 9223372036854775807) = true := decide_eq_true c71
                  try have c71b2 : (9223372036854775807 < 1 + (strOfNums x6_2).size) = False := eq_false (Nat.not_lt.2 c71)
                  obtain rfl := Option.some.inj H
                  have hcv72 := own_string (P := Tryd.prog) Tryd.underlying34 Tryd.underlying5 Tryd.underlying9 (Kd.own_of_R HO_6.out)
                  go_wp2
                  go_ret
                  exact ⟨by first | rfl | (simp [errW_none, errW_some] <;> rfl) | (simp [*, errW_none, errW_some] <;> rfl), by repeat (first | (with_reducible first | exact HB.out | apply below_alloc | apply pw_below_drewN | apply below_drew1) | exact HB.out)⟩
                · rw [if_neg c71] at H
                  exact absurd H (by simp)
              · exact absurd rfl c70

set_option maxHeartbeats 8000000 in
set_option maxRecDepth 100000 in
theorem spec_Decimal.calls_pos (k : Nat) (a0 : Int) (a1 : Int) (c4 : 0 ≤ a0) (r : ByteArray) (w : World) (h : spec_Decimal.j0 k a0 a1 false = some r) :
    Calls Tryd.prog 7 #[.int .i64 a0, .int .i64 a1] w fun e w' => e = .returned (.string r) ∧ Below w.heap.size w w' := by
  have HB := Aside0.mk (Below.refl w.heap.size w)
  have HA := Aside0.mk h
  clear h
  go_enter Tryd.func7, Tryd.ntmps7
  cases k with
  | zero => exact absurd HA.out (by simp [spec_Decimal.j0])
  | succ kj2 =>
    have HJ2 : Aside0 (kj2 + 1 ≤ kj2 + 1) := ⟨Nat.le_refl _⟩
    have H := HA.out
    clear HA
    simp only [spec_Decimal.j0] at H
    obtain ⟨y120, hy120⟩ : ∃ y_ : List Int, y_ = (([] : List Int)) := ⟨_, rfl⟩
    replace H : (spec_Decimal.l0 kj2 a0 a1 false y120 0) = some r := by first | (rw [hy120]; with_reducible exact H) | (have H2_ := (Option.bind_some _ _).symm.trans H; rw [hy120]; with_reducible exact H2_) | (have H2_ := (Option.bind_some _ _).symm.trans H; with_reducible exact H2_) | with_reducible exact H | (rw [hy120]; exact H) | exact H
    have Ny120 := Aside0.mk hy120
    clear hy120
    have H' := Aside0.mk H
    clear H
    go_wp2_with (first | ((with_reducible refine gate_dst (N := 14) rfl ?_); (try (refine gate_guard (by rfl) ?_; dsimp only)); refine Kd.R_lit (Kd.int .u8) _ 5 ?hg (N := 14) ?hd (xs := ([] : List Int)) (inner := []) (ok := fun _ => True) (okp := fun _ => True) ?hr ?hp (fun _ hk => hk) trivial (Below.refl _ _) (Nat.le_refl _) (by simp) ?_; (case hd => rfl); (case hg => rfl); (case hr => first | (go_simp; done) | (go_simp; rfl)); (case hp => exact (Reps.none _ _)); intro v121 w5 ho6 hb hg_ hnew_; clear hg_ hnew_; (first | rw [← Ny120.out] at ho6 | (simp only [Int.reduceToNat] at ho6; rw [← Ny120.out] at ho6)); have n0_ := Aside0.mk (Kd.R_lower ho6 (below_size (by repeat (first | (with_reducible first | exact HB.out | apply below_alloc | apply pw_below_drewN | apply below_drew1) | exact HB.out)))); have n1_ := Aside0.mk (below_step (by repeat (first | (with_reducible first | exact HB.out | apply below_alloc | apply pw_below_drewN | apply below_drew1) | exact HB.out)) hb); clear HB; have HO122 := n0_; have HB := n1_; clear n0_ n1_; clear hb ho6))
    go_loopg [0, 6, 7] kj2 (fun kq v0 v6 v7 w' => ∃ (x0_2 : Int) (x6_2 : List Int) (x7_2 : Int), v0 = .int .i64 x0_2 ∧ v7 = .int .i64 x7_2 ∧ Aside0 (spec_Decimal.l0 kq x0_2 a1 false x6_2 x7_2 = some r) ∧ Aside0 (kq ≤ kj2) ∧ Aside0 (Kd.R (Kd.int .u8) 5 w' w.heap.size (fun _ => True) v6 x6_2) ∧ Aside0 (Below w.heap.size w w'))
    case atStart => exact ⟨a0, (y120), (0), (by first | rfl | (simp; done) | (simp [*]; done)), (by first | rfl | (simp; done) | (simp [*]; done)), H', ⟨Nat.le_refl _⟩, ⟨by (with_reducible repeat (first | apply Kd.R_alloc | apply Kd.R_drewN | apply Kd.R_drew)); exact HO122.out⟩, ⟨by repeat (first | (with_reducible first | exact HB.out | apply below_alloc | apply pw_below_drewN | apply below_drew1) | exact HB.out)⟩⟩
    case round =>
      clear H'
      try clear p2
      try clear c4
      try clear c4b0
      try clear p6
      try clear p2
      obtain ⟨x0_2, x6_2, x7_2, rfl, rfl, HA, HK2, HO_6, HB⟩ := hrel
      cases gk with
      | zero => exact absurd HA.out (by simp [spec_Decimal.l0])
      | succ k2 =>
        have H := HA.out
        clear HA
        simp only [spec_Decimal.l0] at H
        have HC7 := Aside0.mk H
        clear H
        go_upto_region 6 with (fail)
        go_cut [26] (fun v26 wc => ∃ (kq : Nat) (x26_6 : Bool), v26 = .bool x26_6 ∧ Aside0 (spec_Decimal.j2 kq x0_2 a1 false x6_2 x7_2 x26_6 = some r) ∧ Aside0 (kq ≤ k2) ∧ Aside0 (Kd.R (Kd.int .u8) 5 wc w.heap.size (fun _ => True) u6 x6_2) ∧ Aside0 (Below w.heap.size w wc))
        case first =>
          have H := HC7.out
          clear HC7
          by_cases c8 : x7_2 < a1
          · rw [if_pos c8] at H
            have c8b0 : decide (x7_2 < a1) = true := decide_eq_true c8
            clear c8
            (first | rw [c8b0] | (simp only [i64_w, i32_w]; rw [c8b0]) | skip)
            have H' := Aside0.mk H
            clear H
            go_wp2
            go_meet
            case rel => exact ⟨_, (true), (by first | rfl | (simp; done) | (simp [*]; done)), H', ⟨by have := HJ2.out; have := HK2.out; first | omega | exact Nat.le_refl _⟩, ⟨by (with_reducible repeat (first | apply Kd.R_alloc | apply Kd.R_drewN | apply Kd.R_drew)); exact HO_6.out⟩, ⟨by repeat (first | (with_reducible first | exact HB.out | apply below_alloc | apply pw_below_drewN | apply below_drew1) | exact HB.out)⟩⟩
          · rw [if_neg c8] at H
            have c8b0 : decide (x7_2 < a1) = false := decide_eq_false c8
            clear c8
            (first | rw [c8b0] | (simp only [i64_w, i32_w]; rw [c8b0]) | skip)
            by_cases c9 : x0_2 > 0
            · rw [if_pos c9] at H
              have c9b0 : decide (0 < x0_2) = true := decide_eq_true c9
              clear c9
              have H' := Aside0.mk H
              clear H
              go_wp2
              go_meet
              case rel => exact ⟨_, (true), (by first | rfl | (simp; done) | (simp [*]; done)), H', ⟨by have := HJ2.out; have := HK2.out; first | omega | exact Nat.le_refl _⟩, ⟨by (with_reducible repeat (first | apply Kd.R_alloc | apply Kd.R_drewN | apply Kd.R_drew)); exact HO_6.out⟩, ⟨by repeat (first | (with_reducible first | exact HB.out | apply below_alloc | apply pw_below_drewN | apply below_drew1) | exact HB.out)⟩⟩
            · rw [if_neg c9] at H
              have c9b0 : decide (0 < x0_2) = false := decide_eq_false c9
              clear c9
              have H' := Aside0.mk H
              clear H
              go_wp2
              go_meet
              case rel => exact ⟨_, ((x7_2 == a1)), (by first | rfl | (simp; done) | (simp [*]; done)), H', ⟨by have := HJ2.out; have := HK2.out; first | omega | exact Nat.le_refl _⟩, ⟨by (with_reducible repeat (first | apply Kd.R_alloc | apply Kd.R_drewN | apply Kd.R_drew)); exact HO_6.out⟩, ⟨by repeat (first | (with_reducible first | exact HB.out | apply below_alloc | apply pw_below_drewN | apply below_drew1) | exact HB.out)⟩⟩
        case rest =>
          clear HC7
          try clear p2
          try clear c4
          try clear c4b0
          try clear p6
          try clear c7
          try clear c8
          try clear c8b0
          try clear c9
          try clear c9b0
          try clear p2
          try clear p6
          obtain ⟨kq, x26_6, rfl, HA, HJ6, HO_6, HB⟩ := hcut
          cases kq with
          | zero => exact absurd HA.out (by simp [spec_Decimal.j2])
          | succ kj6 =>
            have H := HA.out
            clear HA
            simp only [spec_Decimal.j2] at H
            by_cases c10 : x26_6 = true
            · subst c10
              have H1 : (if x7_2 = a1 then (spec_Decimal.j3 kj6 x0_2 a1 false x6_2 x7_2 (decide ((x6_2.length : Int) > 0))) else (spec_Decimal.j3 kj6 x0_2 a1 false x6_2 x7_2 false)) = some r := by rw [if_pos rfl] at H; exact H
              clear H
              have H := H1
              clear H1
              have HC11 := Aside0.mk H
              clear H
              go_upto_region 8 with (fail)
              go_cut [36] (fun v36 wc => ∃ (kq : Nat) (x36_10 : Bool), v36 = .bool x36_10 ∧ Aside0 (spec_Decimal.j3 kq x0_2 a1 false x6_2 x7_2 x36_10 = some r) ∧ Aside0 (kq ≤ kj6) ∧ Aside0 (Kd.R (Kd.int .u8) 5 wc w.heap.size (fun _ => True) u6 x6_2) ∧ Aside0 (Below w.heap.size w wc))
              case first =>
                have H := HC11.out
                clear HC11
                by_cases c12 : x7_2 = a1
                · rw [if_pos c12] at H
                  have c12b0 : (x7_2 == a1) = true := beq_iff_eq.mpr c12
                  have c12b1 : (x7_2 != a1) = false := bne_eq_false_iff_eq.mpr c12
                  clear c12
                  (first | rw [c12b0] | (simp only [i64_w, i32_w]; rw [c12b0]) | skip)
                  have H' := Aside0.mk H
                  clear H
                  obtain ⟨Ao13, co13, eo13⟩ := Kd.R_slice HO_6.out
                  subst eo13
                  go_wp2
                  go_meet
                  case rel => exact ⟨_, (decide ((x6_2.length : Int) > 0)), (by first | rfl | (simp; done) | (simp [*]; done)), H', ⟨by have := HJ2.out; have := HK2.out; have := HJ6.out; first | omega | exact Nat.le_refl _⟩, ⟨by (with_reducible repeat (first | apply Kd.R_alloc | apply Kd.R_drewN | apply Kd.R_drew)); exact HO_6.out⟩, ⟨by repeat (first | (with_reducible first | exact HB.out | apply below_alloc | apply pw_below_drewN | apply below_drew1) | exact HB.out)⟩⟩
                · rw [if_neg c12] at H
                  have c12b0 : (x7_2 == a1) = false := beq_eq_false_iff_ne.mpr c12
                  have c12b1 : (x7_2 != a1) = true := bne_iff_ne.mpr c12
                  (first | rw [c12b0] | (simp only [i64_w, i32_w]; rw [c12b0]) | skip)
                  have H' := Aside0.mk H
                  clear H
                  go_wp2
                  go_meet
                  case rel => exact ⟨_, (false), (by first | rfl | (simp; done) | (simp [*]; done)), H', ⟨by have := HJ2.out; have := HK2.out; have := HJ6.out; first | omega | exact Nat.le_refl _⟩, ⟨by (with_reducible repeat (first | apply Kd.R_alloc | apply Kd.R_drewN | apply Kd.R_drew)); exact HO_6.out⟩, ⟨by repeat (first | (with_reducible first | exact HB.out | apply below_alloc | apply pw_below_drewN | apply below_drew1) | exact HB.out)⟩⟩
              case rest =>
                clear HC11
                try clear c1
                try clear p2
                try clear c4
                try clear c4b0
                try clear p6
                try clear c7
                try clear c8
                try clear c8b0
                try clear c9
                try clear c9b0
                try clear c10
                try clear c12
                try clear c12b0
                try clear c12b1
                try clear p2
                try clear p6
                obtain ⟨kq, x36_10, rfl, HA, HJ10, HO_6, HB⟩ := hcut
                cases kq with
                | zero => exact absurd HA.out (by simp [spec_Decimal.j3])
                | succ kj10 =>
                  have H := HA.out
                  clear HA
                  simp only [spec_Decimal.j3] at H
                  by_cases c14 : x36_10 = true
                  · subst c14
                    have H1 : ((some (([46] : List Int) : List Int)).bind fun y123 => (if y123.length + x6_2.length < 140737488355328 then ((some (y123 ++ x6_2 : List Int)).bind fun y126 => (if x7_2 < a1 then (if (y126.length : Int) = 0 then (if ((wrap64 (48 + (Int.tmod x0_2 10))) % 256) = 48 then (spec_Decimal.l0 kj10 (wrap64 (Int.tdiv x0_2 10)) a1 false y126 (wrap64 (x7_2 + 1))) else ((some (([(wrap64 (48 + (Int.tmod x0_2 10))) % 256] : List Int) : List Int)).bind fun y129 => (if y129.length + y126.length < 140737488355328 then (spec_Decimal.l0 kj10 (wrap64 (Int.tdiv x0_2 10)) a1 false (y129 ++ y126) (wrap64 (x7_2 + 1))) else (none)))) else ((some (([(wrap64 (48 + (Int.tmod x0_2 10))) % 256] : List Int) : List Int)).bind fun y135 => (if y135.length + y126.length < 140737488355328 then (spec_Decimal.l0 kj10 (wrap64 (Int.tdiv x0_2 10)) a1 false (y135 ++ y126) (wrap64 (x7_2 + 1))) else (none)))) else ((some (([(wrap64 (48 + (Int.tmod x0_2 10))) % 256] : List Int) : List Int)).bind fun y141 => (if y141.length + y126.length < 140737488355328 then (spec_Decimal.l0 kj10 (wrap64 (Int.tdiv x0_2 10)) a1 false (y141 ++ y126) (wrap64 (x7_2 + 1))) else (none))))) else (none))) = some r := by rw [if_pos rfl] at H; exact H
                    clear H
                    have H := H1
                    clear H1
                    obtain ⟨y123, hy123⟩ : ∃ y_ : List Int, y_ = (([46] : List Int)) := ⟨_, rfl⟩
                    replace H : (if y123.length + x6_2.length < 140737488355328 then ((some (y123 ++ x6_2 : List Int)).bind fun y126 => (if x7_2 < a1 then (if (y126.length : Int) = 0 then (if ((wrap64 (48 + (Int.tmod x0_2 10))) % 256) = 48 then (spec_Decimal.l0 kj10 (wrap64 (Int.tdiv x0_2 10)) a1 false y126 (wrap64 (x7_2 + 1))) else ((some (([(wrap64 (48 + (Int.tmod x0_2 10))) % 256] : List Int) : List Int)).bind fun y129 => (if y129.length + y126.length < 140737488355328 then (spec_Decimal.l0 kj10 (wrap64 (Int.tdiv x0_2 10)) a1 false (y129 ++ y126) (wrap64 (x7_2 + 1))) else (none)))) else ((some (([(wrap64 (48 + (Int.tmod x0_2 10))) % 256] : List Int) : List Int)).bind fun y135 => (if y135.length + y126.length < 140737488355328 then (spec_Decimal.l0 kj10 (wrap64 (Int.tdiv x0_2 10)) a1 false (y135 ++ y126) (wrap64 (x7_2 + 1))) else (none)))) else ((some (([(wrap64 (48 + (Int.tmod x0_2 10))) % 256] : List Int) : List Int)).bind fun y141 => (if y141.length + y126.length < 140737488355328 then (spec_Decimal.l0 kj10 (wrap64 (Int.tdiv x0_2 10)) a1 false (y141 ++ y126) (wrap64 (x7_2 + 1))) else (none))))) else (none)) = some r := by first | (rw [hy123]; with_reducible exact H) | (have H2_ := (Option.bind_some _ _).symm.trans H; rw [hy123]; with_reducible exact H2_) | (have H2_ := (Option.bind_some _ _).symm.trans H; with_reducible exact H2_) | with_reducible exact H | (rw [hy123]; exact H) | exact H
                    have Ny123 := Aside0.mk hy123
                    clear hy123
                    by_cases c15 : y123.length + x6_2.length < 140737488355328
                    · rw [if_pos c15] at H
                      have LMc15 := Aside0.mk c15
                      clear c15
                      obtain ⟨y126, hy126⟩ : ∃ y_ : List Int, y_ = (y123 ++ x6_2) := ⟨_, rfl⟩
                      replace H : (if x7_2 < a1 then (if (y126.length : Int) = 0 then (if ((wrap64 (48 + (Int.tmod x0_2 10))) % 256) = 48 then (spec_Decimal.l0 kj10 (wrap64 (Int.tdiv x0_2 10)) a1 false y126 (wrap64 (x7_2 + 1))) else ((some (([(wrap64 (48 + (Int.tmod x0_2 10))) % 256] : List Int) : List Int)).bind fun y129 => (if y129.length + y126.length < 140737488355328 then (spec_Decimal.l0 kj10 (wrap64 (Int.tdiv x0_2 10)) a1 false (y129 ++ y126) (wrap64 (x7_2 + 1))) else (none)))) else ((some (([(wrap64 (48 + (Int.tmod x0_2 10))) % 256] : List Int) : List Int)).bind fun y135 => (if y135.length + y126.length < 140737488355328 then (spec_Decimal.l0 kj10 (wrap64 (Int.tdiv x0_2 10)) a1 false (y135 ++ y126) (wrap64 (x7_2 + 1))) else (none)))) else ((some (([(wrap64 (48 + (Int.tmod x0_2 10))) % 256] : List Int) : List Int)).bind fun y141 => (if y141.length + y126.length < 140737488355328 then (spec_Decimal.l0 kj10 (wrap64 (Int.tdiv x0_2 10)) a1 false (y141 ++ y126) (wrap64 (x7_2 + 1))) else (none)))) = some r := by first | (rw [hy126]; with_reducible exact H) | (have H2_ := (Option.bind_some _ _).symm.trans H; rw [hy126]; with_reducible exact H2_) | (have H2_ := (Option.bind_some _ _).symm.trans H; with_reducible exact H2_) | with_reducible exact H | (rw [hy126]; exact H) | exact H
                      have Ny126 := Aside0.mk hy126
                      clear hy126
                      by_cases c16 : x7_2 < a1
                      · rw [if_pos c16] at H
                        have c16b0 : decide (x7_2 < a1) = true := decide_eq_true c16
                        clear c16
                        by_cases c17 : (y126.length : Int) = 0
                        · rw [if_pos c17] at H
                          have c17b0 : ((y126.length : Int) == 0) = true := beq_iff_eq.mpr c17
                          have c17b1 : ((y126.length : Int) != 0) = false := bne_eq_false_iff_eq.mpr c17
                          clear c17
                          by_cases c18 : ((wrap64 (48 + (Int.tmod x0_2 10))) % 256) = 48
                          · rw [if_pos c18] at H
                            have c18b0 : (((wrap64 (48 + (Int.tmod x0_2 10))) % 256) == 48) = true := beq_iff_eq.mpr c18
                            have c18b1 : (((wrap64 (48 + (Int.tmod x0_2 10))) % 256) != 48) = false := bne_eq_false_iff_eq.mpr c18
                            clear c18
                            have H' := Aside0.mk H
                            clear H
                            go_wp2_with (first | ((with_reducible refine gate_dst (N := 37) rfl ?_); (try (refine gate_guard (by rfl) ?_; dsimp only)); refine Kd.R_lit (Kd.int .u8) _ 5 ?hg (N := 37) ?hd (xs := ([46] : List Int)) (inner := [.int .u8 46]) (ok := fun _ => True) (okp := fun _ => True) ?hr ?hp (fun _ hk => hk) trivial (Below.refl _ _) (Nat.le_refl _) (by simp) ?_; (case hd => rfl); (case hg => rfl); (case hr => first | (go_simp; done) | (go_simp; rfl)); (case hp => exact (Reps.one (show Kd.M (Kd.int .u8) _ _ _ 46 [.int .u8 46] from rfl) (Reps.none _ _))); intro v124 w19 ho20 hb hg_ hnew_; clear hg_ hnew_; (first | rw [← Ny123.out] at ho20 | (simp only [Int.reduceToNat] at ho20; rw [← Ny123.out] at ho20)); have n0_ := Aside0.mk (Kd.R_elder' (by (with_reducible repeat (first | apply Kd.R_alloc | apply Kd.R_drewN | apply Kd.R_drew)); exact HO_6.out) (Kd.R_base ho20) hb); have n1_ := Aside0.mk (Kd.R_lower (Kd.R_new' ho20 (Kd.R_lt (by (with_reducible repeat (first | apply Kd.R_alloc | apply Kd.R_drewN | apply Kd.R_drew)); exact HO_6.out))) (below_size (by repeat (first | (with_reducible first | exact HB.out | apply below_alloc | apply pw_below_drewN | apply below_drew1) | exact HB.out)))); have n2_ := Aside0.mk (below_step (by repeat (first | (with_reducible first | exact HB.out | apply below_alloc | apply pw_below_drewN | apply below_drew1) | exact HB.out)) hb); clear HO_6; clear HB; have HO_6 := n0_; have HO125 := n1_; have HB := n2_; clear n0_ n1_ n2_; clear hb ho20; obtain ⟨Ao22, co22, eo22⟩ := Kd.R_slice HO_6.out; subst eo22) | ((with_reducible refine gate_builtin (b := .append) (xs := #[.tmp 37, .tmp 38]) rfl ?_); (try (refine gate_guard (by rfl) ?_; dsimp only)); at_builtin; refine Kd.R_append_rows (Kd.int .u8) (w0 := w) w.heap.size rfl (.tmp 37) (.tmp 38) 34 5 (.int .u8 0) 1 rfl Tryd.underlying34 info5 rfl (by decide) (by omega) v124 y123 x6_2 _ _ _ (fun k_ => some k_ ≠ (.slice Ao22 x6_2.length co22 : Value).ownBlock) (fun _ => False) rfl rfl ?aO ?aR (fun _ _ h => h) (fun _ h => h.elim) ?aF ?aB ?aS ?aL ?_; (case aR => repeat (first | exact (Kd.R_reads' HO_6.out).2.2 | (with_reducible refine Kd.C_alloc ?_ _) | (with_reducible refine Kd.C_drewN ?_ _) | (with_reducible refine Kd.C_drew ?_))); (case aB => exact (by repeat (first | (with_reducible first | exact HB.out | apply below_alloc | apply pw_below_drewN | apply below_drew1) | exact HB.out))); (case aF => exact (fun k_ hk => Kd.fresh' (Kd.R_lt (by (with_reducible repeat (first | apply Kd.R_alloc | apply Kd.R_drewN | apply Kd.R_drew)); exact HO_6.out)) k_ hk)); (case aO => exact (by (with_reducible repeat (first | apply Kd.R_alloc | apply Kd.R_drewN | apply Kd.R_drew)); exact Kd.R_mono HO125.out (fun _ hk => hk.2))); (case aS => exact (below_size (by repeat (first | (with_reducible first | exact HB.out | apply below_alloc | apply pw_below_drewN | apply below_drew1) | exact HB.out)))); (case aL => have := LMc15.out; omega); intro v127 w21 ho hb hg hat; rw [← Ny126.out] at ho; have n0_ := Aside0.mk (Kd.R_after (ok := (fun _ => True)) (by (with_reducible repeat (first | apply Kd.R_alloc | apply Kd.R_drewN | apply Kd.R_drew)); exact HO_6.out) hg hat); have n1_ := Aside0.mk (hb); have n2_ := Aside0.mk (ho); clear HO_6; clear HB; clear HO125; have HO_6 := n0_; have HB := n1_; have HO128 := n2_; clear n0_ n1_ n2_; clear ho hb hg hat; obtain ⟨Ao23, co23, eo23⟩ := Kd.R_slice HO128.out; subst eo23))
                            go_roundg kj10
                            case measure => have := HJ2.out; have := HK2.out; have := HJ6.out; have := HJ10.out; omega
                            case rel => exact ⟨(wrap64 (Int.tdiv x0_2 10)), (y126), (wrap64 (x7_2 + 1)), (by first | rfl | (simp; done) | (simp [*]; done)), (by first | rfl | (simp; done) | (simp [*]; done)), H', ⟨by have := HJ2.out; have := HK2.out; have := HJ6.out; have := HJ10.out; omega⟩, ⟨by (with_reducible repeat (first | apply Kd.R_alloc | apply Kd.R_drewN | apply Kd.R_drew)); exact Kd.R_mono HO128.out (fun _ hk => trivial)⟩, ⟨by repeat (first | (with_reducible first | exact HB.out | apply below_alloc | apply pw_below_drewN | apply below_drew1) | exact HB.out)⟩⟩
                          · rw [if_neg c18] at H
                            have c18b0 : (((wrap64 (48 + (Int.tmod x0_2 10))) % 256) == 48) = false := beq_eq_false_iff_ne.mpr c18
                            have c18b1 : (((wrap64 (48 + (Int.tmod x0_2 10))) % 256) != 48) = true := bne_iff_ne.mpr c18
                            obtain ⟨y129, hy129⟩ : ∃ y_ : List Int, y_ = (([(wrap64 (48 + (Int.tmod x0_2 10))) % 256] : List Int)) := ⟨_, rfl⟩
                            replace H : (if y129.length + y126.length < 140737488355328 then (spec_Decimal.l0 kj10 (wrap64 (Int.tdiv x0_2 10)) a1 false (y129 ++ y126) (wrap64 (x7_2 + 1))) else (none)) = some r := by first | (rw [hy129]; with_reducible exact H) | (have H2_ := (Option.bind_some _ _).symm.trans H; rw [hy129]; with_reducible exact H2_) | (have H2_ := (Option.bind_some _ _).symm.trans H; with_reducible exact H2_) | with_reducible exact H | (rw [hy129]; exact H) | exact H
                            have Ny129 := Aside0.mk hy129
                            clear hy129
                            by_cases c24 : y129.length + y126.length < 140737488355328
                            · rw [if_pos c24] at H
                              have LMc24 := Aside0.mk c24
                              clear c24
                              obtain ⟨y132, hy132⟩ : ∃ y_ : List Int, y_ = (y129 ++ y126) := ⟨_, rfl⟩
                              replace H : (spec_Decimal.l0 kj10 (wrap64 (Int.tdiv x0_2 10)) a1 false y132 (wrap64 (x7_2 + 1))) = some r := by first | (rw [hy132]; with_reducible exact H) | (have H2_ := (Option.bind_some _ _).symm.trans H; rw [hy132]; with_reducible exact H2_) | (have H2_ := (Option.bind_some _ _).symm.trans H; with_reducible exact H2_) | with_reducible exact H | (rw [hy132]; exact H) | exact H
                              have Ny132 := Aside0.mk hy132
                              clear hy132
                              have H' := Aside0.mk H
                              clear H
                              go_wp2_with (first | ((with_reducible refine gate_dst (N := 37) rfl ?_); (try (refine gate_guard (by rfl) ?_; dsimp only)); refine Kd.R_lit (Kd.int .u8) _ 5 ?hg (N := 37) ?hd (xs := ([46] : List Int)) (inner := [.int .u8 46]) (ok := fun _ => True) (okp := fun _ => True) ?hr ?hp (fun _ hk => hk) trivial (Below.refl _ _) (Nat.le_refl _) (by simp) ?_; (case hd => rfl); (case hg => rfl); (case hr => first | (go_simp; done) | (go_simp; rfl)); (case hp => exact (Reps.one (show Kd.M (Kd.int .u8) _ _ _ 46 [.int .u8 46] from rfl) (Reps.none _ _))); intro v124 w25 ho26 hb hg_ hnew_; clear hg_ hnew_; (first | rw [← Ny123.out] at ho26 | (simp only [Int.reduceToNat] at ho26; rw [← Ny123.out] at ho26)); have n0_ := Aside0.mk (Kd.R_elder' (by (with_reducible repeat (first | apply Kd.R_alloc | apply Kd.R_drewN | apply Kd.R_drew)); exact HO_6.out) (Kd.R_base ho26) hb); have n1_ := Aside0.mk (Kd.R_lower (Kd.R_new' ho26 (Kd.R_lt (by (with_reducible repeat (first | apply Kd.R_alloc | apply Kd.R_drewN | apply Kd.R_drew)); exact HO_6.out))) (below_size (by repeat (first | (with_reducible first | exact HB.out | apply below_alloc | apply pw_below_drewN | apply below_drew1) | exact HB.out)))); have n2_ := Aside0.mk (below_step (by repeat (first | (with_reducible first | exact HB.out | apply below_alloc | apply pw_below_drewN | apply below_drew1) | exact HB.out)) hb); clear HO_6; clear HB; have HO_6 := n0_; have HO125 := n1_; have HB := n2_; clear n0_ n1_ n2_; clear hb ho26; obtain ⟨Ao28, co28, eo28⟩ := Kd.R_slice HO_6.out; subst eo28) | ((with_reducible refine gate_builtin (b := .append) (xs := #[.tmp 37, .tmp 38]) rfl ?_); (try (refine gate_guard (by rfl) ?_; dsimp only)); at_builtin; refine Kd.R_append_rows (Kd.int .u8) (w0 := w) w.heap.size rfl (.tmp 37) (.tmp 38) 34 5 (.int .u8 0) 1 rfl Tryd.underlying34 info5 rfl (by decide) (by omega) v124 y123 x6_2 _ _ _ (fun k_ => some k_ ≠ (.slice Ao28 x6_2.length co28 : Value).ownBlock) (fun _ => False) rfl rfl ?aO ?aR (fun _ _ h => h) (fun _ h => h.elim) ?aF ?aB ?aS ?aL ?_; (case aR => repeat (first | exact (Kd.R_reads' HO_6.out).2.2 | (with_reducible refine Kd.C_alloc ?_ _) | (with_reducible refine Kd.C_drewN ?_ _) | (with_reducible refine Kd.C_drew ?_))); (case aB => exact (by repeat (first | (with_reducible first | exact HB.out | apply below_alloc | apply pw_below_drewN | apply below_drew1) | exact HB.out))); (case aF => exact (fun k_ hk => Kd.fresh' (Kd.R_lt (by (with_reducible repeat (first | apply Kd.R_alloc | apply Kd.R_drewN | apply Kd.R_drew)); exact HO_6.out)) k_ hk)); (case aO => exact (by (with_reducible repeat (first | apply Kd.R_alloc | apply Kd.R_drewN | apply Kd.R_drew)); exact Kd.R_mono HO125.out (fun _ hk => hk.2))); (case aS => exact (below_size (by repeat (first | (with_reducible first | exact HB.out | apply below_alloc | apply pw_below_drewN | apply below_drew1) | exact HB.out)))); (case aL => have := LMc15.out; omega); intro v127 w27 ho hb hg hat; rw [← Ny126.out] at ho; have n0_ := Aside0.mk (Kd.R_after (ok := (fun _ => True)) (by (with_reducible repeat (first | apply Kd.R_alloc | apply Kd.R_drewN | apply Kd.R_drew)); exact HO_6.out) hg hat); have n1_ := Aside0.mk (hb); have n2_ := Aside0.mk (ho); clear HO_6; clear HB; clear HO125; have HO_6 := n0_; have HB := n1_; have HO128 := n2_; clear n0_ n1_ n2_; clear ho hb hg hat; obtain ⟨Ao29, co29, eo29⟩ := Kd.R_slice HO128.out; subst eo29) | ((with_reducible refine gate_dst (N := 59) rfl ?_); (try (refine gate_guard (by rfl) ?_; dsimp only)); refine Kd.R_lit (Kd.int .u8) _ 5 ?hg (N := 59) ?hd (xs := ([(wrap64 (48 + (Int.tmod x0_2 10))) % 256] : List Int)) (inner := [.int .u8 ((wrap64 (48 + (Int.tmod x0_2 10))) % 256)]) (ok := fun _ => True) (okp := fun _ => True) ?hr ?hp (fun _ hk => hk) trivial (Below.refl _ _) (Nat.le_refl _) (by simp) ?_; (case hd => rfl); (case hg => rfl); (case hr => first | (go_simp; done) | (go_simp; rfl)); (case hp => exact (Reps.one (show Kd.M (Kd.int .u8) _ _ _ ((wrap64 (48 + (Int.tmod x0_2 10))) % 256) [.int .u8 ((wrap64 (48 + (Int.tmod x0_2 10))) % 256)] from rfl) (Reps.none _ _))); intro v130 w30 ho31 hb hg_ hnew_; clear hg_ hnew_; (first | rw [← Ny129.out] at ho31 | (simp only [Int.reduceToNat] at ho31; rw [← Ny129.out] at ho31)); have n0_ := Aside0.mk (Kd.R_elder' (by (with_reducible repeat (first | apply Kd.R_alloc | apply Kd.R_drewN | apply Kd.R_drew)); exact HO_6.out) (Kd.R_base ho31) hb); have n1_ := Aside0.mk (Kd.R_elder' (by (with_reducible repeat (first | apply Kd.R_alloc | apply Kd.R_drewN | apply Kd.R_drew)); exact HO128.out) (Kd.R_base ho31) hb); have n2_ := Aside0.mk (Kd.R_lower (Kd.R_new' (Kd.R_new' ho31 (Kd.R_lt (by (with_reducible repeat (first | apply Kd.R_alloc | apply Kd.R_drewN | apply Kd.R_drew)); exact HO_6.out))) (Kd.R_lt (by (with_reducible repeat (first | apply Kd.R_alloc | apply Kd.R_drewN | apply Kd.R_drew)); exact HO128.out))) (below_size (by repeat (first | (with_reducible first | exact HB.out | apply below_alloc | apply pw_below_drewN | apply below_drew1) | exact HB.out)))); have n3_ := Aside0.mk (below_step (by repeat (first | (with_reducible first | exact HB.out | apply below_alloc | apply pw_below_drewN | apply below_drew1) | exact HB.out)) hb); clear HO_6; clear HO128; clear HB; have HO_6 := n0_; have HO128 := n1_; have HO131 := n2_; have HB := n3_; clear n0_ n1_ n2_ n3_; clear hb ho31) | ((with_reducible refine gate_builtin (b := .append) (xs := #[.tmp 59, .tmp 60]) rfl ?_); (try (refine gate_guard (by rfl) ?_; dsimp only)); at_builtin; refine Kd.R_append_rows (Kd.int .u8) (w0 := w) w.heap.size rfl (.tmp 59) (.tmp 60) 34 5 (.int .u8 0) 1 rfl Tryd.underlying34 info5 rfl (by decide) (by omega) v130 y129 y126 _ _ _ (fun k_ => some k_ ≠ (.slice Ao28 x6_2.length co28 : Value).ownBlock ∧ some k_ ≠ (.slice Ao29 y126.length co29 : Value).ownBlock) (fun _ => False) rfl rfl ?aO ?aR (fun _ _ h => h) (fun _ h => h.elim) ?aF ?aB ?aS ?aL ?_; (case aR => repeat (first | exact (Kd.R_reads' HO128.out).2.2 | (with_reducible refine Kd.C_alloc ?_ _) | (with_reducible refine Kd.C_drewN ?_ _) | (with_reducible refine Kd.C_drew ?_))); (case aB => exact (by repeat (first | (with_reducible first | exact HB.out | apply below_alloc | apply pw_below_drewN | apply below_drew1) | exact HB.out))); (case aF => exact (fun k_ hk => ⟨Kd.fresh' (Kd.R_lt (by (with_reducible repeat (first | apply Kd.R_alloc | apply Kd.R_drewN | apply Kd.R_drew)); exact HO_6.out)) k_ hk, Kd.fresh' (Kd.R_lt (by (with_reducible repeat (first | apply Kd.R_alloc | apply Kd.R_drewN | apply Kd.R_drew)); exact HO128.out)) k_ hk⟩)); (case aO => exact (by (with_reducible repeat (first | apply Kd.R_alloc | apply Kd.R_drewN | apply Kd.R_drew)); exact Kd.R_mono HO131.out (fun _ hk => ⟨hk.1.2, hk.2⟩))); (case aS => exact (below_size (by repeat (first | (with_reducible first | exact HB.out | apply below_alloc | apply pw_below_drewN | apply below_drew1) | exact HB.out)))); (case aL => have := LMc24.out; omega); intro v133 w32 ho hb hg hat; rw [← Ny132.out] at ho; have n0_ := Aside0.mk (Kd.R_after (ok := (fun k_ => some k_ ≠ (.slice Ao29 y126.length co29 : Value).ownBlock)) (by (with_reducible repeat (first | apply Kd.R_alloc | apply Kd.R_drewN | apply Kd.R_drew)); exact Kd.R_mono HO_6.out (fun _ hk => ⟨hk.1.2, hk.2⟩)) hg hat); have n1_ := Aside0.mk (Kd.R_after (ok := (fun k_ => some k_ ≠ (.slice Ao28 x6_2.length co28 : Value).ownBlock)) (by (with_reducible repeat (first | apply Kd.R_alloc | apply Kd.R_drewN | apply Kd.R_drew)); exact HO128.out) hg hat); have n2_ := Aside0.mk (hb); have n3_ := Aside0.mk (ho); clear HO_6; clear HO128; clear HB; clear HO131; have HO_6 := n0_; have HO128 := n1_; have HB := n2_; have HO134 := n3_; clear n0_ n1_ n2_ n3_; clear ho hb hg hat))
                              go_roundg kj10
                              case measure => have := HJ2.out; have := HK2.out; have := HJ6.out; have := HJ10.out; omega
                              case rel => exact ⟨(wrap64 (Int.tdiv x0_2 10)), (y132), (wrap64 (x7_2 + 1)), (by first | rfl | (simp; done) | (simp [*]; done)), (by first | rfl | (simp; done) | (simp [*]; done)), H', ⟨by have := HJ2.out; have := HK2.out; have := HJ6.out; have := HJ10.out; omega⟩, ⟨by (with_reducible repeat (first | apply Kd.R_alloc | apply Kd.R_drewN | apply Kd.R_drew)); exact Kd.R_mono HO134.out (fun _ hk => trivial)⟩, ⟨by repeat (first | (with_reducible first | exact HB.out | apply below_alloc | apply pw_below_drewN | apply below_drew1) | exact HB.out)⟩⟩
                            · rw [if_neg c24] at H
                              exact absurd H (by simp)
                        · rw [if_neg c17] at H
                          have c17b0 : ((y126.length : Int) == 0) = false := beq_eq_false_iff_ne.mpr c17
                          have c17b1 : ((y126.length : Int) != 0) = true := bne_iff_ne.mpr c17
                          have c17b2 : ¬ (y126 = []) := fun h_ => c17 (by rw [h_]; rfl)
                          obtain ⟨y135, hy135⟩ : ∃ y_ : List Int, y_ = (([(wrap64 (48 + (Int.tmod x0_2 10))) % 256] : List Int)) := ⟨_, rfl⟩
                          replace H : (if y135.length + y126.length < 140737488355328 then (spec_Decimal.l0 kj10 (wrap64 (Int.tdiv x0_2 10)) a1 false (y135 ++ y126) (wrap64 (x7_2 + 1))) else (none)) = some r := by first | (rw [hy135]; with_reducible exact H) | (have H2_ := (Option.bind_some _ _).symm.trans H; rw [hy135]; with_reducible exact H2_) | (have H2_ := (Option.bind_some _ _).symm.trans H; with_reducible exact H2_) | with_reducible exact H | (rw [hy135]; exact H) | exact H
                          have Ny135 := Aside0.mk hy135
                          clear hy135
                          by_cases c33 : y135.length + y126.length < 140737488355328
                          · rw [if_pos c33] at H
                            have LMc33 := Aside0.mk c33
                            clear c33
                            obtain ⟨y138, hy138⟩ : ∃ y_ : List Int, y_ = (y135 ++ y126) := ⟨_, rfl⟩
                            replace H : (spec_Decimal.l0 kj10 (wrap64 (Int.tdiv x0_2 10)) a1 false y138 (wrap64 (x7_2 + 1))) = some r := by first | (rw [hy138]; with_reducible exact H) | (have H2_ := (Option.bind_some _ _).symm.trans H; rw [hy138]; with_reducible exact H2_) | (have H2_ := (Option.bind_some _ _).symm.trans H; with_reducible exact H2_) | with_reducible exact H | (rw [hy138]; exact H) | exact H
                            have Ny138 := Aside0.mk hy138
                            clear hy138
                            have H' := Aside0.mk H
                            clear H
                            go_wp2_with (first | ((with_reducible refine gate_dst (N := 37) rfl ?_); (try (refine gate_guard (by rfl) ?_; dsimp only)); refine Kd.R_lit (Kd.int .u8) _ 5 ?hg (N := 37) ?hd (xs := ([46] : List Int)) (inner := [.int .u8 46]) (ok := fun _ => True) (okp := fun _ => True) ?hr ?hp (fun _ hk => hk) trivial (Below.refl _ _) (Nat.le_refl _) (by simp) ?_; (case hd => rfl); (case hg => rfl); (case hr => first | (go_simp; done) | (go_simp; rfl)); (case hp => exact (Reps.one (show Kd.M (Kd.int .u8) _ _ _ 46 [.int .u8 46] from rfl) (Reps.none _ _))); intro v124 w34 ho35 hb hg_ hnew_; clear hg_ hnew_; (first | rw [← Ny123.out] at ho35 | (simp only [Int.reduceToNat] at ho35; rw [← Ny123.out] at ho35)); have n0_ := Aside0.mk (Kd.R_elder' (by (with_reducible repeat (first | apply Kd.R_alloc | apply Kd.R_drewN | apply Kd.R_drew)); exact HO_6.out) (Kd.R_base ho35) hb); have n1_ := Aside0.mk (Kd.R_lower (Kd.R_new' ho35 (Kd.R_lt (by (with_reducible repeat (first | apply Kd.R_alloc | apply Kd.R_drewN | apply Kd.R_drew)); exact HO_6.out))) (below_size (by repeat (first | (with_reducible first | exact HB.out | apply below_alloc | apply pw_below_drewN | apply below_drew1) | exact HB.out)))); have n2_ := Aside0.mk (below_step (by repeat (first | (with_reducible first | exact HB.out | apply below_alloc | apply pw_below_drewN | apply below_drew1) | exact HB.out)) hb); clear HO_6; clear HB; have HO_6 := n0_; have HO125 := n1_; have HB := n2_; clear n0_ n1_ n2_; clear hb ho35; obtain ⟨Ao37, co37, eo37⟩ := Kd.R_slice HO_6.out; subst eo37) | ((with_reducible refine gate_builtin (b := .append) (xs := #[.tmp 37, .tmp 38]) rfl ?_); (try (refine gate_guard (by rfl) ?_; dsimp only)); at_builtin; refine Kd.R_append_rows (Kd.int .u8) (w0 := w) w.heap.size rfl (.tmp 37) (.tmp 38) 34 5 (.int .u8 0) 1 rfl Tryd.underlying34 info5 rfl (by decide) (by omega) v124 y123 x6_2 _ _ _ (fun k_ => some k_ ≠ (.slice Ao37 x6_2.length co37 : Value).ownBlock) (fun _ => False) rfl rfl ?aO ?aR (fun _ _ h => h) (fun _ h => h.elim) ?aF ?aB ?aS ?aL ?_; (case aR => repeat (first | exact (Kd.R_reads' HO_6.out).2.2 | (with_reducible refine Kd.C_alloc ?_ _) | (with_reducible refine Kd.C_drewN ?_ _) | (with_reducible refine Kd.C_drew ?_))); (case aB => exact (by repeat (first | (with_reducible first | exact HB.out | apply below_alloc | apply pw_below_drewN | apply below_drew1) | exact HB.out))); (case aF => exact (fun k_ hk => Kd.fresh' (Kd.R_lt (by (with_reducible repeat (first | apply Kd.R_alloc | apply Kd.R_drewN | apply Kd.R_drew)); exact HO_6.out)) k_ hk)); (case aO => exact (by (with_reducible repeat (first | apply Kd.R_alloc | apply Kd.R_drewN | apply Kd.R_drew)); exact Kd.R_mono HO125.out (fun _ hk => hk.2))); (case aS => exact (below_size (by repeat (first | (with_reducible first | exact HB.out | apply below_alloc | apply pw_below_drewN | apply below_drew1) | exact HB.out)))); (case aL => have := LMc15.out; omega); intro v127 w36 ho hb hg hat; rw [← Ny126.out] at ho; have n0_ := Aside0.mk (Kd.R_after (ok := (fun _ => True)) (by (with_reducible repeat (first | apply Kd.R_alloc | apply Kd.R_drewN | apply Kd.R_drew)); exact HO_6.out) hg hat); have n1_ := Aside0.mk (hb); have n2_ := Aside0.mk (ho); clear HO_6; clear HB; clear HO125; have HO_6 := n0_; have HB := n1_; have HO128 := n2_; clear n0_ n1_ n2_; clear ho hb hg hat; obtain ⟨Ao38, co38, eo38⟩ := Kd.R_slice HO128.out; subst eo38) | ((with_reducible refine gate_dst (N := 59) rfl ?_); (try (refine gate_guard (by rfl) ?_; dsimp only)); refine Kd.R_lit (Kd.int .u8) _ 5 ?hg (N := 59) ?hd (xs := ([(wrap64 (48 + (Int.tmod x0_2 10))) % 256] : List Int)) (inner := [.int .u8 ((wrap64 (48 + (Int.tmod x0_2 10))) % 256)]) (ok := fun _ => True) (okp := fun _ => True) ?hr ?hp (fun _ hk => hk) trivial (Below.refl _ _) (Nat.le_refl _) (by simp) ?_; (case hd => rfl); (case hg => rfl); (case hr => first | (go_simp; done) | (go_simp; rfl)); (case hp => exact (Reps.one (show Kd.M (Kd.int .u8) _ _ _ ((wrap64 (48 + (Int.tmod x0_2 10))) % 256) [.int .u8 ((wrap64 (48 + (Int.tmod x0_2 10))) % 256)] from rfl) (Reps.none _ _))); intro v136 w39 ho40 hb hg_ hnew_; clear hg_ hnew_; (first | rw [← Ny135.out] at ho40 | (simp only [Int.reduceToNat] at ho40; rw [← Ny135.out] at ho40)); have n0_ := Aside0.mk (Kd.R_elder' (by (with_reducible repeat (first | apply Kd.R_alloc | apply Kd.R_drewN | apply Kd.R_drew)); exact HO_6.out) (Kd.R_base ho40) hb); have n1_ := Aside0.mk (Kd.R_elder' (by (with_reducible repeat (first | apply Kd.R_alloc | apply Kd.R_drewN | apply Kd.R_drew)); exact HO128.out) (Kd.R_base ho40) hb); have n2_ := Aside0.mk (Kd.R_lower (Kd.R_new' (Kd.R_new' ho40 (Kd.R_lt (by (with_reducible repeat (first | apply Kd.R_alloc | apply Kd.R_drewN | apply Kd.R_drew)); exact HO_6.out))) (Kd.R_lt (by (with_reducible repeat (first | apply Kd.R_alloc | apply Kd.R_drewN | apply Kd.R_drew)); exact HO128.out))) (below_size (by repeat (first | (with_reducible first | exact HB.out | apply below_alloc | apply pw_below_drewN | apply below_drew1) | exact HB.out)))); have n3_ := Aside0.mk (below_step (by repeat (first | (with_reducible first | exact HB.out | apply below_alloc | apply pw_below_drewN | apply below_drew1) | exact HB.out)) hb); clear HO_6; clear HO128; clear HB; have HO_6 := n0_; have HO128 := n1_; have HO137 := n2_; have HB := n3_; clear n0_ n1_ n2_ n3_; clear hb ho40) | ((with_reducible refine gate_builtin (b := .append) (xs := #[.tmp 59, .tmp 60]) rfl ?_); (try (refine gate_guard (by rfl) ?_; dsimp only)); at_builtin; refine Kd.R_append_rows (Kd.int .u8) (w0 := w) w.heap.size rfl (.tmp 59) (.tmp 60) 34 5 (.int .u8 0) 1 rfl Tryd.underlying34 info5 rfl (by decide) (by omega) v136 y135 y126 _ _ _ (fun k_ => some k_ ≠ (.slice Ao37 x6_2.length co37 : Value).ownBlock ∧ some k_ ≠ (.slice Ao38 y126.length co38 : Value).ownBlock) (fun _ => False) rfl rfl ?aO ?aR (fun _ _ h => h) (fun _ h => h.elim) ?aF ?aB ?aS ?aL ?_; (case aR => repeat (first | exact (Kd.R_reads' HO128.out).2.2 | (with_reducible refine Kd.C_alloc ?_ _) | (with_reducible refine Kd.C_drewN ?_ _) | (with_reducible refine Kd.C_drew ?_))); (case aB => exact (by repeat (first | (with_reducible first | exact HB.out | apply below_alloc | apply pw_below_drewN | apply below_drew1) | exact HB.out))); (case aF => exact (fun k_ hk => ⟨Kd.fresh' (Kd.R_lt (by (with_reducible repeat (first | apply Kd.R_alloc | apply Kd.R_drewN | apply Kd.R_drew)); exact HO_6.out)) k_ hk, Kd.fresh' (Kd.R_lt (by (with_reducible repeat (first | apply Kd.R_alloc | apply Kd.R_drewN | apply Kd.R_drew)); exact HO128.out)) k_ hk⟩)); (case aO => exact (by (with_reducible repeat (first | apply Kd.R_alloc | apply Kd.R_drewN | apply Kd.R_drew)); exact Kd.R_mono HO137.out (fun _ hk => ⟨hk.1.2, hk.2⟩))); (case aS => exact (below_size (by repeat (first | (with_reducible first | exact HB.out | apply below_alloc | apply pw_below_drewN | apply below_drew1) | exact HB.out)))); (case aL => have := LMc33.out; omega); intro v139 w41 ho hb hg hat; rw [← Ny138.out] at ho; have n0_ := Aside0.mk (Kd.R_after (ok := (fun k_ => some k_ ≠ (.slice Ao38 y126.length co38 : Value).ownBlock)) (by (with_reducible repeat (first | apply Kd.R_alloc | apply Kd.R_drewN | apply Kd.R_drew)); exact Kd.R_mono HO_6.out (fun _ hk => ⟨hk.1.2, hk.2⟩)) hg hat); have n1_ := Aside0.mk (Kd.R_after (ok := (fun k_ => some k_ ≠ (.slice Ao37 x6_2.length co37 : Value).ownBlock)) (by (with_reducible repeat (first | apply Kd.R_alloc | apply Kd.R_drewN | apply Kd.R_drew)); exact HO128.out) hg hat); have n2_ := Aside0.mk (hb); have n3_ := Aside0.mk (ho); clear HO_6; clear HO128; clear HB; clear HO137; have HO_6 := n0_; have HO128 := n1_; have HB := n2_; have HO140 := n3_; clear n0_ n1_ n2_ n3_; clear ho hb hg hat))
                            go_roundg kj10
                            case measure => have := HJ2.out; have := HK2.out; have := HJ6.out; have := HJ10.out; omega
                            case rel => exact ⟨(wrap64 (Int.tdiv x0_2 10)), (y138), (wrap64 (x7_2 + 1)), (by first | rfl | (simp; done) | (simp [*]; done)), (by first | rfl | (simp; done) | (simp [*]; done)), H', ⟨by have := HJ2.out; have := HK2.out; have := HJ6.out; have := HJ10.out; omega⟩, ⟨by (with_reducible repeat (first | apply Kd.R_alloc | apply Kd.R_drewN | apply Kd.R_drew)); exact Kd.R_mono HO140.out (fun _ hk => trivial)⟩, ⟨by repeat (first | (with_reducible first | exact HB.out | apply below_alloc | apply pw_below_drewN | apply below_drew1) | exact HB.out)⟩⟩
                          · rw [if_neg c33] at H
                            exact absurd H (by simp)
                      · rw [if_neg c16] at H
                        have c16b0 : decide (x7_2 < a1) = false := decide_eq_false c16
                        clear c16
                        obtain ⟨y141, hy141⟩ : ∃ y_ : List Int, y_ = (([(wrap64 (48 + (Int.tmod x0_2 10))) % 256] : List Int)) := ⟨_, rfl⟩
                        replace H : (if y141.length + y126.length < 140737488355328 then (spec_Decimal.l0 kj10 (wrap64 (Int.tdiv x0_2 10)) a1 false (y141 ++ y126) (wrap64 (x7_2 + 1))) else (none)) = some r := by first | (rw [hy141]; with_reducible exact H) | (have H2_ := (Option.bind_some _ _).symm.trans H; rw [hy141]; with_reducible exact H2_) | (have H2_ := (Option.bind_some _ _).symm.trans H; with_reducible exact H2_) | with_reducible exact H | (rw [hy141]; exact H) | exact H
                        have Ny141 := Aside0.mk hy141
                        clear hy141
                        by_cases c42 : y141.length + y126.length < 140737488355328
                        · rw [if_pos c42] at H
                          have LMc42 := Aside0.mk c42
                          clear c42
                          obtain ⟨y144, hy144⟩ : ∃ y_ : List Int, y_ = (y141 ++ y126) := ⟨_, rfl⟩
                          replace H : (spec_Decimal.l0 kj10 (wrap64 (Int.tdiv x0_2 10)) a1 false y144 (wrap64 (x7_2 + 1))) = some r := by first | (rw [hy144]; with_reducible exact H) | (have H2_ := (Option.bind_some _ _).symm.trans H; rw [hy144]; with_reducible exact H2_) | (have H2_ := (Option.bind_some _ _).symm.trans H; with_reducible exact H2_) | with_reducible exact H | (rw [hy144]; exact H) | exact H
                          have Ny144 := Aside0.mk hy144
                          clear hy144
                          have H' := Aside0.mk H
                          clear H
                          go_wp2_with (first | ((with_reducible refine gate_dst (N := 37) rfl ?_); (try (refine gate_guard (by rfl) ?_; dsimp only)); refine Kd.R_lit (Kd.int .u8) _ 5 ?hg (N := 37) ?hd (xs := ([46] : List Int)) (inner := [.int .u8 46]) (ok := fun _ => True) (okp := fun _ => True) ?hr ?hp (fun _ hk => hk) trivial (Below.refl _ _) (Nat.le_refl _) (by simp) ?_; (case hd => rfl); (case hg => rfl); (case hr => first | (go_simp; done) | (go_simp; rfl)); (case hp => exact (Reps.one (show Kd.M (Kd.int .u8) _ _ _ 46 [.int .u8 46] from rfl) (Reps.none _ _))); intro v124 w43 ho44 hb hg_ hnew_; clear hg_ hnew_; (first | rw [← Ny123.out] at ho44 | (simp only [Int.reduceToNat] at ho44; rw [← Ny123.out] at ho44)); have n0_ := Aside0.mk (Kd.R_elder' (by (with_reducible repeat (first | apply Kd.R_alloc | apply Kd.R_drewN | apply Kd.R_drew)); exact HO_6.out) (Kd.R_base ho44) hb); have n1_ := Aside0.mk (Kd.R_lower (Kd.R_new' ho44 (Kd.R_lt (by (with_reducible repeat (first | apply Kd.R_alloc | apply Kd.R_drewN | apply Kd.R_drew)); exact HO_6.out))) (below_size (by repeat (first | (with_reducible first | exact HB.out | apply below_alloc | apply pw_below_drewN | apply below_drew1) | exact HB.out)))); have n2_ := Aside0.mk (below_step (by repeat (first | (with_reducible first | exact HB.out | apply below_alloc | apply pw_below_drewN | apply below_drew1) | exact HB.out)) hb); clear HO_6; clear HB; have HO_6 := n0_; have HO125 := n1_; have HB := n2_; clear n0_ n1_ n2_; clear hb ho44; obtain ⟨Ao46, co46, eo46⟩ := Kd.R_slice HO_6.out; subst eo46) | ((with_reducible refine gate_builtin (b := .append) (xs := #[.tmp 37, .tmp 38]) rfl ?_); (try (refine gate_guard (by rfl) ?_; dsimp only)); at_builtin; refine Kd.R_append_rows (Kd.int .u8) (w0 := w) w.heap.size rfl (.tmp 37) (.tmp 38) 34 5 (.int .u8 0) 1 rfl Tryd.underlying34 info5 rfl (by decide) (by omega) v124 y123 x6_2 _ _ _ (fun k_ => some k_ ≠ (.slice Ao46 x6_2.length co46 : Value).ownBlock) (fun _ => False) rfl rfl ?aO ?aR (fun _ _ h => h) (fun _ h => h.elim) ?aF ?aB ?aS ?aL ?_; (case aR => repeat (first | exact (Kd.R_reads' HO_6.out).2.2 | (with_reducible refine Kd.C_alloc ?_ _) | (with_reducible refine Kd.C_drewN ?_ _) | (with_reducible refine Kd.C_drew ?_))); (case aB => exact (by repeat (first | (with_reducible first | exact HB.out | apply below_alloc | apply pw_below_drewN | apply below_drew1) | exact HB.out))); (case aF => exact (fun k_ hk => Kd.fresh' (Kd.R_lt (by (with_reducible repeat (first | apply Kd.R_alloc | apply Kd.R_drewN | apply Kd.R_drew)); exact HO_6.out)) k_ hk)); (case aO => exact (by (with_reducible repeat (first | apply Kd.R_alloc | apply Kd.R_drewN | apply Kd.R_drew)); exact Kd.R_mono HO125.out (fun _ hk => hk.2))); (case aS => exact (below_size (by repeat (first | (with_reducible first | exact HB.out | apply below_alloc | apply pw_below_drewN | apply below_drew1) | exact HB.out)))); (case aL => have := LMc15.out; omega); intro v127 w45 ho hb hg hat; rw [← Ny126.out] at ho; have n0_ := Aside0.mk (Kd.R_after (ok := (fun _ => True)) (by (with_reducible repeat (first | apply Kd.R_alloc | apply Kd.R_drewN | apply Kd.R_drew)); exact HO_6.out) hg hat); have n1_ := Aside0.mk (hb); have n2_ := Aside0.mk (ho); clear HO_6; clear HB; clear HO125; have HO_6 := n0_; have HB := n1_; have HO128 := n2_; clear n0_ n1_ n2_; clear ho hb hg hat) | ((with_reducible refine gate_dst (N := 59) rfl ?_); (try (refine gate_guard (by rfl) ?_; dsimp only)); refine Kd.R_lit (Kd.int .u8) _ 5 ?hg (N := 59) ?hd (xs := ([(wrap64 (48 + (Int.tmod x0_2 10))) % 256] : List Int)) (inner := [.int .u8 ((wrap64 (48 + (Int.tmod x0_2 10))) % 256)]) (ok := fun _ => True) (okp := fun _ => True) ?hr ?hp (fun _ hk => hk) trivial (Below.refl _ _) (Nat.le_refl _) (by simp) ?_; (case hd => rfl); (case hg => rfl); (case hr => first | (go_simp; done) | (go_simp; rfl)); (case hp => exact (Reps.one (show Kd.M (Kd.int .u8) _ _ _ ((wrap64 (48 + (Int.tmod x0_2 10))) % 256) [.int .u8 ((wrap64 (48 + (Int.tmod x0_2 10))) % 256)] from rfl) (Reps.none _ _))); intro v142 w47 ho48 hb hg_ hnew_; clear hg_ hnew_; (first | rw [← Ny141.out] at ho48 | (simp only [Int.reduceToNat] at ho48; rw [← Ny141.out] at ho48)); have n0_ := Aside0.mk (Kd.R_elder' (by (with_reducible repeat (first | apply Kd.R_alloc | apply Kd.R_drewN | apply Kd.R_drew)); exact HO_6.out) (Kd.R_base ho48) hb); have n1_ := Aside0.mk (Kd.R_elder' (by (with_reducible repeat (first | apply Kd.R_alloc | apply Kd.R_drewN | apply Kd.R_drew)); exact HO128.out) (Kd.R_base ho48) hb); have n2_ := Aside0.mk (Kd.R_lower (Kd.R_new' (Kd.R_new' ho48 (Kd.R_lt (by (with_reducible repeat (first | apply Kd.R_alloc | apply Kd.R_drewN | apply Kd.R_drew)); exact HO_6.out))) (Kd.R_lt (by (with_reducible repeat (first | apply Kd.R_alloc | apply Kd.R_drewN | apply Kd.R_drew)); exact HO128.out))) (below_size (by repeat (first | (with_reducible first | exact HB.out | apply below_alloc | apply pw_below_drewN | apply below_drew1) | exact HB.out)))); have n3_ := Aside0.mk (below_step (by repeat (first | (with_reducible first | exact HB.out | apply below_alloc | apply pw_below_drewN | apply below_drew1) | exact HB.out)) hb); clear HO_6; clear HO128; clear HB; have HO_6 := n0_; have HO128 := n1_; have HO143 := n2_; have HB := n3_; clear n0_ n1_ n2_ n3_; clear hb ho48; obtain ⟨Ao50, co50, eo50⟩ := Kd.R_slice HO128.out; subst eo50) | ((with_reducible refine gate_builtin (b := .append) (xs := #[.tmp 59, .tmp 60]) rfl ?_); (try (refine gate_guard (by rfl) ?_; dsimp only)); at_builtin; refine Kd.R_append_rows (Kd.int .u8) (w0 := w) w.heap.size rfl (.tmp 59) (.tmp 60) 34 5 (.int .u8 0) 1 rfl Tryd.underlying34 info5 rfl (by decide) (by omega) v142 y141 y126 _ _ _ (fun k_ => some k_ ≠ (.slice Ao46 x6_2.length co46 : Value).ownBlock ∧ some k_ ≠ (.slice Ao50 y126.length co50 : Value).ownBlock) (fun _ => False) rfl rfl ?aO ?aR (fun _ _ h => h) (fun _ h => h.elim) ?aF ?aB ?aS ?aL ?_; (case aR => repeat (first | exact (Kd.R_reads' HO128.out).2.2 | (with_reducible refine Kd.C_alloc ?_ _) | (with_reducible refine Kd.C_drewN ?_ _) | (with_reducible refine Kd.C_drew ?_))); (case aB => exact (by repeat (first | (with_reducible first | exact HB.out | apply below_alloc | apply pw_below_drewN | apply below_drew1) | exact HB.out))); (case aF => exact (fun k_ hk => ⟨Kd.fresh' (Kd.R_lt (by (with_reducible repeat (first | apply Kd.R_alloc | apply Kd.R_drewN | apply Kd.R_drew)); exact HO_6.out)) k_ hk, Kd.fresh' (Kd.R_lt (by (with_reducible repeat (first | apply Kd.R_alloc | apply Kd.R_drewN | apply Kd.R_drew)); exact HO128.out)) k_ hk⟩)); (case aO => exact (by (with_reducible repeat (first | apply Kd.R_alloc | apply Kd.R_drewN | apply Kd.R_drew)); exact Kd.R_mono HO143.out (fun _ hk => ⟨hk.1.2, hk.2⟩))); (case aS => exact (below_size (by repeat (first | (with_reducible first | exact HB.out | apply below_alloc | apply pw_below_drewN | apply below_drew1) | exact HB.out)))); (case aL => have := LMc42.out; omega); intro v145 w49 ho hb hg hat; rw [← Ny144.out] at ho; have n0_ := Aside0.mk (Kd.R_after (ok := (fun k_ => some k_ ≠ (.slice Ao50 y126.length co50 : Value).ownBlock)) (by (with_reducible repeat (first | apply Kd.R_alloc | apply Kd.R_drewN | apply Kd.R_drew)); exact Kd.R_mono HO_6.out (fun _ hk => ⟨hk.1.2, hk.2⟩)) hg hat); have n1_ := Aside0.mk (Kd.R_after (ok := (fun k_ => some k_ ≠ (.slice Ao46 x6_2.length co46 : Value).ownBlock)) (by (with_reducible repeat (first | apply Kd.R_alloc | apply Kd.R_drewN | apply Kd.R_drew)); exact HO128.out) hg hat); have n2_ := Aside0.mk (hb); have n3_ := Aside0.mk (ho); clear HO_6; clear HO128; clear HB; clear HO143; have HO_6 := n0_; have HO128 := n1_; have HB := n2_; have HO146 := n3_; clear n0_ n1_ n2_ n3_; clear ho hb hg hat))
                          go_roundg kj10
                          case measure => have := HJ2.out; have := HK2.out; have := HJ6.out; have := HJ10.out; omega
                          case rel => exact ⟨(wrap64 (Int.tdiv x0_2 10)), (y144), (wrap64 (x7_2 + 1)), (by first | rfl | (simp; done) | (simp [*]; done)), (by first | rfl | (simp; done) | (simp [*]; done)), H', ⟨by have := HJ2.out; have := HK2.out; have := HJ6.out; have := HJ10.out; omega⟩, ⟨by (with_reducible repeat (first | apply Kd.R_alloc | apply Kd.R_drewN | apply Kd.R_drew)); exact Kd.R_mono HO146.out (fun _ hk => trivial)⟩, ⟨by repeat (first | (with_reducible first | exact HB.out | apply below_alloc | apply pw_below_drewN | apply below_drew1) | exact HB.out)⟩⟩
                        · rw [if_neg c42] at H
                          exact absurd H (by simp)
                    · rw [if_neg c15] at H
                      exact absurd H (by simp)
                  · replace c14 := Bool.eq_false_iff.mpr c14
                    subst c14
                    have H1 : (if x7_2 < a1 then (if (x6_2.length : Int) = 0 then (if ((wrap64 (48 + (Int.tmod x0_2 10))) % 256) = 48 then (spec_Decimal.l0 kj10 (wrap64 (Int.tdiv x0_2 10)) a1 false x6_2 (wrap64 (x7_2 + 1))) else ((some (([(wrap64 (48 + (Int.tmod x0_2 10))) % 256] : List Int) : List Int)).bind fun y147 => (if y147.length + x6_2.length < 140737488355328 then (spec_Decimal.l0 kj10 (wrap64 (Int.tdiv x0_2 10)) a1 false (y147 ++ x6_2) (wrap64 (x7_2 + 1))) else (none)))) else ((some (([(wrap64 (48 + (Int.tmod x0_2 10))) % 256] : List Int) : List Int)).bind fun y153 => (if y153.length + x6_2.length < 140737488355328 then (spec_Decimal.l0 kj10 (wrap64 (Int.tdiv x0_2 10)) a1 false (y153 ++ x6_2) (wrap64 (x7_2 + 1))) else (none)))) else ((some (([(wrap64 (48 + (Int.tmod x0_2 10))) % 256] : List Int) : List Int)).bind fun y159 => (if y159.length + x6_2.length < 140737488355328 then (spec_Decimal.l0 kj10 (wrap64 (Int.tdiv x0_2 10)) a1 false (y159 ++ x6_2) (wrap64 (x7_2 + 1))) else (none)))) = some r := by rw [if_neg (show ¬ (false = true) by decide)] at H; exact H
                    clear H
                    have H := H1
                    clear H1
                    by_cases c51 : x7_2 < a1
                    · rw [if_pos c51] at H
                      have c51b0 : decide (x7_2 < a1) = true := decide_eq_true c51
                      clear c51
                      by_cases c52 : (x6_2.length : Int) = 0
                      · rw [if_pos c52] at H
                        have c52b0 : ((x6_2.length : Int) == 0) = true := beq_iff_eq.mpr c52
                        have c52b1 : ((x6_2.length : Int) != 0) = false := bne_eq_false_iff_eq.mpr c52
                        clear c52
                        by_cases c53 : ((wrap64 (48 + (Int.tmod x0_2 10))) % 256) = 48
                        · rw [if_pos c53] at H
                          have c53b0 : (((wrap64 (48 + (Int.tmod x0_2 10))) % 256) == 48) = true := beq_iff_eq.mpr c53
                          have c53b1 : (((wrap64 (48 + (Int.tmod x0_2 10))) % 256) != 48) = false := bne_eq_false_iff_eq.mpr c53
                          clear c53
                          have H' := Aside0.mk H
                          clear H
                          obtain ⟨Ao54, co54, eo54⟩ := Kd.R_slice HO_6.out
                          subst eo54
                          go_wp2
                          go_roundg kj10
                          case measure => have := HJ2.out; have := HK2.out; have := HJ6.out; have := HJ10.out; omega
                          case rel => exact ⟨(wrap64 (Int.tdiv x0_2 10)), (x6_2), (wrap64 (x7_2 + 1)), (by first | rfl | (simp; done) | (simp [*]; done)), (by first | rfl | (simp; done) | (simp [*]; done)), H', ⟨by have := HJ2.out; have := HK2.out; have := HJ6.out; have := HJ10.out; omega⟩, ⟨by (with_reducible repeat (first | apply Kd.R_alloc | apply Kd.R_drewN | apply Kd.R_drew)); exact HO_6.out⟩, ⟨by repeat (first | (with_reducible first | exact HB.out | apply below_alloc | apply pw_below_drewN | apply below_drew1) | exact HB.out)⟩⟩
                        · rw [if_neg c53] at H
                          have c53b0 : (((wrap64 (48 + (Int.tmod x0_2 10))) % 256) == 48) = false := beq_eq_false_iff_ne.mpr c53
                          have c53b1 : (((wrap64 (48 + (Int.tmod x0_2 10))) % 256) != 48) = true := bne_iff_ne.mpr c53
                          obtain ⟨y147, hy147⟩ : ∃ y_ : List Int, y_ = (([(wrap64 (48 + (Int.tmod x0_2 10))) % 256] : List Int)) := ⟨_, rfl⟩
                          replace H : (if y147.length + x6_2.length < 140737488355328 then (spec_Decimal.l0 kj10 (wrap64 (Int.tdiv x0_2 10)) a1 false (y147 ++ x6_2) (wrap64 (x7_2 + 1))) else (none)) = some r := by first | (rw [hy147]; with_reducible exact H) | (have H2_ := (Option.bind_some _ _).symm.trans H; rw [hy147]; with_reducible exact H2_) | (have H2_ := (Option.bind_some _ _).symm.trans H; with_reducible exact H2_) | with_reducible exact H | (rw [hy147]; exact H) | exact H
                          have Ny147 := Aside0.mk hy147
                          clear hy147
                          by_cases c55 : y147.length + x6_2.length < 140737488355328
                          · rw [if_pos c55] at H
                            have LMc55 := Aside0.mk c55
                            clear c55
                            obtain ⟨y150, hy150⟩ : ∃ y_ : List Int, y_ = (y147 ++ x6_2) := ⟨_, rfl⟩
                            replace H : (spec_Decimal.l0 kj10 (wrap64 (Int.tdiv x0_2 10)) a1 false y150 (wrap64 (x7_2 + 1))) = some r := by first | (rw [hy150]; with_reducible exact H) | (have H2_ := (Option.bind_some _ _).symm.trans H; rw [hy150]; with_reducible exact H2_) | (have H2_ := (Option.bind_some _ _).symm.trans H; with_reducible exact H2_) | with_reducible exact H | (rw [hy150]; exact H) | exact H
                            have Ny150 := Aside0.mk hy150
                            clear hy150
                            have H' := Aside0.mk H
                            clear H
                            obtain ⟨Ao56, co56, eo56⟩ := Kd.R_slice HO_6.out
                            subst eo56
                            go_wp2_with (first | ((with_reducible refine gate_dst (N := 59) rfl ?_); (try (refine gate_guard (by rfl) ?_; dsimp only)); refine Kd.R_lit (Kd.int .u8) _ 5 ?hg (N := 59) ?hd (xs := ([(wrap64 (48 + (Int.tmod x0_2 10))) % 256] : List Int)) (inner := [.int .u8 ((wrap64 (48 + (Int.tmod x0_2 10))) % 256)]) (ok := fun _ => True) (okp := fun _ => True) ?hr ?hp (fun _ hk => hk) trivial (Below.refl _ _) (Nat.le_refl _) (by simp) ?_; (case hd => rfl); (case hg => rfl); (case hr => first | (go_simp; done) | (go_simp; rfl)); (case hp => exact (Reps.one (show Kd.M (Kd.int .u8) _ _ _ ((wrap64 (48 + (Int.tmod x0_2 10))) % 256) [.int .u8 ((wrap64 (48 + (Int.tmod x0_2 10))) % 256)] from rfl) (Reps.none _ _))); intro v148 w57 ho58 hb hg_ hnew_; clear hg_ hnew_; (first | rw [← Ny147.out] at ho58 | (simp only [Int.reduceToNat] at ho58; rw [← Ny147.out] at ho58)); have n0_ := Aside0.mk (Kd.R_elder' (by (with_reducible repeat (first | apply Kd.R_alloc | apply Kd.R_drewN | apply Kd.R_drew)); exact HO_6.out) (Kd.R_base ho58) hb); have n1_ := Aside0.mk (Kd.R_lower (Kd.R_new' ho58 (Kd.R_lt (by (with_reducible repeat (first | apply Kd.R_alloc | apply Kd.R_drewN | apply Kd.R_drew)); exact HO_6.out))) (below_size (by repeat (first | (with_reducible first | exact HB.out | apply below_alloc | apply pw_below_drewN | apply below_drew1) | exact HB.out)))); have n2_ := Aside0.mk (below_step (by repeat (first | (with_reducible first | exact HB.out | apply below_alloc | apply pw_below_drewN | apply below_drew1) | exact HB.out)) hb); clear HO_6; clear HB; have HO_6 := n0_; have HO149 := n1_; have HB := n2_; clear n0_ n1_ n2_; clear hb ho58) | ((with_reducible refine gate_builtin (b := .append) (xs := #[.tmp 59, .tmp 60]) rfl ?_); (try (refine gate_guard (by rfl) ?_; dsimp only)); at_builtin; refine Kd.R_append_rows (Kd.int .u8) (w0 := w) w.heap.size rfl (.tmp 59) (.tmp 60) 34 5 (.int .u8 0) 1 rfl Tryd.underlying34 info5 rfl (by decide) (by omega) v148 y147 x6_2 _ _ _ (fun k_ => some k_ ≠ (.slice Ao56 x6_2.length co56 : Value).ownBlock) (fun _ => False) rfl rfl ?aO ?aR (fun _ _ h => h) (fun _ h => h.elim) ?aF ?aB ?aS ?aL ?_; (case aR => repeat (first | exact (Kd.R_reads' HO_6.out).2.2 | (with_reducible refine Kd.C_alloc ?_ _) | (with_reducible refine Kd.C_drewN ?_ _) | (with_reducible refine Kd.C_drew ?_))); (case aB => exact (by repeat (first | (with_reducible first | exact HB.out | apply below_alloc | apply pw_below_drewN | apply below_drew1) | exact HB.out))); (case aF => exact (fun k_ hk => Kd.fresh' (Kd.R_lt (by (with_reducible repeat (first | apply Kd.R_alloc | apply Kd.R_drewN | apply Kd.R_drew)); exact HO_6.out)) k_ hk)); (case aO => exact (by (with_reducible repeat (first | apply Kd.R_alloc | apply Kd.R_drewN | apply Kd.R_drew)); exact Kd.R_mono HO149.out (fun _ hk => hk.2))); (case aS => exact (below_size (by repeat (first | (with_reducible first | exact HB.out | apply below_alloc | apply pw_below_drewN | apply below_drew1) | exact HB.out)))); (case aL => have := LMc55.out; omega); intro v151 w59 ho hb hg hat; rw [← Ny150.out] at ho; have n0_ := Aside0.mk (Kd.R_after (ok := (fun _ => True)) (by (with_reducible repeat (first | apply Kd.R_alloc | apply Kd.R_drewN | apply Kd.R_drew)); exact HO_6.out) hg hat); have n1_ := Aside0.mk (hb); have n2_ := Aside0.mk (ho); clear HO_6; clear HB; clear HO149; have HO_6 := n0_; have HB := n1_; have HO152 := n2_; clear n0_ n1_ n2_; clear ho hb hg hat))
                            go_roundg kj10
                            case measure => have := HJ2.out; have := HK2.out; have := HJ6.out; have := HJ10.out; omega
                            case rel => exact ⟨(wrap64 (Int.tdiv x0_2 10)), (y150), (wrap64 (x7_2 + 1)), (by first | rfl | (simp; done) | (simp [*]; done)), (by first | rfl | (simp; done) | (simp [*]; done)), H', ⟨by have := HJ2.out; have := HK2.out; have := HJ6.out; have := HJ10.out; omega⟩, ⟨by (with_reducible repeat (first | apply Kd.R_alloc | apply Kd.R_drewN | apply Kd.R_drew)); exact Kd.R_mono HO152.out (fun _ hk => trivial)⟩, ⟨by repeat (first | (with_reducible first | exact HB.out | apply below_alloc | apply pw_below_drewN | apply below_drew1) | exact HB.out)⟩⟩
                          · rw [if_neg c55] at H
                            exact absurd H (by simp)
                      · rw [if_neg c52] at H
                        have c52b0 : ((x6_2.length : Int) == 0) = false := beq_eq_false_iff_ne.mpr c52
                        have c52b1 : ((x6_2.length : Int) != 0) = true := bne_iff_ne.mpr c52
                        have c52b2 : ¬ (x6_2 = []) := fun h_ => c52 (by rw [h_]; rfl)
                        obtain ⟨y153, hy153⟩ : ∃ y_ : List Int, y_ = (([(wrap64 (48 + (Int.tmod x0_2 10))) % 256] : List Int)) := ⟨_, rfl⟩
                        replace H : (if y153.length + x6_2.length < 140737488355328 then (spec_Decimal.l0 kj10 (wrap64 (Int.tdiv x0_2 10)) a1 false (y153 ++ x6_2) (wrap64 (x7_2 + 1))) else (none)) = some r := by first | (rw [hy153]; with_reducible exact H) | (have H2_ := (Option.bind_some _ _).symm.trans H; rw [hy153]; with_reducible exact H2_) | (have H2_ := (Option.bind_some _ _).symm.trans H; with_reducible exact H2_) | with_reducible exact H | (rw [hy153]; exact H) | exact H
                        have Ny153 := Aside0.mk hy153
                        clear hy153
                        by_cases c60 : y153.length + x6_2.length < 140737488355328
                        · rw [if_pos c60] at H
                          have LMc60 := Aside0.mk c60
                          clear c60
                          obtain ⟨y156, hy156⟩ : ∃ y_ : List Int, y_ = (y153 ++ x6_2) := ⟨_, rfl⟩
                          replace H : (spec_Decimal.l0 kj10 (wrap64 (Int.tdiv x0_2 10)) a1 false y156 (wrap64 (x7_2 + 1))) = some r := by first | (rw [hy156]; with_reducible exact H) | (have H2_ := (Option.bind_some _ _).symm.trans H; rw [hy156]; with_reducible exact H2_) | (have H2_ := (Option.bind_some _ _).symm.trans H; with_reducible exact H2_) | with_reducible exact H | (rw [hy156]; exact H) | exact H
                          have Ny156 := Aside0.mk hy156
                          clear hy156
                          have H' := Aside0.mk H
                          clear H
                          obtain ⟨Ao61, co61, eo61⟩ := Kd.R_slice HO_6.out
                          subst eo61
                          go_wp2_with (first | ((with_reducible refine gate_dst (N := 59) rfl ?_); (try (refine gate_guard (by rfl) ?_; dsimp only)); refine Kd.R_lit (Kd.int .u8) _ 5 ?hg (N := 59) ?hd (xs := ([(wrap64 (48 + (Int.tmod x0_2 10))) % 256] : List Int)) (inner := [.int .u8 ((wrap64 (48 + (Int.tmod x0_2 10))) % 256)]) (ok := fun _ => True) (okp := fun _ => True) ?hr ?hp (fun _ hk => hk) trivial (Below.refl _ _) (Nat.le_refl _) (by simp) ?_; (case hd => rfl); (case hg => rfl); (case hr => first | (go_simp; done) | (go_simp; rfl)); (case hp => exact (Reps.one (show Kd.M (Kd.int .u8) _ _ _ ((wrap64 (48 + (Int.tmod x0_2 10))) % 256) [.int .u8 ((wrap64 (48 + (Int.tmod x0_2 10))) % 256)] from rfl) (Reps.none _ _))); intro v154 w62 ho63 hb hg_ hnew_; clear hg_ hnew_; (first | rw [← Ny153.out] at ho63 | (simp only [Int.reduceToNat] at ho63; rw [← Ny153.out] at ho63)); have n0_ := Aside0.mk (Kd.R_elder' (by (with_reducible repeat (first | apply Kd.R_alloc | apply Kd.R_drewN | apply Kd.R_drew)); exact HO_6.out) (Kd.R_base ho63) hb); have n1_ := Aside0.mk (Kd.R_lower (Kd.R_new' ho63 (Kd.R_lt (by (with_reducible repeat (first | apply Kd.R_alloc | apply Kd.R_drewN | apply Kd.R_drew)); exact HO_6.out))) (below_size (by repeat (first | (with_reducible first | exact HB.out | apply below_alloc | apply pw_below_drewN | apply below_drew1) | exact HB.out)))); have n2_ := Aside0.mk (below_step (by repeat (first | (with_reducible first | exact HB.out | apply below_alloc | apply pw_below_drewN | apply below_drew1) | exact HB.out)) hb); clear HO_6; clear HB; have HO_6 := n0_; have HO155 := n1_; have HB := n2_; clear n0_ n1_ n2_; clear hb ho63) | ((with_reducible refine gate_builtin (b := .append) (xs := #[.tmp 59, .tmp 60]) rfl ?_); (try (refine gate_guard (by rfl) ?_; dsimp only)); at_builtin; refine Kd.R_append_rows (Kd.int .u8) (w0 := w) w.heap.size rfl (.tmp 59) (.tmp 60) 34 5 (.int .u8 0) 1 rfl Tryd.underlying34 info5 rfl (by decide) (by omega) v154 y153 x6_2 _ _ _ (fun k_ => some k_ ≠ (.slice Ao61 x6_2.length co61 : Value).ownBlock) (fun _ => False) rfl rfl ?aO ?aR (fun _ _ h => h) (fun _ h => h.elim) ?aF ?aB ?aS ?aL ?_; (case aR => repeat (first | exact (Kd.R_reads' HO_6.out).2.2 | (with_reducible refine Kd.C_alloc ?_ _) | (with_reducible refine Kd.C_drewN ?_ _) | (with_reducible refine Kd.C_drew ?_))); (case aB => exact (by repeat (first | (with_reducible first | exact HB.out | apply below_alloc | apply pw_below_drewN | apply below_drew1) | exact HB.out))); (case aF => exact (fun k_ hk => Kd.fresh' (Kd.R_lt (by (with_reducible repeat (first | apply Kd.R_alloc | apply Kd.R_drewN | apply Kd.R_drew)); exact HO_6.out)) k_ hk)); (case aO => exact (by (with_reducible repeat (first | apply Kd.R_alloc | apply Kd.R_drewN | apply Kd.R_drew)); exact Kd.R_mono HO155.out (fun _ hk => hk.2))); (case aS => exact (below_size (by repeat (first | (with_reducible first | exact HB.out | apply below_alloc | apply pw_below_drewN | apply below_drew1) | exact HB.out)))); (case aL => have := LMc60.out; omega); intro v157 w64 ho hb hg hat; rw [← Ny156.out] at ho; have n0_ := Aside0.mk (Kd.R_after (ok := (fun _ => True)) (by (with_reducible repeat (first | apply Kd.R_alloc | apply Kd.R_drewN | apply Kd.R_drew)); exact HO_6.out) hg hat); have n1_ := Aside0.mk (hb); have n2_ := Aside0.mk (ho); clear HO_6; clear HB; clear HO155; have HO_6 := n0_; have HB := n1_; have HO158 := n2_; clear n0_ n1_ n2_; clear ho hb hg hat))
                          go_roundg kj10
                          case measure => have := HJ2.out; have := HK2.out; have := HJ6.out; have := HJ10.out; omega
                          case rel => exact ⟨(wrap64 (Int.tdiv x0_2 10)), (y156), (wrap64 (x7_2 + 1)), (by first | rfl | (simp; done) | (simp [*]; done)), (by first | rfl | (simp; done) | (simp [*]; done)), H', ⟨by have := HJ2.out; have := HK2.out; have := HJ6.out; have := HJ10.out; omega⟩, ⟨by (with_reducible repeat (first | apply Kd.R_alloc | apply Kd.R_drewN | apply Kd.R_drew)); exact Kd.R_mono HO158.out (fun _ hk => trivial)⟩, ⟨by repeat (first | (with_reducible first | exact HB.out | apply below_alloc | apply pw_below_drewN | apply below_drew1) | exact HB.out)⟩⟩
                        · rw [if_neg c60] at H
                          exact absurd H (by simp)
                    · rw [if_neg c51] at H
                      have c51b0 : decide (x7_2 < a1) = false := decide_eq_false c51
                      clear c51
                      obtain ⟨y159, hy159⟩ : ∃ y_ : List Int, y_ = (([(wrap64 (48 + (Int.tmod x0_2 10))) % 256] : List Int)) := ⟨_, rfl⟩
                      replace H : (if y159.length + x6_2.length < 140737488355328 then (spec_Decimal.l0 kj10 (wrap64 (Int.tdiv x0_2 10)) a1 false (y159 ++ x6_2) (wrap64 (x7_2 + 1))) else (none)) = some r := by first | (rw [hy159]; with_reducible exact H) | (have H2_ := (Option.bind_some _ _).symm.trans H; rw [hy159]; with_reducible exact H2_) | (have H2_ := (Option.bind_some _ _).symm.trans H; with_reducible exact H2_) | with_reducible exact H | (rw [hy159]; exact H) | exact H
                      have Ny159 := Aside0.mk hy159
                      clear hy159
                      by_cases c65 : y159.length + x6_2.length < 140737488355328
                      · rw [if_pos c65] at H
                        have LMc65 := Aside0.mk c65
                        clear c65
                        obtain ⟨y162, hy162⟩ : ∃ y_ : List Int, y_ = (y159 ++ x6_2) := ⟨_, rfl⟩
                        replace H : (spec_Decimal.l0 kj10 (wrap64 (Int.tdiv x0_2 10)) a1 false y162 (wrap64 (x7_2 + 1))) = some r := by first | (rw [hy162]; with_reducible exact H) | (have H2_ := (Option.bind_some _ _).symm.trans H; rw [hy162]; with_reducible exact H2_) | (have H2_ := (Option.bind_some _ _).symm.trans H; with_reducible exact H2_) | with_reducible exact H | (rw [hy162]; exact H) | exact H
                        have Ny162 := Aside0.mk hy162
                        clear hy162
                        have H' := Aside0.mk H
                        clear H
                        go_wp2_with (first | ((with_reducible refine gate_dst (N := 59) rfl ?_); (try (refine gate_guard (by rfl) ?_; dsimp only)); refine Kd.R_lit (Kd.int .u8) _ 5 ?hg (N := 59) ?hd (xs := ([(wrap64 (48 + (Int.tmod x0_2 10))) % 256] : List Int)) (inner := [.int .u8 ((wrap64 (48 + (Int.tmod x0_2 10))) % 256)]) (ok := fun _ => True) (okp := fun _ => True) ?hr ?hp (fun _ hk => hk) trivial (Below.refl _ _) (Nat.le_refl _) (by simp) ?_; (case hd => rfl); (case hg => rfl); (case hr => first | (go_simp; done) | (go_simp; rfl)); (case hp => exact (Reps.one (show Kd.M (Kd.int .u8) _ _ _ ((wrap64 (48 + (Int.tmod x0_2 10))) % 256) [.int .u8 ((wrap64 (48 + (Int.tmod x0_2 10))) % 256)] from rfl) (Reps.none _ _))); intro v160 w66 ho67 hb hg_ hnew_; clear hg_ hnew_; (first | rw [← Ny159.out] at ho67 | (simp only [Int.reduceToNat] at ho67; rw [← Ny159.out] at ho67)); have n0_ := Aside0.mk (Kd.R_elder' (by (with_reducible repeat (first | apply Kd.R_alloc | apply Kd.R_drewN | apply Kd.R_drew)); exact HO_6.out) (Kd.R_base ho67) hb); have n1_ := Aside0.mk (Kd.R_lower (Kd.R_new' ho67 (Kd.R_lt (by (with_reducible repeat (first | apply Kd.R_alloc | apply Kd.R_drewN | apply Kd.R_drew)); exact HO_6.out))) (below_size (by repeat (first | (with_reducible first | exact HB.out | apply below_alloc | apply pw_below_drewN | apply below_drew1) | exact HB.out)))); have n2_ := Aside0.mk (below_step (by repeat (first | (with_reducible first | exact HB.out | apply below_alloc | apply pw_below_drewN | apply below_drew1) | exact HB.out)) hb); clear HO_6; clear HB; have HO_6 := n0_; have HO161 := n1_; have HB := n2_; clear n0_ n1_ n2_; clear hb ho67; obtain ⟨Ao69, co69, eo69⟩ := Kd.R_slice HO_6.out; subst eo69) | ((with_reducible refine gate_builtin (b := .append) (xs := #[.tmp 59, .tmp 60]) rfl ?_); (try (refine gate_guard (by rfl) ?_; dsimp only)); at_builtin; refine Kd.R_append_rows (Kd.int .u8) (w0 := w) w.heap.size rfl (.tmp 59) (.tmp 60) 34 5 (.int .u8 0) 1 rfl Tryd.underlying34 info5 rfl (by decide) (by omega) v160 y159 x6_2 _ _ _ (fun k_ => some k_ ≠ (.slice Ao69 x6_2.length co69 : Value).ownBlock) (fun _ => False) rfl rfl ?aO ?aR (fun _ _ h => h) (fun _ h => h.elim) ?aF ?aB ?aS ?aL ?_; (case aR => repeat (first | exact (Kd.R_reads' HO_6.out).2.2 | (with_reducible refine Kd.C_alloc ?_ _) | (with_reducible refine Kd.C_drewN ?_ _) | (with_reducible refine Kd.C_drew ?_))); (case aB => exact (by repeat (first | (with_reducible first | exact HB.out | apply below_alloc | apply pw_below_drewN | apply below_drew1) | exact HB.out))); (case aF => exact (fun k_ hk => Kd.fresh' (Kd.R_lt (by (with_reducible repeat (first | apply Kd.R_alloc | apply Kd.R_drewN | apply Kd.R_drew)); exact HO_6.out)) k_ hk)); (case aO => exact (by (with_reducible repeat (first | apply Kd.R_alloc | apply Kd.R_drewN | apply Kd.R_drew)); exact Kd.R_mono HO161.out (fun _ hk => hk.2))); (case aS => exact (below_size (by repeat (first | (with_reducible first | exact HB.out | apply below_alloc | apply pw_below_drewN | apply below_drew1) | exact HB.out)))); (case aL => have := LMc65.out; omega); intro v163 w68 ho hb hg hat; rw [← Ny162.out] at ho; have n0_ := Aside0.mk (Kd.R_after (ok := (fun _ => True)) (by (with_reducible repeat (first | apply Kd.R_alloc | apply Kd.R_drewN | apply Kd.R_drew)); exact HO_6.out) hg hat); have n1_ := Aside0.mk (hb); have n2_ := Aside0.mk (ho); clear HO_6; clear HB; clear HO161; have HO_6 := n0_; have HB := n1_; have HO164 := n2_; clear n0_ n1_ n2_; clear ho hb hg hat))
                        go_roundg kj10
                        case measure => have := HJ2.out; have := HK2.out; have := HJ6.out; have := HJ10.out; omega
                        case rel => exact ⟨(wrap64 (Int.tdiv x0_2 10)), (y162), (wrap64 (x7_2 + 1)), (by first | rfl | (simp; done) | (simp [*]; done)), (by first | rfl | (simp; done) | (simp [*]; done)), H', ⟨by have := HJ2.out; have := HK2.out; have := HJ6.out; have := HJ10.out; omega⟩, ⟨by (with_reducible repeat (first | apply Kd.R_alloc | apply Kd.R_drewN | apply Kd.R_drew)); exact Kd.R_mono HO164.out (fun _ hk => trivial)⟩, ⟨by repeat (first | (with_reducible first | exact HB.out | apply below_alloc | apply pw_below_drewN | apply below_drew1) | exact HB.out)⟩⟩
                      · rw [if_neg c65] at H
                        exact absurd H (by simp)
            · replace c10 := Bool.eq_false_iff.mpr c10
              subst c10
              have H1 : (if false = true then (if 1 + (strOfNums x6_2).size ≤ 9223372036854775807 then (some ((⟨#[45]⟩ : ByteArray) ++ (strOfNums x6_2))) else (none)) else (some (strOfNums x6_2))) = some r := by rw [if_neg (show ¬ (false = true) by decide)] at H; exact H
              clear H
              have H := H1
              clear H1
              by_cases c70 : false = true
              · exact absurd c70 (by decide)
              · rw [if_neg c70] at H
                have c70b0 : false = false := by simpa using c70
                clear c70
                obtain rfl := Option.some.inj H
                have hcv73 := own_string (P := Tryd.prog) Tryd.underlying34 Tryd.underlying5 Tryd.underlying9 (Kd.own_of_R HO_6.out)
                go_wp2
                go_ret
                exact ⟨by first | rfl | (simp [errW_none, errW_some] <;> rfl) | (simp [*, errW_none, errW_some] <;> rfl), by repeat (first | (with_reducible first | exact HB.out | apply below_alloc | apply pw_below_drewN | apply below_drew1) | exact HB.out)⟩

end Go.Proofs.YtleefaheifjelaaDoor.PFnUnitText

