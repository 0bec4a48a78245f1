-- PRINTED BY print.sh 35421559b90ae4d0a3588c463048766b98c2df88dd9212a6774a882060cdf62d: not written by this session
import Derived.Test.YtfhkkojdaejnjaaDoorPFnFormsx0
namespace Go.Proofs.YtfhkkojdaejnjaaDoor.PFnForms
open Go.RowKit Go.Proofs.YtfhkkojdaejnjaaDoorW.PrintWords Go.Proofs.YtfhkkojdaejnjaaDoorW.PrintLast Go.Proofs.YtfhkkojdaejnjaaDoorW.PrintMore
attribute [local go_sem] max2_int min2_int max_two min_two max_three min_three max_four min_four   -- for this text's walks alone
set_option linter.unusedVariables false
set_option linter.unusedSimpArgs false

/-! ### laws_zzFits2: function 6 -/
def laws_zzFits2.l0 : Nat → List (List Int) → Int → Int → Option (Bool)
  | 0, _, _, _ => none
  | k + 1, x8, x9, x10 => if x10 < x9 then (if 0 ≤ x10 then (if x10 < (x8.length : Int) then (if ((rd_L1 x8 x10).length : Int) > 2147483647 then (some false) else (laws_zzFits2.l0 k x8 x9 (wrap64 (x10 + 1)))) else (none)) else (none)) else (some true)
def laws_zzFits2.f (k : Nat) (l0 : List (List Int)) : Option (Bool) := if (l0.length : Int) > 2147483647 then (some false) else (laws_zzFits2.l0 k l0 (l0.length : Int) 0)
theorem laws_zzFits2.mono_l : ∀ k, (∀ y0 y1 y2, LeO (laws_zzFits2.l0 k y0 y1 y2) (laws_zzFits2.l0 (k + 1) y0 y1 y2))
  | 0 => fun _ _ _ r h => by simp [laws_zzFits2.l0] at h
  | k + 1 => by
    have ih0 := laws_zzFits2.mono_l k
    · intro y0 y1 y2
      unfold laws_zzFits2.l0
      repeat' first
      | (with_reducible exact ih0 _ _ _)
      | (with_reducible exact LeO.refl _)
      | (with_reducible exact LeO.none _)
      | (with_reducible refine LeO.ite ?_ ?_)
      | (with_reducible refine LeO.bind ?_ (fun _ => ?_))
      | exact ih0 _ _ _
      | exact LeO.none _
      | refine LeO.ite ?_ ?_
      | refine LeO.bind ?_ (fun _ => ?_)
theorem laws_zzFits2.mono : ∀ a0 k, LeO (laws_zzFits2.f k a0) (laws_zzFits2.f (k + 1) a0) := by
  intro a0 k
  have ih0 := laws_zzFits2.mono_l k
  unfold laws_zzFits2.f
  repeat' first
      | (with_reducible exact ih0 _ _ _)
      | (with_reducible exact LeO.refl _)
      | (with_reducible exact LeO.none _)
      | (with_reducible refine LeO.ite ?_ ?_)
      | (with_reducible refine LeO.bind ?_ (fun _ => ?_))
      | exact ih0 _ _ _
      | exact LeO.none _
      | refine LeO.ite ?_ ?_
      | refine LeO.bind ?_ (fun _ => ?_)
set_option maxHeartbeats 8000000 in
set_option maxRecDepth 100000 in
theorem laws_zzFits2.calls (k : Nat) (A0 : Option Addr) (c0 : Nat) (l0 : List (List Int)) (r : Bool) (w : World) (hr0 : Kd.C (Kd.slice 5 (Kd.int .u8)) w A0 l0.length l0) (hc0 : l0.length ≤ c0) (h : laws_zzFits2.f k l0 = some r) :
    Calls Tryd.prog 6 #[.slice A0 l0.length c0] w fun e w' => e = .returned (.bool r) ∧ Drawn0 w w' := by
  have HR0 := Aside0.mk hr0
  have HC0 := Aside0.mk hc0
  clear hr0 hc0
  have H : (if (l0.length : Int) > 2147483647 then (some false) else (laws_zzFits2.l0 k l0 (l0.length : Int) 0)) = some r := h
  clear h
  by_cases c2 : (l0.length : Int) > 2147483647
  · rw [if_pos c2] at H
    have c2b0 : decide (2147483647 < (l0.length : Int)) = true := decide_eq_true c2
    have c2b1 : decide (2147483647 < l0.length) = true := decide_eq_true (by omega)
    clear c2
    obtain rfl := Option.some.inj H
    go_enter Tryd.func6, Tryd.ntmps6
    go_wp2
    go_ret
    exact ⟨by first | rfl | (simp; done) | (simp [*]; done), by repeat (first | exact Drawn0.refl _ | apply Drawn0.step)⟩
  · rw [if_neg c2] at H
    have c2b0 : decide (2147483647 < (l0.length : Int)) = false := decide_eq_false c2
    have c2b1 : decide (2147483647 < l0.length) = false := decide_eq_false (by omega)
    clear c2
    have H' := Aside0.mk H
    clear H
    go_enter Tryd.func6, Tryd.ntmps6
    go_wp2
    go_loopg [10] k (fun kq v10 w' => ∃ (x10_1 : Int), v10 = .int .i64 x10_1 ∧ Aside0 (laws_zzFits2.l0 kq l0 (l0.length : Int) x10_1 = some r) ∧ Aside0 (kq ≤ k) ∧ Drawn0 w w')
    case atStart => exact ⟨(0), (by first | rfl | (simp; done) | (simp [*]; done)), H', ⟨Nat.le_refl _⟩, by repeat (first | exact Drawn0.refl _ | apply Drawn0.step)⟩
    case round =>
      clear H'
      try clear c2
      try clear c2b0
      try clear c2b1
      try clear p2
      obtain ⟨x10_1, rfl, HA, HK1, ⟨m1, rfl⟩⟩ := hrel
      cases gk with
      | zero => exact absurd HA.out (by simp [laws_zzFits2.l0])
      | succ k1 =>
        have H := HA.out
        clear HA
        simp only [laws_zzFits2.l0] at H
        by_cases c3 : x10_1 < (l0.length : Int)
        · rw [if_pos c3] at H
          have c3b0 : decide (x10_1 < (l0.length : Int)) = true := decide_eq_true c3
          clear c3
          by_cases c4 : 0 ≤ x10_1
          · rw [if_pos c4] at H
            have c4b0 : decide (0 ≤ x10_1) = true := decide_eq_true c4
            clear c4
            by_cases c5 : x10_1 < (l0.length : Int)
            · rw [if_pos c5] at H
              have c5b0 : decide (x10_1 < (l0.length : Int)) = true := decide_eq_true c5
              clear c5
              by_cases c6 : ((rd_L1 l0 x10_1).length : Int) > 2147483647
              · rw [if_pos c6] at H
                have c6b0 : decide (2147483647 < ((rd_L1 l0 x10_1).length : Int)) = true := decide_eq_true c6
                have c6b1 : decide (2147483647 < (rd_L1 l0 x10_1).length) = true := decide_eq_true (by omega)
                clear c6
                obtain rfl := Option.some.inj H
                have p101 : 0 ≤ (x10_1 : Int) := of_decide_eq_true (by first | (with_reducible assumption) | assumption)
                have q101 : x10_1 < (l0.length : Int) := of_decide_eq_true (by first | (with_reducible assumption) | assumption)
                obtain ⟨ad101, A101_0, c101_0, e101, hx101_0, hl101_0, hi101_0⟩ := at_L1 HR0.out x10_1 p101 q101
                cases e101
                have HR101_0 := Aside0.mk hi101_0
                have HC101_0 := Aside0.mk hl101_0
                clear hi101_0 hl101_0
                replace p101 := eq_true p101
                replace q101 := eq_true q101
                go_wp2
                go_ret
                exact ⟨by first | rfl | (simp; done) | (simp [*]; done), by repeat (first | exact Drawn0.refl _ | apply Drawn0.step)⟩
              · rw [if_neg c6] at H
                have c6b0 : decide (2147483647 < ((rd_L1 l0 x10_1).length : Int)) = false := decide_eq_false c6
                have c6b1 : decide (2147483647 < (rd_L1 l0 x10_1).length) = false := decide_eq_false (by omega)
                clear c6
                have H' := Aside0.mk H
                clear H
                have p101 : 0 ≤ (x10_1 : Int) := of_decide_eq_true (by first | (with_reducible assumption) | assumption)
                have q101 : x10_1 < (l0.length : Int) := of_decide_eq_true (by first | (with_reducible assumption) | assumption)
                obtain ⟨ad101, A101_0, c101_0, e101, hx101_0, hl101_0, hi101_0⟩ := at_L1 HR0.out x10_1 p101 q101
                cases e101
                have HR101_0 := Aside0.mk hi101_0
                have HC101_0 := Aside0.mk hl101_0
                clear hi101_0 hl101_0
                replace p101 := eq_true p101
                replace q101 := eq_true q101
                go_wp2
                go_roundg k1
                case measure => have := HK1.out; omega
                case rel => exact ⟨(wrap64 (x10_1 + 1)), (by first | rfl | (simp; done) | (simp [*]; done)), H', ⟨by have := HK1.out; omega⟩, by repeat (first | exact Drawn0.refl _ | apply Drawn0.step)⟩
            · rw [if_neg c5] at H
              exact absurd H (by simp)
          · rw [if_neg c4] at H
            exact absurd H (by simp)
        · rw [if_neg c3] at H
          have c3b0 : decide (x10_1 < (l0.length : Int)) = false := decide_eq_false c3
          clear c3
          obtain rfl := Option.some.inj H
          go_wp2
          go_ret
          exact ⟨by first | rfl | (simp; done) | (simp [*]; done), by repeat (first | exact Drawn0.refl _ | apply Drawn0.step)⟩

/-! ### laws_isCoded: function 7 -/
def laws_isCoded.f (a0 : Int) (a1 : Int) : Option (Bool) := if a0 ≥ 1 then (if a0 ≤ 24 then (if a1 ≥ 1 then (if 0 ≤ a0 then (some (decide (a1 ≤ (shl .u64 16 a0)))) else (none)) else (some false)) else (some false)) else (some false)
set_option maxHeartbeats 8000000 in
set_option maxRecDepth 100000 in
theorem laws_isCoded.calls (a0 : Int) (a1 : Int) (r : Bool) (w : World) (h : laws_isCoded.f a0 a1 = some r) :
    Calls Tryd.prog 7 #[.int .u8 a0, .int .u64 a1] w fun e w' => e = .returned (.bool r) ∧ Drawn0 w w' := by
  have H : (if a0 ≥ 1 then (if a0 ≤ 24 then (if a1 ≥ 1 then (if 0 ≤ a0 then (some (decide (a1 ≤ (shl .u64 16 a0)))) else (none)) else (some false)) else (some false)) else (some false)) = some r := h
  clear h
  by_cases c3 : a0 ≥ 1
  · rw [if_pos c3] at H
    have c3b0 : decide (1 ≤ a0) = true := decide_eq_true c3
    clear c3
    by_cases c4 : a0 ≤ 24
    · rw [if_pos c4] at H
      have c4b0 : decide (a0 ≤ 24) = true := decide_eq_true c4
      clear c4
      by_cases c5 : a1 ≥ 1
      · rw [if_pos c5] at H
        have c5b0 : decide (1 ≤ a1) = true := decide_eq_true c5
        clear c5
        by_cases c6 : 0 ≤ a0
        · rw [if_pos c6] at H
          have c6b0 := eq_true c6
          have c6b1 : decide (0 ≤ a0) = true := decide_eq_true c6
          clear c6
          obtain ⟨ji7, hji7⟩ : ∃ j_ : Int, (shl .u64 16 a0) = j_ := ⟨_, rfl⟩
          replace H : (some (decide (a1 ≤ (ji7)))) = some r := by first | (rw [hji7] at H; exact H) | (simp only [hji7] at H ⊢; exact H)
          have hji7_ : (IntKind.u64.wrap (16 * 2 ^ min a0.toNat 64)) = ji7 := hji7
          have hji7z : a0 ≤ 64 → (IntKind.u64.wrap (16 * 2 ^ a0.toNat)) = ji7 := shl_small hji7
          obtain rfl := Option.some.inj H
          go_enter Tryd.func7, Tryd.ntmps7
          go_wp2
          go_ret
          exact ⟨by first | rfl | (simp; done) | (simp only [← hji7] <;> (first | rfl | simp)) | (simp [*]; done), by repeat (first | exact Drawn0.refl _ | apply Drawn0.step)⟩
        · rw [if_neg c6] at H
          exact absurd H (by simp)
      · rw [if_neg c5] at H
        have c5b0 : decide (1 ≤ a1) = false := decide_eq_false c5
        clear c5
        obtain rfl := Option.some.inj H
        go_enter Tryd.func7, Tryd.ntmps7
        go_wp2
        go_ret
        exact ⟨by first | rfl | (simp; done) | (simp [*]; done), by repeat (first | exact Drawn0.refl _ | apply Drawn0.step)⟩
    · rw [if_neg c4] at H
      have c4b0 : decide (a0 ≤ 24) = false := decide_eq_false c4
      clear c4
      obtain rfl := Option.some.inj H
      go_enter Tryd.func7, Tryd.ntmps7
      go_wp2
      go_ret
      exact ⟨by first | rfl | (simp; done) | (simp [*]; done), by repeat (first | exact Drawn0.refl _ | apply Drawn0.step)⟩
  · rw [if_neg c3] at H
    have c3b0 : decide (1 ≤ a0) = false := decide_eq_false c3
    clear c3
    obtain rfl := Option.some.inj H
    go_enter Tryd.func7, Tryd.ntmps7
    go_wp2
    go_ret
    exact ⟨by first | rfl | (simp; done) | (simp [*]; done), by repeat (first | exact Drawn0.refl _ | apply Drawn0.step)⟩

/-! ### spec_IsSmall: function 8 -/
def spec_IsSmall.l0 : Nat → List (List Int) → List (List Int) → Int → Int → Option (Bool)
  | 0, _, _, _, _ => none
  | k + 1, x0, x5, x6, x7 => if x7 < x6 then (if 0 ≤ x7 then (if x7 < (x5.length : Int) then (if ((rd_L1 x5 x7).length : Int) > 60 then (some false) else (spec_IsSmall.l0 k x0 x5 x6 (wrap64 (x7 + 1)))) else (none)) else (none)) else (some (decide ((x0.length : Int) ≤ 20)))
def spec_IsSmall.f (k : Nat) (l0 : List (List Int)) : Option (Bool) := spec_IsSmall.l0 k l0 l0 (l0.length : Int) 0
theorem spec_IsSmall.mono_l : ∀ k, (∀ y0 y1 y2 y3, LeO (spec_IsSmall.l0 k y0 y1 y2 y3) (spec_IsSmall.l0 (k + 1) y0 y1 y2 y3))
  | 0 => fun _ _ _ _ r h => by simp [spec_IsSmall.l0] at h
  | k + 1 => by
    have ih0 := spec_IsSmall.mono_l k
    · intro y0 y1 y2 y3
      unfold spec_IsSmall.l0
      repeat' first
      | (with_reducible exact ih0 _ _ _ _)
      | (with_reducible exact LeO.refl _)
      | (with_reducible exact LeO.none _)
      | (with_reducible refine LeO.ite ?_ ?_)
      | (with_reducible refine LeO.bind ?_ (fun _ => ?_))
      | exact ih0 _ _ _ _
      | exact LeO.none _
      | refine LeO.ite ?_ ?_
      | refine LeO.bind ?_ (fun _ => ?_)
theorem spec_IsSmall.mono : ∀ a0 k, LeO (spec_IsSmall.f k a0) (spec_IsSmall.f (k + 1) a0) := by
  intro a0 k
  have ih0 := spec_IsSmall.mono_l k
  unfold spec_IsSmall.f
  repeat' first
      | (with_reducible exact ih0 _ _ _ _)
      | (with_reducible exact LeO.refl _)
      | (with_reducible exact LeO.none _)
      | (with_reducible refine LeO.ite ?_ ?_)
      | (with_reducible refine LeO.bind ?_ (fun _ => ?_))
      | exact ih0 _ _ _ _
      | exact LeO.none _
      | refine LeO.ite ?_ ?_
      | refine LeO.bind ?_ (fun _ => ?_)
set_option maxHeartbeats 8000000 in
set_option maxRecDepth 100000 in
theorem spec_IsSmall.calls (k : Nat) (A0 : Option Addr) (c0 : Nat) (l0 : List (List Int)) (r : Bool) (w : World) (hr0 : Kd.C (Kd.slice 5 (Kd.int .u8)) w A0 l0.length l0) (hc0 : l0.length ≤ c0) (h : spec_IsSmall.f k l0 = some r) :
    Calls Tryd.prog 8 #[.slice A0 l0.length c0] w fun e w' => e = .returned (.bool r) ∧ Drawn0 w w' := by
  have HR0 := Aside0.mk hr0
  have HC0 := Aside0.mk hc0
  clear hr0 hc0
  have H : (spec_IsSmall.l0 k l0 l0 (l0.length : Int) 0) = some r := h
  clear h
  have H' := Aside0.mk H
  clear H
  go_enter Tryd.func8, Tryd.ntmps8
  go_wp2
  go_loopg [7] k (fun kq v7 w' => ∃ (x7_1 : Int), v7 = .int .i64 x7_1 ∧ Aside0 (spec_IsSmall.l0 kq l0 l0 (l0.length : Int) x7_1 = some r) ∧ Aside0 (kq ≤ k) ∧ Drawn0 w w')
  case atStart => exact ⟨(0), (by first | rfl | (simp; done) | (simp [*]; done)), H', ⟨Nat.le_refl _⟩, by repeat (first | exact Drawn0.refl _ | apply Drawn0.step)⟩
  case round =>
    clear H'
    obtain ⟨x7_1, rfl, HA, HK1, ⟨m1, rfl⟩⟩ := hrel
    cases gk with
    | zero => exact absurd HA.out (by simp [spec_IsSmall.l0])
    | succ k1 =>
      have H := HA.out
      clear HA
      simp only [spec_IsSmall.l0] at H
      by_cases c2 : x7_1 < (l0.length : Int)
      · rw [if_pos c2] at H
        have c2b0 : decide (x7_1 < (l0.length : Int)) = true := decide_eq_true c2
        clear c2
        by_cases c3 : 0 ≤ x7_1
        · rw [if_pos c3] at H
          have c3b0 : decide (0 ≤ x7_1) = true := decide_eq_true c3
          clear c3
          by_cases c4 : x7_1 < (l0.length : Int)
          · rw [if_pos c4] at H
            have c4b0 : decide (x7_1 < (l0.length : Int)) = true := decide_eq_true c4
            clear c4
            by_cases c5 : ((rd_L1 l0 x7_1).length : Int) > 60
            · rw [if_pos c5] at H
              have c5b0 : decide (60 < ((rd_L1 l0 x7_1).length : Int)) = true := decide_eq_true c5
              have c5b1 : decide (60 < (rd_L1 l0 x7_1).length) = true := decide_eq_true (by omega)
              clear c5
              obtain rfl := Option.some.inj H
              have p102 : 0 ≤ (x7_1 : Int) := of_decide_eq_true (by first | (with_reducible assumption) | assumption)
              have q102 : x7_1 < (l0.length : Int) := of_decide_eq_true (by first | (with_reducible assumption) | assumption)
              obtain ⟨ad102, A102_0, c102_0, e102, hx102_0, hl102_0, hi102_0⟩ := at_L1 HR0.out x7_1 p102 q102
              cases e102
              have HR102_0 := Aside0.mk hi102_0
              have HC102_0 := Aside0.mk hl102_0
              clear hi102_0 hl102_0
              replace p102 := eq_true p102
              replace q102 := eq_true q102
              go_wp2
              go_ret
              exact ⟨by first | rfl | (simp; done) | (simp [*]; done), by repeat (first | exact Drawn0.refl _ | apply Drawn0.step)⟩
            · rw [if_neg c5] at H
              have c5b0 : decide (60 < ((rd_L1 l0 x7_1).length : Int)) = false := decide_eq_false c5
              have c5b1 : decide (60 < (rd_L1 l0 x7_1).length) = false := decide_eq_false (by omega)
              clear c5
              have H' := Aside0.mk H
              clear H
              have p102 : 0 ≤ (x7_1 : Int) := of_decide_eq_true (by first | (with_reducible assumption) | assumption)
              have q102 : x7_1 < (l0.length : Int) := of_decide_eq_true (by first | (with_reducible assumption) | assumption)
              obtain ⟨ad102, A102_0, c102_0, e102, hx102_0, hl102_0, hi102_0⟩ := at_L1 HR0.out x7_1 p102 q102
              cases e102
              have HR102_0 := Aside0.mk hi102_0
              have HC102_0 := Aside0.mk hl102_0
              clear hi102_0 hl102_0
              replace p102 := eq_true p102
              replace q102 := eq_true q102
              go_wp2
              go_roundg k1
              case measure => have := HK1.out; omega
              case rel => exact ⟨(wrap64 (x7_1 + 1)), (by first | rfl | (simp; done) | (simp [*]; done)), H', ⟨by have := HK1.out; omega⟩, by repeat (first | exact Drawn0.refl _ | apply Drawn0.step)⟩
          · rw [if_neg c4] at H
            exact absurd H (by simp)
        · rw [if_neg c3] at H
          exact absurd H (by simp)
      · rw [if_neg c2] at H
        have c2b0 : decide (x7_1 < (l0.length : Int)) = false := decide_eq_false c2
        clear c2
        obtain rfl := Option.some.inj H
        go_wp2
        go_ret
        exact ⟨by first | rfl | (simp; done) | (simp [*]; done), by repeat (first | exact Drawn0.refl _ | apply Drawn0.step)⟩

/-! ### laws_same: function 10 -/
def laws_same.f (l0 : List Int) (l1 : List Int) : Option (Bool) := some ((strOfNums l0).toList == (strOfNums l1).toList)
set_option maxHeartbeats 8000000 in
set_option maxRecDepth 100000 in
theorem laws_same.calls (A0 : Option Addr) (c0 : Nat) (l0 : List Int) (A1 : Option Addr) (c1 : Nat) (l1 : List Int) (r : Bool) (w : World) (hr0 : Kd.C (Kd.int .u8) w A0 l0.length l0) (hc0 : l0.length ≤ c0) (hr1 : Kd.C (Kd.int .u8) w A1 l1.length l1) (hc1 : l1.length ≤ c1) (h : laws_same.f l0 l1 = some r) :
    Calls Tryd.prog 10 #[.slice A0 l0.length c0, .slice A1 l1.length c1] w fun e w' => e = .returned (.bool r) ∧ Drawn0 w w' := by
  have HR0 := Aside0.mk hr0
  have HC0 := Aside0.mk hc0
  clear hr0 hc0
  have HR1 := Aside0.mk hr1
  have HC1 := Aside0.mk hc1
  clear hr1 hc1
  have H : (some ((strOfNums l0).toList == (strOfNums l1).toList)) = some r := h
  clear h
  obtain rfl := Option.some.inj H
  have hcv3 := Kd.C_string (P := Tryd.prog) (A := A0) (c := c0) Tryd.underlying29 Tryd.underlying5 Tryd.underlying9 HR0.out
  have hcv4 := Kd.C_string (P := Tryd.prog) (A := A1) (c := c1) Tryd.underlying29 Tryd.underlying5 Tryd.underlying9 HR1.out
  go_enter Tryd.func10, Tryd.ntmps10
  go_wp2
  go_ret
  exact ⟨by first | rfl | (simp; done) | (simp [*]; done), by repeat (first | exact Drawn0.refl _ | apply Drawn0.step)⟩

/-! ### spec_high: function 21 -/
def spec_high.f (a0 : Int) (a1 : Int) : Option (Int) := some (IntKind.u64.wrap ((IntKind.u64.wrap ((IntKind.u64.wrap ((a0 / 4294967296) * (a1 / 4294967296))) + ((IntKind.u64.wrap ((IntKind.u64.wrap ((a0 / 4294967296) * (Go.bits .and .u64 a1 4294967295))) + ((IntKind.u64.wrap ((Go.bits .and .u64 a0 4294967295) * (Go.bits .and .u64 a1 4294967295))) / 4294967296))) / 4294967296))) + ((IntKind.u64.wrap ((IntKind.u64.wrap ((Go.bits .and .u64 a0 4294967295) * (a1 / 4294967296))) + (Go.bits .and .u64 (IntKind.u64.wrap ((IntKind.u64.wrap ((a0 / 4294967296) * (Go.bits .and .u64 a1 4294967295))) + ((IntKind.u64.wrap ((Go.bits .and .u64 a0 4294967295) * (Go.bits .and .u64 a1 4294967295))) / 4294967296))) 4294967295))) / 4294967296)))
set_option maxHeartbeats 8000000 in
set_option maxRecDepth 100000 in
theorem spec_high.calls (a0 : Int) (a1 : Int) (r : Int) (w : World) (h : spec_high.f a0 a1 = some r) :
    Calls Tryd.prog 21 #[.int .u64 a0, .int .u64 a1] w fun e w' => e = .returned (.int .u64 r) ∧ Drawn0 w w' := by
  have H : (some (IntKind.u64.wrap ((IntKind.u64.wrap ((IntKind.u64.wrap ((a0 / 4294967296) * (a1 / 4294967296))) + ((IntKind.u64.wrap ((IntKind.u64.wrap ((a0 / 4294967296) * (Go.bits .and .u64 a1 4294967295))) + ((IntKind.u64.wrap ((Go.bits .and .u64 a0 4294967295) * (Go.bits .and .u64 a1 4294967295))) / 4294967296))) / 4294967296))) + ((IntKind.u64.wrap ((IntKind.u64.wrap ((Go.bits .and .u64 a0 4294967295) * (a1 / 4294967296))) + (Go.bits .and .u64 (IntKind.u64.wrap ((IntKind.u64.wrap ((a0 / 4294967296) * (Go.bits .and .u64 a1 4294967295))) + ((IntKind.u64.wrap ((Go.bits .and .u64 a0 4294967295) * (Go.bits .and .u64 a1 4294967295))) / 4294967296))) 4294967295))) / 4294967296)))) = some r := h
  clear h
  obtain rfl := Option.some.inj H
  go_enter Tryd.func21, Tryd.ntmps21
  go_wp2
  go_ret
  exact ⟨by first | rfl | (simp; done) | (simp [*]; done), by repeat (first | exact Drawn0.refl _ | apply Drawn0.step)⟩

/-! ### spec_word: function 40 -/
def spec_word.l0 : Nat → List Int → Int → Int → Option (Int)
  | 0, _, _, _ => none
  | k + 1, x0, x3, x4 => if x4 ≥ 0 then (if 0 ≤ x4 then (if x4 < (x0.length : Int) then (spec_word.l0 k x0 (Go.bits .or .u64 (IntKind.u64.wrap (x3 * 256)) (IntKind.u64.wrap (rd x0 x4))) (wrap64 (x4 - 1))) else (none)) else (none)) else (some x3)
def spec_word.f (k : Nat) (l0 : List Int) : Option (Int) := spec_word.l0 k l0 0 7
theorem spec_word.mono_l : ∀ k, (∀ y0 y1 y2, LeO (spec_word.l0 k y0 y1 y2) (spec_word.l0 (k + 1) y0 y1 y2))
  | 0 => fun _ _ _ r h => by simp [spec_word.l0] at h
  | k + 1 => by
    have ih0 := spec_word.mono_l k
    · intro y0 y1 y2
      unfold spec_word.l0
      repeat' first
      | (with_reducible exact ih0 _ _ _)
      | (with_reducible exact LeO.refl _)
      | (with_reducible exact LeO.none _)
      | (with_reducible refine LeO.ite ?_ ?_)
      | (with_reducible refine LeO.bind ?_ (fun _ => ?_))
      | exact ih0 _ _ _
      | exact LeO.none _
      | refine LeO.ite ?_ ?_
      | refine LeO.bind ?_ (fun _ => ?_)
theorem spec_word.mono : ∀ a0 k, LeO (spec_word.f k a0) (spec_word.f (k + 1) a0) := by
  intro a0 k
  have ih0 := spec_word.mono_l k
  unfold spec_word.f
  repeat' first
      | (with_reducible exact ih0 _ _ _)
      | (with_reducible exact LeO.refl _)
      | (with_reducible exact LeO.none _)
      | (with_reducible refine LeO.ite ?_ ?_)
      | (with_reducible refine LeO.bind ?_ (fun _ => ?_))
      | exact ih0 _ _ _
      | exact LeO.none _
      | refine LeO.ite ?_ ?_
      | refine LeO.bind ?_ (fun _ => ?_)
set_option maxHeartbeats 8000000 in
set_option maxRecDepth 100000 in
theorem spec_word.calls (k : Nat) (A0 : Option Addr) (c0 : Nat) (l0 : List Int) (r : Int) (w : World) (hr0 : Kd.C (Kd.int .u8) w A0 l0.length l0) (hc0 : l0.length ≤ c0) (h : spec_word.f k l0 = some r) :
    Calls Tryd.prog 40 #[.slice A0 l0.length c0] w fun e w' => e = .returned (.int .u64 r) ∧ Drawn0 w w' := by
  have HR0 := Aside0.mk hr0
  have HC0 := Aside0.mk hc0
  clear hr0 hc0
  have H : (spec_word.l0 k l0 0 7) = some r := h
  clear h
  have H' := Aside0.mk H
  clear H
  go_enter Tryd.func40, Tryd.ntmps40
  go_wp2
  go_loopg [3, 4] k (fun kq v3 v4 w' => ∃ (x3_1 : Int) (x4_1 : Int), v3 = .int .u64 x3_1 ∧ v4 = .int .i64 x4_1 ∧ Aside0 (spec_word.l0 kq l0 x3_1 x4_1 = some r) ∧ Aside0 (kq ≤ k) ∧ Drawn0 w w')
  case atStart => exact ⟨(0), (7), (by first | rfl | (simp; done) | (simp [*]; done)), (by first | rfl | (simp; done) | (simp [*]; done)), H', ⟨Nat.le_refl _⟩, by repeat (first | exact Drawn0.refl _ | apply Drawn0.step)⟩
  case round =>
    clear H'
    obtain ⟨x3_1, x4_1, rfl, rfl, HA, HK1, ⟨m1, rfl⟩⟩ := hrel
    cases gk with
    | zero => exact absurd HA.out (by simp [spec_word.l0])
    | succ k1 =>
      have H := HA.out
      clear HA
      simp only [spec_word.l0] at H
      by_cases c2 : x4_1 ≥ 0
      · rw [if_pos c2] at H
        have c2b0 : decide (0 ≤ x4_1) = true := decide_eq_true c2
        clear c2
        by_cases c3 : 0 ≤ x4_1
        · rw [if_pos c3] at H
          have c3b0 : decide (0 ≤ x4_1) = true := decide_eq_true c3
          clear c3
          by_cases c4 : x4_1 < (l0.length : Int)
          · rw [if_pos c4] at H
            have c4b0 : decide (x4_1 < (l0.length : Int)) = true := decide_eq_true c4
            clear c4
            have H' := Aside0.mk H
            clear H
            have p103 : 0 ≤ (x4_1 : Int) := of_decide_eq_true (by first | (with_reducible assumption) | assumption)
            have q103 : x4_1 < (l0.length : Int) := of_decide_eq_true (by first | (with_reducible assumption) | assumption)
            obtain ⟨ad103, e103, hx103_0⟩ := Kd.at_int HR0.out x4_1 p103 q103
            cases e103
            replace p103 := eq_true p103
            replace q103 := eq_true q103
            go_wp2
            go_roundg k1
            case measure => have := HK1.out; omega
            case rel => exact ⟨(Go.bits .or .u64 (IntKind.u64.wrap (x3_1 * 256)) (IntKind.u64.wrap (rd l0 x4_1))), (wrap64 (x4_1 - 1)), (by first | rfl | (simp; done) | (simp [*]; done)), (by first | rfl | (simp; done) | (simp [*]; done)), H', ⟨by have := HK1.out; omega⟩, by repeat (first | exact Drawn0.refl _ | apply Drawn0.step)⟩
          · rw [if_neg c4] at H
            exact absurd H (by simp)
        · rw [if_neg c3] at H
          exact absurd H (by simp)
      · rw [if_neg c2] at H
        have c2b0 : decide (0 ≤ x4_1) = false := decide_eq_false c2
        clear c2
        obtain rfl := Option.some.inj H
        go_wp2
        go_ret
        exact ⟨by first | rfl | (simp; done) | (simp [*]; done), by repeat (first | exact Drawn0.refl _ | apply Drawn0.step)⟩

-- NOT PRINTED: function 41 (spec_stir)

-- NOT PRINTED: function 22 (spec_Sip)

-- NOT PRINTED: function 11 (spec_Coded)

-- NOT PRINTED: function 18 (gcs_Filter_Bytes)

/-! ### impl_coded: function 15 -/
def impl_coded.f (a0 : Int) (a1 : Int) : Option (Bool) := if a0 ≤ 32 then (if 0 ≤ a0 then (some (decide (a1 ≤ (shl .u64 64 a0)))) else (none)) else (some false)
set_option maxHeartbeats 8000000 in
set_option maxRecDepth 100000 in
theorem impl_coded.calls (a0 : Int) (a1 : Int) (r : Bool) (w : World) (h : impl_coded.f a0 a1 = some r) :
    Calls Tryd.prog 15 #[.int .u8 a0, .int .u64 a1] w fun e w' => e = .returned (.bool r) ∧ Drawn0 w w' := by
  have H : (if a0 ≤ 32 then (if 0 ≤ a0 then (some (decide (a1 ≤ (shl .u64 64 a0)))) else (none)) else (some false)) = some r := h
  clear h
  by_cases c3 : a0 ≤ 32
  · rw [if_pos c3] at H
    have c3b0 : decide (a0 ≤ 32) = true := decide_eq_true c3
    clear c3
    by_cases c4 : 0 ≤ a0
    · rw [if_pos c4] at H
      have c4b0 := eq_true c4
      have c4b1 : decide (0 ≤ a0) = true := decide_eq_true c4
      clear c4
      obtain ⟨ji5, hji5⟩ : ∃ j_ : Int, (shl .u64 64 a0) = j_ := ⟨_, rfl⟩
      replace H : (some (decide (a1 ≤ (ji5)))) = some r := by first | (rw [hji5] at H; exact H) | (simp only [hji5] at H ⊢; exact H)
      have hji5_ : (IntKind.u64.wrap (64 * 2 ^ min a0.toNat 64)) = ji5 := hji5
      have hji5z : a0 ≤ 64 → (IntKind.u64.wrap (64 * 2 ^ a0.toNat)) = ji5 := shl_small hji5
      obtain rfl := Option.some.inj H
      go_enter Tryd.func15, Tryd.ntmps15
      go_wp2
      go_ret
      exact ⟨by first | rfl | (simp; done) | (simp only [← hji5] <;> (first | rfl | simp)) | (simp [*]; done), by repeat (first | exact Drawn0.refl _ | apply Drawn0.step)⟩
    · rw [if_neg c4] at H
      exact absurd H (by simp)
  · rw [if_neg c3] at H
    have c3b0 : decide (a0 ≤ 32) = false := decide_eq_false c3
    clear c3
    obtain rfl := Option.some.inj H
    go_enter Tryd.func15, Tryd.ntmps15
    go_wp2
    go_ret
    exact ⟨by first | rfl | (simp; done) | (simp [*]; done), by repeat (first | exact Drawn0.refl _ | apply Drawn0.step)⟩

-- NOT PRINTED: function 32 (impl_clone)

-- NOT PRINTED: function 42 (gcs_FromBytes)

-- NOT PRINTED: function 23 (impl_set)

-- NOT PRINTED: function 54 (binary_littleEndian_AppendUint16)

-- NOT PRINTED: function 55 (binary_littleEndian_AppendUint32)

-- NOT PRINTED: function 56 (binary_littleEndian_AppendUint64)

-- NOT PRINTED: function 45 (gcs_zzVarInt)

-- NOT PRINTED: function 28 (gcs_Filter_NBytes)

-- NOT PRINTED: function 29 (gcs_Filter_PBytes)

-- NOT PRINTED: function 30 (gcs_Filter_NPBytes)

-- NOT PRINTED: function 13 (impl_Forms)

/-- A state of type 62 at block g of W; what its slices lead to came in by w0. -/
def IsS62 (w0 W : World) (g : Nat) (f0 : Int) (f1 : Int) (f2 : Int) (f3 : List Int) : Prop := ∃ A3 c3, W.heap[g]? = some (.cells #[.int .u32 f0, .int .u8 f1, .int .u64 f2, .slice A3 f3.length c3] 62 (0, 0)) ∧ w0.heap.size ≤ g ∧ Kd.C (Kd.int .u8) w0 A3 f3.length f3
theorem IsS62.grown {w0 W : World} {g : Nat} {f0 : Int} {f1 : Int} {f2 : Int} {f3 : List Int} {W1 : World} {row : Option Nat} (h : IsS62 w0 W g f0 f1 f2 f3) (hw : W.grownBy W1 row) (hne : some g ≠ row) : IsS62 w0 W1 g f0 f1 f2 f3 := by
  obtain ⟨A3, c3, hb, hg, hr3⟩ := h
  exact ⟨A3, c3, blk_grown hb hw hne, hg, hr3⟩
theorem IsS62.own_neN {w0 W : World} {g : Nat} {f0 : Int} {f1 : Int} {f2 : Int} {f3 : List Int} {α : Type} {d : Kd α} {e : Nat} {base : Nat} {ok : Nat → Prop} {v : Value} {xs : List α} (h : IsS62 w0 W g f0 f1 f2 f3) (ho : Kd.N d e W base ok v xs) (ht : e ≠ 62) : some g ≠ v.ownBlock := by
  obtain ⟨A3, c3, hb, hg, hr3⟩ := h
  exact Kd.N_ne ho hb ht
theorem IsS62.fresh {w0 W : World} {g : Nat} {f0 : Int} {f1 : Int} {f2 : Int} {f3 : List Int} (h : IsS62 w0 W g f0 f1 f2 f3) : ∀ k, W.heap.size ≤ k → k ≠ g := by
  obtain ⟨A3, c3, hb, hg, hr3⟩ := h
  exact Kd.freshB hb
theorem IsS62.kept {w0 W : World} {g : Nat} {f0 : Int} {f1 : Int} {f2 : Int} {f3 : List Int} {W1 : World} {S : Nat → Prop} (h : IsS62 w0 W g f0 f1 f2 f3) (hk : Kept W W1 S) (hne : ¬ S g) : IsS62 w0 W1 g f0 f1 f2 f3 := by
  obtain ⟨A3, c3, hb, hg, hr3⟩ := h
  exact ⟨A3, c3, blk_kept hb hk hne, hg, hr3⟩
theorem IsS62.below {w0 W : World} {g : Nat} {f0 : Int} {f1 : Int} {f2 : Int} {f3 : List Int} {W1 : World} (h : IsS62 w0 W g f0 f1 f2 f3) (hw : Below W.heap.size W W1) : IsS62 w0 W1 g f0 f1 f2 f3 := h.grown (grown_of_below hw none) (by simp)
theorem IsS62.alloc {w0 W : World} {g : Nat} {f0 : Int} {f1 : Int} {f2 : Int} {f3 : List Int} (h : IsS62 w0 W g f0 f1 f2 f3) (o : Obj) : IsS62 w0 (W.alloc o) g f0 f1 f2 f3 := h.below (below_alloc (Below.refl _ _) o)
theorem IsS62.drewN {w0 W : World} {g : Nat} {f0 : Int} {f1 : Int} {f2 : Int} {f3 : List Int} (h : IsS62 w0 W g f0 f1 f2 f3) (m : Nat) : IsS62 w0 (W.drewN m) g f0 f1 f2 f3 := h
theorem IsS62.drew {w0 W : World} {g : Nat} {f0 : Int} {f1 : Int} {f2 : Int} {f3 : List Int} (h : IsS62 w0 W g f0 f1 f2 f3) : IsS62 w0 W.drew g f0 f1 f2 f3 := h
theorem IsS62.at_ {w0 W : World} {g : Nat} {f0 : Int} {f1 : Int} {f2 : Int} {f3 : List Int} {w' : World} {m : Nat} (hq : W.drewN m = w') (h : IsS62 w0 W g f0 f1 f2 f3) : IsS62 w0 w' g f0 f1 f2 f3 := by subst hq; exact IsS62.drewN h m
theorem IsS62.apart {w0 W : World} {g : Nat} {f0 : Int} {f1 : Int} {f2 : Int} {f3 : List Int} {α : Type} {d : Kd α} {e : Nat} {base : Nat} {ok : Nat → Prop} {v : Value} {xs : List α} (h : IsS62 w0 W g f0 f1 f2 f3) (ho : d.R e W base ok v xs) (ht : ∀ q, q ∈ e :: d.E → q ≠ 62) : d.R e W base (fun k => ok k ∧ k ≠ g) v xs := by
  obtain ⟨A3, c3, hb, hg, hr3⟩ := h
  exact Kd.R_types ho hb ht
theorem IsS62.own_ne {w0 W : World} {g : Nat} {f0 : Int} {f1 : Int} {f2 : Int} {f3 : List Int} {α : Type} {d : Kd α} {e : Nat} {base : Nat} {ok : Nat → Prop} {v : Value} {xs : List α} (h : IsS62 w0 W g f0 f1 f2 f3) (ho : d.R e W base ok v xs) (ht : e ≠ 62) : some g ≠ v.ownBlock := by
  obtain ⟨A3, c3, hb, hg, hr3⟩ := h
  exact Kd.R_ne ho hb ht
theorem IsS62.apartQ {w0 W : World} {g : Nat} {f0 : Int} {f1 : Int} {f2 : Int} {f3 : List Int} {α : Type} {d : Kd α} {e : Nat} {base : Nat} {ok : Nat → Prop} {v : Value} {xs : List α} (h : IsS62 w0 W g f0 f1 f2 f3) (ho : d.Q e W base ok v xs) (ht : ∀ q, q ∈ e :: d.E → q ≠ 62) : d.Q e W base (fun k => ok k ∧ k ≠ g) v xs := by
  obtain ⟨A3, c3, hb, hg, hr3⟩ := h
  exact Kd.Q_types ho hb ht
theorem IsS62.own_neQ {w0 W : World} {g : Nat} {f0 : Int} {f1 : Int} {f2 : Int} {f3 : List Int} {α : Type} {d : Kd α} {e : Nat} {base : Nat} {ok : Nat → Prop} {v : Value} {xs : List α} (h : IsS62 w0 W g f0 f1 f2 f3) (ho : d.Q e W base ok v xs) (ht : e ≠ 62) : some g ≠ v.ownBlock := by
  obtain ⟨A3, c3, hb, hg, hr3⟩ := h
  exact Kd.Q_ne ho hb ht
theorem IsS62.apartS {w0 W : World} {g : Nat} {f0 : Int} {f1 : Int} {f2 : Int} {f3 : List Int} {α : Type} {d : Kd α} {e : Nat} {base : Nat} {ok : Nat → Prop} {v : Value} {xs : List α} (h : IsS62 w0 W g f0 f1 f2 f3) (ho : d.S e W base ok v xs) (ht : ∀ q, q ∈ e :: d.E → q ≠ 62) : d.S e W base (fun k => ok k ∧ k ≠ g) v xs := by
  obtain ⟨A3, c3, hb, hg, hr3⟩ := h
  exact Kd.S_types ho hb ht
theorem IsS62.own_neS {w0 W : World} {g : Nat} {f0 : Int} {f1 : Int} {f2 : Int} {f3 : List Int} {α : Type} {d : Kd α} {e : Nat} {base : Nat} {ok : Nat → Prop} {v : Value} {xs : List α} (h : IsS62 w0 W g f0 f1 f2 f3) (ho : d.S e W base ok v xs) (ht : e ≠ 62) : some g ≠ v.ownBlock := by
  obtain ⟨A3, c3, hb, hg, hr3⟩ := h
  exact Kd.S_ne ho hb ht
theorem IsS62.lt {w0 W : World} {g : Nat} {f0 : Int} {f1 : Int} {f2 : Int} {f3 : List Int} (h : IsS62 w0 W g f0 f1 f2 f3) : g < W.heap.size := by
  obtain ⟨A3, c3, hb, hg, hr3⟩ := h
  exact blk_lt hb
theorem IsS62.ge {w0 W : World} {g : Nat} {f0 : Int} {f1 : Int} {f2 : Int} {f3 : List Int} (h : IsS62 w0 W g f0 f1 f2 f3) : w0.heap.size ≤ g := by
  obtain ⟨A3, c3, hb, hg, hr3⟩ := h
  exact hg
theorem IsS62.ne_blk {w0 W : World} {g : Nat} {f0 : Int} {f1 : Int} {f2 : Int} {f3 : List Int} {a : Nat} {cs : Array Value} {t : TypeId} {fr : Nat × Nat} (h : IsS62 w0 W g f0 f1 f2 f3) (hb2 : W.heap[a]? = some (.cells cs t fr)) (ht : t ≠ 62) : g ≠ a := by
  obtain ⟨A3, c3, hb, hg, hr3⟩ := h
  rintro rfl
  rw [hb] at hb2
  injection hb2 with hb2
  injection hb2 with _ ht2
  exact ht ht2.symm
theorem IsS62.far {w0 W : World} {g : Nat} {f0 : Int} {f1 : Int} {f2 : Int} {f3 : List Int} {p : Addr} (h : IsS62 w0 W g f0 f1 f2 f3) (hne : g ≠ p.block) (u : Value) : IsS62 w0 (W.setCell p u) g f0 f1 f2 f3 := by
  obtain ⟨A3, c3, hb, hg, hr3⟩ := h
  exact ⟨A3, c3, blk_far hb hne u, hg, hr3⟩
theorem cellS62_0 {W : World} {g : Nat} {A3 : Option Addr} {c3 : Nat} {f0 : Int} {f1 : Int} {f2 : Int} {f3 : List Int} (h : W.heap[g]? = some (.cells #[.int .u32 f0, .int .u8 f1, .int .u64 f2, .slice A3 f3.length c3] 62 (0, 0))) : W.cell? ⟨g, 0, none⟩ = some (.int .u32 f0) := (blk_cell h 0).trans rfl
theorem IsS62.set_0 {w0 W : World} {g : Nat} {f0 : Int} {f1 : Int} {f2 : Int} {f3 : List Int} (h : IsS62 w0 W g f0 f1 f2 f3) (x : Int) : IsS62 w0 (W.setCell ⟨g, 0, none⟩ (.int .u32 x)) g x f1 f2 f3 := by
  obtain ⟨A3, c3, hb, hg, hr3⟩ := h
  exact ⟨A3, c3, by simpa using blk_set hb 0 (.int .u32 x), hg, hr3⟩
theorem cellS62_1 {W : World} {g : Nat} {A3 : Option Addr} {c3 : Nat} {f0 : Int} {f1 : Int} {f2 : Int} {f3 : List Int} (h : W.heap[g]? = some (.cells #[.int .u32 f0, .int .u8 f1, .int .u64 f2, .slice A3 f3.length c3] 62 (0, 0))) : W.cell? ⟨g, 1, none⟩ = some (.int .u8 f1) := (blk_cell h 1).trans rfl
theorem IsS62.set_1 {w0 W : World} {g : Nat} {f0 : Int} {f1 : Int} {f2 : Int} {f3 : List Int} (h : IsS62 w0 W g f0 f1 f2 f3) (x : Int) : IsS62 w0 (W.setCell ⟨g, 1, none⟩ (.int .u8 x)) g f0 x f2 f3 := by
  obtain ⟨A3, c3, hb, hg, hr3⟩ := h
  exact ⟨A3, c3, by simpa using blk_set hb 1 (.int .u8 x), hg, hr3⟩
theorem cellS62_2 {W : World} {g : Nat} {A3 : Option Addr} {c3 : Nat} {f0 : Int} {f1 : Int} {f2 : Int} {f3 : List Int} (h : W.heap[g]? = some (.cells #[.int .u32 f0, .int .u8 f1, .int .u64 f2, .slice A3 f3.length c3] 62 (0, 0))) : W.cell? ⟨g, 2, none⟩ = some (.int .u64 f2) := (blk_cell h 2).trans rfl
theorem IsS62.set_2 {w0 W : World} {g : Nat} {f0 : Int} {f1 : Int} {f2 : Int} {f3 : List Int} (h : IsS62 w0 W g f0 f1 f2 f3) (x : Int) : IsS62 w0 (W.setCell ⟨g, 2, none⟩ (.int .u64 x)) g f0 f1 x f3 := by
  obtain ⟨A3, c3, hb, hg, hr3⟩ := h
  exact ⟨A3, c3, by simpa using blk_set hb 2 (.int .u64 x), hg, hr3⟩
theorem cellS62_3 {W : World} {g : Nat} {A3 : Option Addr} {c3 : Nat} {f0 : Int} {f1 : Int} {f2 : Int} {f3 : List Int} (h : W.heap[g]? = some (.cells #[.int .u32 f0, .int .u8 f1, .int .u64 f2, .slice A3 f3.length c3] 62 (0, 0))) : W.cell? ⟨g, 3, none⟩ = some (.slice A3 f3.length c3) := (blk_cell h 3).trans rfl
theorem IsS62.new (w0 W : World) (A3 : Option Addr) (c3 : Nat) (f0 : Int) (f1 : Int) (f2 : Int) (f3 : List Int) (hB : Below w0.heap.size w0 W) (hr3 : Kd.C (Kd.int .u8) w0 A3 f3.length f3) : IsS62 w0 (W.alloc (.cells #[.int .u32 f0, .int .u8 f1, .int .u64 f2, .slice A3 f3.length c3] 62)) W.heap.size f0 f1 f2 f3 := ⟨A3, c3, by simpa using heap_alloc_new W _, hB.size, hr3⟩

/-! ### gcs_Filter_N: function 19 -/
def gcs_Filter_N.f (s0_0 : Int) (s0_1 : Int) (s0_2 : Int) (s0_3 : List Int) : Option (Int × Int × Int × Int) := some (s0_0, s0_0, s0_1, s0_2)
set_option maxHeartbeats 8000000 in
set_option maxRecDepth 100000 in
theorem gcs_Filter_N.calls (g : Nat) (s0_0 : Int) (s0_1 : Int) (s0_2 : Int) (s0_3 : List Int) (r1 : Int) (r2 : Int) (r3 : Int) (r4 : Int) (w0 w : World) (hI : IsS62 w0 w g s0_0 s0_1 s0_2 s0_3) (hB : Below w0.heap.size w0 w) (h : gcs_Filter_N.f s0_0 s0_1 s0_2 s0_3 = some (r1, r2, r3, r4)) :
    Calls Tryd.prog 19 #[.pointer (some ⟨g, 0, none⟩)] w fun e w' => e = .returned (.int .u32 r1) ∧ IsS62 w0 w' g r2 r3 r4 s0_3 ∧ Below w0.heap.size w0 w' ∧ KeepBut w w' g none := by
  have HI0 := Aside0.mk hI
  have HK := Aside0.mk (KeepBut.refl w g none)
  have HL := Aside0.mk hB.size
  clear hI
  have HW0 := Aside0.mk hB.size
  have HB := Aside0.mk hB
  clear hB
  have H : (some (s0_0, s0_0, s0_1, s0_2)) = some (r1, r2, r3, r4) := h
  clear h
  simp only [Option.some.injEq, Prod.mk.injEq] at H
  obtain ⟨rfl, rfl, rfl, rfl⟩ := H
  obtain ⟨ASz2_3, cSz2_3, HGz2, hgz2, HSz2_3⟩ := HI0.out
  have hcz2_0 := cellS62_0 HGz2
  have hcz2_1 := cellS62_1 HGz2
  have hcz2_2 := cellS62_2 HGz2
  have hcz2_3 := cellS62_3 HGz2
  have hfz2_0 := blk_frozen HGz2 0
  have hfz2_1 := blk_frozen HGz2 1
  have hfz2_2 := blk_frozen HGz2 2
  clear HGz2 hgz2
  go_enter Tryd.func19, Tryd.ntmps19
  go_wp2
  go_ret
  exact ⟨by first | rfl | (simp [errW_none, errW_some] <;> rfl) | (simp [*, errW_none, errW_some] <;> rfl), by repeat (first | (with_reducible first | exact HI0.out | apply IsS62.alloc | apply IsS62.drewN | apply IsS62.drew | apply IsS62.set_0 | apply IsS62.set_1 | apply IsS62.set_2) | exact HI0.out), by repeat (first | (with_reducible first | exact HB.out | apply below_alloc | apply pw_below_drewN | apply below_drew1 | refine below_set ?_ (IsS62.ge HI0.out)) | exact HB.out), by repeat (first | (with_reducible first | exact HK.out | apply KeepBut.set_ | apply keep_drewN | apply keep_drew | apply keep_alloc) | exact HK.out)⟩

/-! ### gcs_Filter_P: function 20 -/
def gcs_Filter_P.f (s0_0 : Int) (s0_1 : Int) (s0_2 : Int) (s0_3 : List Int) : Option (Int × Int × Int × Int) := some (s0_1, s0_0, s0_1, s0_2)
set_option maxHeartbeats 8000000 in
set_option maxRecDepth 100000 in
theorem gcs_Filter_P.calls (g : Nat) (s0_0 : Int) (s0_1 : Int) (s0_2 : Int) (s0_3 : List Int) (r1 : Int) (r2 : Int) (r3 : Int) (r4 : Int) (w0 w : World) (hI : IsS62 w0 w g s0_0 s0_1 s0_2 s0_3) (hB : Below w0.heap.size w0 w) (h : gcs_Filter_P.f s0_0 s0_1 s0_2 s0_3 = some (r1, r2, r3, r4)) :
    Calls Tryd.prog 20 #[.pointer (some ⟨g, 0, none⟩)] w fun e w' => e = .returned (.int .u8 r1) ∧ IsS62 w0 w' g r2 r3 r4 s0_3 ∧ Below w0.heap.size w0 w' ∧ KeepBut w w' g none := by
  have HI0 := Aside0.mk hI
  have HK := Aside0.mk (KeepBut.refl w g none)
  have HL := Aside0.mk hB.size
  clear hI
  have HW0 := Aside0.mk hB.size
  have HB := Aside0.mk hB
  clear hB
  have H : (some (s0_1, s0_0, s0_1, s0_2)) = some (r1, r2, r3, r4) := h
  clear h
  simp only [Option.some.injEq, Prod.mk.injEq] at H
  obtain ⟨rfl, rfl, rfl, rfl⟩ := H
  obtain ⟨ASz2_3, cSz2_3, HGz2, hgz2, HSz2_3⟩ := HI0.out
  have hcz2_0 := cellS62_0 HGz2
  have hcz2_1 := cellS62_1 HGz2
  have hcz2_2 := cellS62_2 HGz2
  have hcz2_3 := cellS62_3 HGz2
  have hfz2_0 := blk_frozen HGz2 0
  have hfz2_1 := blk_frozen HGz2 1
  have hfz2_2 := blk_frozen HGz2 2
  clear HGz2 hgz2
  go_enter Tryd.func20, Tryd.ntmps20
  go_wp2
  go_ret
  exact ⟨by first | rfl | (simp [errW_none, errW_some] <;> rfl) | (simp [*, errW_none, errW_some] <;> rfl), by repeat (first | (with_reducible first | exact HI0.out | apply IsS62.alloc | apply IsS62.drewN | apply IsS62.drew | apply IsS62.set_0 | apply IsS62.set_1 | apply IsS62.set_2) | exact HI0.out), by repeat (first | (with_reducible first | exact HB.out | apply below_alloc | apply pw_below_drewN | apply below_drew1 | refine below_set ?_ (IsS62.ge HI0.out)) | exact HB.out), by repeat (first | (with_reducible first | exact HK.out | apply KeepBut.set_ | apply keep_drewN | apply keep_drew | apply keep_alloc) | exact HK.out)⟩

-- NOT PRINTED: function 57 (errors_New)

-- NOT PRINTED: function 46 (gcs_zzReadVarInt)

-- NOT PRINTED: function 31 (gcs_FromNBytes)

-- NOT PRINTED: function 14 (impl_FromN)

-- NOT PRINTED: function 5 (laws_FnForms)

end Go.Proofs.YtfhkkojdaejnjaaDoor.PFnForms
