-- The kit printed this; of its text base58.zzDivMod alone is kept, with one fact more in its walk (the length of the list that is turned).
import Derived.Test.YtpgfhcobfaceeaaDoorPFnBase58x0
namespace Go.Proofs.YtpgfhcobfaceeaaDoor.PFnBase58
open Go.RowKit Go.Proofs.YtpgfhcobfaceeaaDoorW.PrintWords Go.Proofs.YtpgfhcobfaceeaaDoorW.PrintLast Go.Proofs.YtpgfhcobfaceeaaDoorW.PrintMore
attribute [local go_sem] max2_int min2_int max_two min_two max_three min_three max_four min_four   -- for this text's walks alone
set_option linter.unusedVariables false
set_option linter.unusedSimpArgs false

/-! ### base58_zzDivMod: function 25 -/
mutual
def base58_zzDivMod.l0 : Nat → List Int → Int → Int → Int → Option (List Int × Int)
  | 0, _, _, _, _ => none
  | k + 1, x0, x4, x7, x8 => if x8 < x7 then (if 0 ≤ x8 then (if x8 < (x0.length : Int) then (base58_zzDivMod.l0 k (x0.set (x8 : Int).toNat ((wrap64 (Int.tdiv (Go.bits .or .i64 (wrap64 (x4 * 256)) (wrap64 (rd x0 x8))) 58)) % 256)) (Int.tmod (Go.bits .or .i64 (wrap64 (x4 * 256)) (wrap64 (rd x0 x8))) 58) x7 (wrap64 (x8 + 1))) else (none)) else (none)) else (base58_zzDivMod.l1 k x0 x4)
def base58_zzDivMod.l1 : Nat → List Int → Int → Option (List Int × Int)
  | 0, _, _ => none
  | k + 1, x0, x4 => if (x0.length : Int) > 0 then (if 0 < (x0.length : Int) then (if (rd x0 0) = 0 then (if 1 ≤ (x0.length : Int) then (base58_zzDivMod.l1 k (x0.drop (1 : Int).toNat) x4) else (none)) else (some (x0, x4))) else (none)) else (some (x0, x4))
end
def base58_zzDivMod.f (k : Nat) (l0 : List Int) : Option (List Int × Int) := base58_zzDivMod.l0 k l0 0 (l0.length : Int) 0
theorem base58_zzDivMod.mono_l : ∀ k, (∀ y0 y1 y2 y3, LeO (base58_zzDivMod.l0 k y0 y1 y2 y3) (base58_zzDivMod.l0 (k + 1) y0 y1 y2 y3)) ∧ (∀ y0 y1, LeO (base58_zzDivMod.l1 k y0 y1) (base58_zzDivMod.l1 (k + 1) y0 y1))
  | 0 => ⟨fun _ _ _ _ r h => by simp [base58_zzDivMod.l0] at h, fun _ _ r h => by simp [base58_zzDivMod.l1] at h⟩
  | k + 1 => by
    obtain ⟨ih0, ih1⟩ := base58_zzDivMod.mono_l k
    refine ⟨?_, ?_⟩
    · intro y0 y1 y2 y3
      unfold base58_zzDivMod.l0
      repeat' first
      | (with_reducible exact ih0 _ _ _ _)
      | (with_reducible exact ih1 _ _)
      | (with_reducible exact LeO.refl _)
      | (with_reducible exact LeO.none _)
      | (with_reducible refine LeO.ite ?_ ?_)
      | (with_reducible refine LeO.bind ?_ (fun _ => ?_))
      | exact ih0 _ _ _ _
      | exact ih1 _ _
      | exact LeO.none _
      | refine LeO.ite ?_ ?_
      | refine LeO.bind ?_ (fun _ => ?_)
    · intro y0 y1
      unfold base58_zzDivMod.l1
      repeat' first
      | (with_reducible exact ih0 _ _ _ _)
      | (with_reducible exact ih1 _ _)
      | (with_reducible exact LeO.refl _)
      | (with_reducible exact LeO.none _)
      | (with_reducible refine LeO.ite ?_ ?_)
      | (with_reducible refine LeO.bind ?_ (fun _ => ?_))
      | exact ih0 _ _ _ _
      | exact ih1 _ _
      | exact LeO.none _
      | refine LeO.ite ?_ ?_
      | refine LeO.bind ?_ (fun _ => ?_)
theorem base58_zzDivMod.mono : ∀ a0 k, LeO (base58_zzDivMod.f k a0) (base58_zzDivMod.f (k + 1) a0) := by
  intro a0 k
  obtain ⟨ih0, ih1⟩ := base58_zzDivMod.mono_l k
  unfold base58_zzDivMod.f
  repeat' first
      | (with_reducible exact ih0 _ _ _ _)
      | (with_reducible exact ih1 _ _)
      | (with_reducible exact LeO.refl _)
      | (with_reducible exact LeO.none _)
      | (with_reducible refine LeO.ite ?_ ?_)
      | (with_reducible refine LeO.bind ?_ (fun _ => ?_))
      | exact ih0 _ _ _ _
      | exact ih1 _ _
      | exact LeO.none _
      | refine LeO.ite ?_ ?_
      | refine LeO.bind ?_ (fun _ => ?_)
set_option maxHeartbeats 8000000 in
set_option maxRecDepth 100000 in
theorem base58_zzDivMod.calls (k : Nat) (P0_ : Nat → Prop) (u9000_ : Value) (l0 : List Int) (r1 : List Int) (r2 : Int) (w0 w : World) (hB : Below w0.heap.size w0 w) (ho0 : Kd.Q (Kd.int .u8) 5 w w0.heap.size P0_ u9000_ l0) (h : base58_zzDivMod.f k l0 = some (r1, r2)) :
    Calls Tryd.prog 25 #[u9000_] w fun e w' => ∃ v0_ : Value, e = .returned (.tuple #[v0_, .int .i64 r2]) ∧ Kd.Q (Kd.int .u8) 5 w' w0.heap.size (fun k_ => (P0_ k_ ∨ w.heap.size ≤ k_)) v0_ r1 ∧ Below w0.heap.size w0 w' ∧ Kept w w' (fun k_ => P0_ k_) := by
  have HO0 := Aside0.mk (show Kd.Q (Kd.int .u8) 5 w w0.heap.size (fun k_ => (P0_ k_ ∨ w.heap.size ≤ k_)) u9000_ l0 from Kd.Q_mono ho0 (fun k_ hk => (.inl hk)))
  have HK := Aside0.mk (Kept.refl w (fun k_ => P0_ k_))
  have HW0 := Aside0.mk hB.size
  have HB := Aside0.mk hB
  clear hB
  have H : (base58_zzDivMod.l0 k l0 0 (l0.length : Int) 0) = some (r1, r2) := h
  clear h
  have H' := Aside0.mk H
  clear H
  obtain ⟨Ao2, co2, eo2, _⟩ := Kd.Q_slice HO0.out
  subst eo2
  go_enter Tryd.func25, Tryd.ntmps25
  go_wp2
  go_loopg [4, 8] k (fun kq v4 v8 w' => ∃ (x0_1 : List Int) (x4_1 : Int) (x8_1 : Int), v4 = .int .i64 x4_1 ∧ v8 = .int .i64 x8_1 ∧ Aside0 (base58_zzDivMod.l0 kq x0_1 x4_1 (l0.length : Int) x8_1 = some (r1, r2)) ∧ Aside0 (kq ≤ k) ∧ Aside0 (Kd.Q (Kd.int .u8) 5 w' w0.heap.size (fun k_ => (P0_ k_ ∨ w.heap.size ≤ k_)) (.slice Ao2 l0.length co2) x0_1) ∧ Aside0 (Kept w w' (fun k_ => P0_ k_)) ∧ Aside0 (Below w0.heap.size w0 w'))
  case atStart => exact ⟨(l0), (0), (0), (by first | rfl | (simp; done) | (simp [*]; done)), (by first | rfl | (simp; done) | (simp [*]; done)), H', ⟨Nat.le_refl _⟩, ⟨by (with_reducible repeat (first | apply Kd.Q_alloc | apply Kd.Q_drewN | apply Kd.Q_drew)); exact HO0.out⟩, ⟨by repeat (first | (with_reducible first | exact HK.out | apply Kept.alloc | apply Kept.drewN | apply Kept.drew) | exact HK.out)⟩, ⟨by repeat (first | (with_reducible first | exact HB.out | apply below_alloc | apply pw_below_drewN | apply below_drew1) | exact HB.out)⟩⟩
  case round =>
    clear H'
    try clear c2
    try clear p2
    obtain ⟨x0_1, x4_1, x8_1, rfl, rfl, HA, HK1, HO_0, HK, HB⟩ := hrel
    have hl0_1 := (Kd.Q_reads' HO_0.out).1
    rw [hl0_1] at HO_0
    (try simp only [hl0_1])
    cases gk with
    | zero => exact absurd HA.out (by simp [base58_zzDivMod.l0])
    | succ k1 =>
      have H := HA.out
      clear HA
      simp only [base58_zzDivMod.l0] at H
      by_cases c3 : x8_1 < (l0.length : Int)
      · rw [if_pos c3] at H
        have c3b0 : decide (x8_1 < (l0.length : Int)) = true := decide_eq_true c3
        clear c3
        by_cases c4 : 0 ≤ x8_1
        · rw [if_pos c4] at H
          have c4b0 : decide (0 ≤ x8_1) = true := decide_eq_true c4
          clear c4
          by_cases c5 : x8_1 < (x0_1.length : Int)
          · rw [if_pos c5] at H
            have c5b0 : decide (x8_1 < (x0_1.length : Int)) = true := decide_eq_true c5
            clear c5
            obtain ⟨y116, hy116⟩ : ∃ y_ : List Int, y_ = (x0_1.set (x8_1 : Int).toNat ((wrap64 (Int.tdiv (Go.bits .or .i64 (wrap64 (x4_1 * 256)) (wrap64 (rd x0_1 x8_1))) 58)) % 256)) := ⟨_, rfl⟩
            replace H : (base58_zzDivMod.l0 k1 y116 (Int.tmod (Go.bits .or .i64 (wrap64 (x4_1 * 256)) (wrap64 (rd x0_1 x8_1))) 58) (l0.length : Int) (wrap64 (x8_1 + 1))) = some (r1, r2) := by first | (rw [hy116]; with_reducible exact H) | (have H2_ := (Option.bind_some _ _).symm.trans H; rw [hy116]; with_reducible exact H2_) | (have H2_ := (Option.bind_some _ _).symm.trans H; with_reducible exact H2_) | with_reducible exact H | (rw [hy116]; exact H) | exact H
            have Ny116 := Aside0.mk hy116
            clear hy116
            have H' := Aside0.mk H
            clear H
            have p115 : 0 ≤ (x8_1 : Int) := of_decide_eq_true (by first | (with_reducible assumption) | assumption)
            have q115 : x8_1 < (x0_1.length : Int) := of_decide_eq_true (by first | (with_reducible assumption) | assumption)
            obtain ⟨ad115, e115, hx115_0⟩ := Kd.at_int (Kd.Q_reads' HO_0.out).2.2 x8_1 p115 q115
            cases e115
            replace p115 := eq_true p115
            replace q115 := eq_true q115
            have p6 : 0 ≤ (x8_1 : Int) := of_decide_eq_true (by first | (with_reducible assumption) | assumption)
            have q6 : (x8_1 : Int) < ((x0_1.length : Int) : Int) := of_decide_eq_true (by first | (with_reducible assumption) | assumption)
            obtain ⟨go6, oo6, co6, eo6, gb6, gl6, cl6, HG6⟩ := Kd.Q_form HO_0.out (by omega)
            (first | cases eo6 | (injection eo6 with ea_ en_ ec_; (first | subst ea_ | (injection ea_ with ea_; subst ea_)); subst ec_; clear en_))
            have GB6 := Aside0.mk gb6
            have GG6 := Aside0.mk HG6
            clear gb6 gl6 HG6
            have HMgo6 := Aside0.mk (show (P0_ go6 ∨ w.heap.size ≤ go6) from (HO_0.out.1 _ rfl))
            (first | simp only [add_at] at hx115_0 | skip)
            obtain ⟨hx6_0, hf6_0⟩ := Kd.Q_cell 0 HO_0.out (x8_1 : Int) p6 q6
            replace p6 := eq_true p6
            replace q6 := eq_true q6
            have HP7 := Kd.Q_putg HO_0.out (x8_1 : Int) (of_decide_eq_true (by first | (with_reducible assumption) | assumption)) (by have h_ : (x8_1 : Int) < ((x0_1.length : Int) : Int) := of_decide_eq_true (by first | (with_reducible assumption) | assumption); first | exact h_ | (have e_ := (Kd.Q_reads' HO_0.out).1; omega) | simpa using h_) ((wrap64 (Int.tdiv (Go.bits .or .i64 (wrap64 (x4_1 * 256)) (wrap64 (rd x0_1 x8_1))) 58)) % 256)
            go_wp2_with (first | ((with_reducible refine gate_store (t := 5) (p := 24) rfl ?_); refine store_event (t := 5) (p := 24) (v := ?vo_w8) (w1 := (wr.setCell ⟨go6, oo6 + (x8_1 : Int).toNat, none⟩ (.int .u8 ((wrap64 (Int.tdiv (Go.bits .or .i64 (wrap64 (x4_1 * 256)) (wrap64 (rd x0_1 x8_1))) 58)) % 256)))) ?hg ?ho ?hn ?hr ?_; (case ho => rfl); (case hg => rfl); (case hn => rfl); (case hr => first | (go_simp; done) | (go_simp; rfl)); intro w8 hw; have hg : wr.grownBy w8 (some go6) := (by rw [hw]; exact HP7.2); have hp_ : Kd.Q (Kd.int .u8) 5 w8 w0.heap.size (fun k_ => (P0_ k_ ∨ w.heap.size ≤ k_)) (.slice (some ⟨go6, oo6, none⟩) x0_1.length co2) y116 := (by rw [hw, Ny116.out]; exact HP7.1); clear HP7; have n0_ := Aside0.mk (hp_); have n1_ := Aside0.mk ((by rw [hw]; exact below_set (HB.out) GB6.out : Below w0.heap.size w0 w8)); have n2_ := Aside0.mk (Kept.of_grown (S := (fun k_ => P0_ k_)) hg (by repeat (first | (with_reducible first | exact HK.out | apply Kept.alloc | apply Kept.drewN | apply Kept.drew) | exact HK.out)) (fun k_ e_ => (HO_0.out.1 k_ e_))); clear HO_0; clear HB; clear HK; have HO_0 := n0_; have HB := n1_; have HK := n2_; clear n0_ n1_ n2_; clear hg hw hp_))
            (try simp only [← hl0_1])
            go_roundg k1
            case measure => have := HK1.out; omega
            case rel => exact ⟨(y116), (Int.tmod (Go.bits .or .i64 (wrap64 (x4_1 * 256)) (wrap64 (rd x0_1 x8_1))) 58), (wrap64 (x8_1 + 1)), (by first | rfl | (simp; done) | (simp [*]; done)), (by first | rfl | (simp; done) | (simp [*]; done)), H', ⟨by have := HK1.out; omega⟩, ⟨by (try simp only [hl0_1]); (with_reducible repeat (first | apply Kd.Q_alloc | apply Kd.Q_drewN | apply Kd.Q_drew)); exact HO_0.out⟩, ⟨by repeat (first | (with_reducible first | exact HK.out | apply Kept.alloc | apply Kept.drewN | apply Kept.drew) | exact HK.out)⟩, ⟨by repeat (first | (with_reducible first | exact HB.out | apply below_alloc | apply pw_below_drewN | apply below_drew1) | exact HB.out)⟩⟩
          · rw [if_neg c5] at H
            exact absurd H (by simp)
        · rw [if_neg c4] at H
          exact absurd H (by simp)
      · rw [if_neg c3] at H
        have c3b0 : decide (x8_1 < (l0.length : Int)) = false := decide_eq_false c3
        clear c3
        have H' := Aside0.mk H
        clear H
        have c3b9 : decide (x8_1 < (x0_1.length : Int)) = false := by first | (rw [hl0_1]; exact c3b0) | (simpa [hl0_1] using c3b0)
        go_wp2
        go_loopg [0] k1 (fun kq v0 w' => ∃ (x0_2 : List Int), Aside0 (base58_zzDivMod.l1 kq x0_2 x4_1 = some (r1, r2)) ∧ Aside0 (kq ≤ k1) ∧ Aside0 (Kd.Q (Kd.int .u8) 5 w' w0.heap.size (fun k_ => (P0_ k_ ∨ w.heap.size ≤ k_)) v0 x0_2) ∧ Aside0 (Kept w w' (fun k_ => P0_ k_)) ∧ Aside0 (Below w0.heap.size w0 w'))
        case atStart => exact ⟨(x0_1), H', ⟨Nat.le_refl _⟩, ⟨by (try simp only [hl0_1]); (with_reducible repeat (first | apply Kd.Q_alloc | apply Kd.Q_drewN | apply Kd.Q_drew)); exact HO_0.out⟩, ⟨by repeat (first | (with_reducible first | exact HK.out | apply Kept.alloc | apply Kept.drewN | apply Kept.drew) | exact HK.out)⟩, ⟨by repeat (first | (with_reducible first | exact HB.out | apply below_alloc | apply pw_below_drewN | apply below_drew1) | exact HB.out)⟩⟩
        case round =>
          clear H'
          try clear p1
          try clear q1
          try clear hx1
          try clear c2
          try clear p2
          try clear c3
          try clear c3b0
          try clear c4
          try clear c4b0
          try clear c5
          try clear c5b0
          try clear p6
          try clear q6
          try clear hx6
          try clear hf6
          try clear hx115_0
          try clear hx6_0
          try clear p115
          try clear p2
          try clear p6
          try clear q115
          try clear q6
          obtain ⟨x0_2, HA, HK2, HO_0, HK, HB⟩ := hrel
          cases gk with
          | zero => exact absurd HA.out (by simp [base58_zzDivMod.l1])
          | succ k2 =>
            have H := HA.out
            clear HA
            simp only [base58_zzDivMod.l1] at H
            by_cases c9 : (x0_2.length : Int) > 0
            · rw [if_pos c9] at H
              have c9b0 : decide (0 < (x0_2.length : Int)) = true := decide_eq_true c9
              have c9b1 : decide (0 < x0_2.length) = true := decide_eq_true (by omega)
              clear c9
              by_cases c10 : 0 < (x0_2.length : Int)
              · rw [if_pos c10] at H
                have c10b0 : decide (0 < (x0_2.length : Int)) = true := decide_eq_true c10
                have c10b1 : decide (0 < x0_2.length) = true := decide_eq_true (by omega)
                clear c10
                by_cases c11 : (rd x0_2 0) = 0
                · rw [if_pos c11] at H
                  have c11b0 : ((rd x0_2 0) == 0) = true := beq_iff_eq.mpr c11
                  have c11b1 : ((rd x0_2 0) != 0) = false := bne_eq_false_iff_eq.mpr c11
                  clear c11
                  by_cases c12 : 1 ≤ (x0_2.length : Int)
                  · rw [if_pos c12] at H
                    have c12b0 := eq_true c12
                    have c12b1 : decide (1 ≤ (x0_2.length : Int)) = true := decide_eq_true c12
                    clear c12
                    obtain ⟨y118, hy118⟩ : ∃ y_ : List Int, y_ = (x0_2.drop (1 : Int).toNat) := ⟨_, rfl⟩
                    replace H : (base58_zzDivMod.l1 k2 y118 x4_1) = some (r1, r2) := by first | (rw [hy118]; with_reducible exact H) | (have H2_ := (Option.bind_some _ _).symm.trans H; rw [hy118]; with_reducible exact H2_) | (have H2_ := (Option.bind_some _ _).symm.trans H; with_reducible exact H2_) | with_reducible exact H | (rw [hy118]; exact H) | exact H
                    have Ny118 := Aside0.mk hy118
                    clear hy118
                    have H' := Aside0.mk H
                    clear H
                    obtain ⟨Ao13, co13, eo13, _⟩ := Kd.Q_slice HO_0.out
                    subst eo13
                    have p117 : 0 ≤ (0 : Int) := (by omega)
                    have q117 : 0 < (x0_2.length : Int) := of_decide_eq_true (by first | (with_reducible assumption) | assumption)
                    obtain ⟨ad117, e117, hx117_0⟩ := Kd.at_int (Kd.Q_reads' HO_0.out).2.2 0 p117 q117
                    cases e117
                    have qi117 : (0 < x0_2.length) = True := eq_true (by omega)
                    (try rw [show ((0 : Int)).toNat = 0 from rfl] at hx117_0)
                    (try rw [Addr.add_zero'] at hx117_0)
                    replace p117 := eq_true p117
                    replace q117 := eq_true q117
                    have q14 : (1 : Int) ≤ ((x0_2.length : Int) : Int) := of_decide_eq_true (by first | (with_reducible assumption) | assumption)
                    obtain ⟨i014, hi014, _, hsz14, _⟩ := info_parts info5
                    have hcut14 := cut_from (P := Tryd.prog) 22 5 .i64 Tryd.underlying22 hi014 1 hsz14 (some ad117) x0_2.length co13 1 (by omega) q14
                    have hr14 := Kd.Q_drop (k := (1 : Int).toNat) HO_0.out (by omega)
                    obtain ⟨A14, hA14⟩ : ∃ A1, A1 = (if co13 = (1 : Int).toNat then (some ad117) else ((some ad117) : Option Addr).map (·.add ((1 : Int).toNat * 1))) := ⟨_, rfl⟩
                    obtain ⟨c14, hc14⟩ : ∃ c1, c1 = co13 - (1 : Int).toNat := ⟨_, rfl⟩
                    have hy14 : y118.length = x0_2.length - (1 : Int).toNat := (by rw [Ny118.out, List.length_drop])
                    rw [← Ny118.out] at hr14
                    rw [← hy14, ← hA14, ← hc14] at hcut14
                    replace hr14 : Kd.Q (Kd.int .u8) 5 wr w0.heap.size (fun k_ => (P0_ k_ ∨ w.heap.size ≤ k_)) (.slice A14 y118.length c14) y118 := (by rw [hA14, hc14, hy14]; exact hr14)
                    have HE14 : Aside0 ((Value.slice A14 y118.length c14).ownBlock = (.slice (some ad117) x0_2.length co13 : Value).ownBlock) := ⟨by rw [hA14]; split <;> (cases ((some ad117) : Option Addr) <;> rfl)⟩
                    clear hy14 hi014 hsz14 HO_0 hA14 hc14
                    have HO120 := Aside0.mk hr14
                    clear hr14
                    replace q14 := eq_true q14
                    go_wp2
                    go_roundg k2
                    case measure => have := HK1.out; have := HK2.out; omega
                    case rel => exact ⟨(y118), H', ⟨by have := HK1.out; have := HK2.out; omega⟩, ⟨by (try simp only [hl0_1]); (with_reducible repeat (first | apply Kd.Q_alloc | apply Kd.Q_drewN | apply Kd.Q_drew)); exact HO120.out⟩, ⟨by repeat (first | (with_reducible first | exact HK.out | apply Kept.alloc | apply Kept.drewN | apply Kept.drew) | exact HK.out)⟩, ⟨by repeat (first | (with_reducible first | exact HB.out | apply below_alloc | apply pw_below_drewN | apply below_drew1) | exact HB.out)⟩⟩
                  · rw [if_neg c12] at H
                    exact absurd H (by simp)
                · rw [if_neg c11] at H
                  have c11b0 : ((rd x0_2 0) == 0) = false := beq_eq_false_iff_ne.mpr c11
                  have c11b1 : ((rd x0_2 0) != 0) = true := bne_iff_ne.mpr c11
                  simp only [Option.some.injEq, Prod.mk.injEq] at H
                  obtain ⟨rfl, rfl⟩ := H
                  obtain ⟨Ao15, co15, eo15, _⟩ := Kd.Q_slice HO_0.out
                  subst eo15
                  have p117 : 0 ≤ (0 : Int) := (by omega)
                  have q117 : 0 < (x0_2.length : Int) := of_decide_eq_true (by first | (with_reducible assumption) | assumption)
                  obtain ⟨ad117, e117, hx117_0⟩ := Kd.at_int (Kd.Q_reads' HO_0.out).2.2 0 p117 q117
                  cases e117
                  have qi117 : (0 < x0_2.length) = True := eq_true (by omega)
                  (try rw [show ((0 : Int)).toNat = 0 from rfl] at hx117_0)
                  (try rw [Addr.add_zero'] at hx117_0)
                  replace p117 := eq_true p117
                  replace q117 := eq_true q117
                  go_wp2
                  go_ret2
                  exact ⟨_, by first | rfl | (simp [errW_none, errW_some] <;> rfl) | (simp [*, errW_none, errW_some] <;> rfl), by (with_reducible repeat (first | apply Kd.Q_alloc | apply Kd.Q_drewN | apply Kd.Q_drew)); exact HO_0.out, by repeat (first | (with_reducible first | exact HB.out | apply below_alloc | apply pw_below_drewN | apply below_drew1) | exact HB.out), by repeat (first | (with_reducible first | exact HK.out | apply Kept.alloc | apply Kept.drewN | apply Kept.drew) | exact HK.out)⟩
              · rw [if_neg c10] at H
                exact absurd H (by simp)
            · rw [if_neg c9] at H
              have c9b0 : decide (0 < (x0_2.length : Int)) = false := decide_eq_false c9
              have c9b1 : decide (0 < x0_2.length) = false := decide_eq_false (by omega)
              clear c9
              simp only [Option.some.injEq, Prod.mk.injEq] at H
              obtain ⟨rfl, rfl⟩ := H
              obtain ⟨Ao16, co16, eo16, _⟩ := Kd.Q_slice HO_0.out
              subst eo16
              go_wp2
              go_ret2
              exact ⟨_, by first | rfl | (simp [errW_none, errW_some] <;> rfl) | (simp [*, errW_none, errW_some] <;> rfl), by (with_reducible repeat (first | apply Kd.Q_alloc | apply Kd.Q_drewN | apply Kd.Q_drew)); exact HO_0.out, by repeat (first | (with_reducible first | exact HB.out | apply below_alloc | apply pw_below_drewN | apply below_drew1) | exact HB.out), by repeat (first | (with_reducible first | exact HK.out | apply Kept.alloc | apply Kept.drewN | apply Kept.drew) | exact HK.out)⟩

end Go.Proofs.YtpgfhcobfaceeaaDoor.PFnBase58
