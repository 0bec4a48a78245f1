/-
  The walks of base58.zzTrim and impl.clone.
-/
import Derived.Test.YtpgfhcobfaceeaaDoorSpecF
import Derived.Test.YtpgfhcobfaceeaaDoorDivF
import Derived.Test.YtpgfhcobfaceeaaDoorUnWalk
import Derived.Lib.Hide
namespace Go.Proofs.YtpgfhcobfaceeaaDoor.PFnBase58
open Go.RowKit Go.Proofs.YtpgfhcobfaceeaaDoor.Hand Go.Proofs.YtpgfhcobfaceeaaDoorW.PrintWords Go.Proofs.YtpgfhcobfaceeaaDoorW.PrintLast Go.Proofs.YtpgfhcobfaceeaaDoorW.PrintMore

theorem clone_calls (A : Option Addr) (c : Nat) (b : List Int) (w : World) (hC : Kd.C (Kd.int .u8) w A b.length b) (hb : b.length ≤ 1000) :
    Calls Tryd.prog 19 #[.slice A b.length c] w fun e w' => ∃ v, e = .returned v ∧ Kd.R (Kd.int .u8) 5 w' w.heap.size (fun _ => True) v b ∧ Below w.heap.size w w' := by
  have HC := Aside0.mk hC
  have HB := Aside0.mk (Below.refl w.heap.size w)
  clear hC
  go_enter Tryd.func19, Tryd.ntmps19
  go_wp2_with (first | (refine Kd.R_append_row (h1 := fun _ => rfl) (w0 := w) (Value.int .u8) (0 : Int) w.heap.size rfl _ _ 22 5 (.int .u8 0) 1 rfl Tryd.underlying22 info5 rfl (by decide) (.slice none 0 0) [] b A b.length c (fun _ => True) rfl rfl (fun _ _ => trivial) (Kd.R_nil _ _ _ _ _) HC.out HB.out (Nat.le_refl _) (by simp; omega) ?_; intro v1 w1 hR hB1 _ _) | fail)
  go_ret
  exact ⟨_, rfl, by rw [List.nil_append] at hR; exact hR, hB1⟩

set_option maxHeartbeats 1000000 in
theorem trim_calls (A : Option Addr) (c : Nat) (b : List Int) (w : World) (hC : Kd.C (Kd.int .u8) w A b.length b) (hc : b.length ≤ c) (hb : b.length ≤ 1000) :
    Calls Tryd.prog 24 #[.slice A b.length c] w fun e w' => ∃ v, e = .returned v ∧ Kd.R (Kd.int .u8) 5 w' w.heap.size (fun _ => True) v (strip b) ∧ Below w.heap.size w w' := by
  have HC := Aside0.mk hC
  have HB := Aside0.mk (Below.refl w.heap.size w)
  obtain ⟨i0, hi, hz0, hz1, hz2⟩ := info_parts info5
  clear hC
  go_enter Tryd.func24, Tryd.ntmps24
  go_wp2
  go_loop [0] (fun v => ∃ (A1 : Option Addr) (c1 : Nat) (l : List Int), v = .slice A1 l.length c1 ∧ l.length ≤ c1 ∧ l.length ≤ b.length ∧ Aside0 (Kd.C (Kd.int .u8) w A1 l.length l) ∧ Aside0 (strip l = strip b)) (fun v => match v with | .slice _ n _ => n | _ => 0)
  case atStart => exact ⟨A, c, b, rfl, hc, Nat.le_refl _, HC, ⟨rfl⟩⟩
  case round =>
    obtain ⟨A1, c1, l, rfl, hc1, hl1, HL, HS⟩ := hrel
    match l, hc1, hl1, HL, HS with
    | [], hc1, hl1, HL, HS =>
      simp only [List.length_nil]
      go_wp2_with (first | (refine Kd.R_append_row (h1 := fun _ => rfl) (w0 := w) (Value.int .u8) (0 : Int) w.heap.size rfl _ _ 22 5 (.int .u8 0) 1 rfl Tryd.underlying22 info5 rfl (by decide) (.slice none 0 0) [] [] A1 0 c1 (fun _ => True) rfl rfl (fun _ _ => trivial) (Kd.R_nil _ _ _ _ _) HL.out HB.out (Nat.le_refl _) (by simp) ?_; intro v1 w1 hR hB1 _ _) | fail)
      go_ret
      exact ⟨_, rfl, by rw [← HS.out]; exact hR, hB1⟩
    | x :: l, hc1, hl1, HL, HS =>
      obtain ⟨ad, rfl, hcell⟩ := C_cells HL.out (by simp)
      have hcut := cut_from (P := Tryd.prog) 22 5 .i64 Tryd.underlying22 hi 1 hz1 (some ad) (x :: l).length c1 1 (by omega) (by simp; omega)
      have hdrop := Kd.C_drop (m := 1) (c := c1) HL.out (by simp) hc1
      have hx := hcell 0 (.int .u8 x) rfl
      rw [Addr.add_zero'] at hx
      have e1 : (1 : Int).toNat = 1 := rfl
      simp only [List.length_cons, e1, Nat.add_sub_cancel, Nat.one_mul, List.drop_one, List.tail_cons] at hc1 hl1 hcut hdrop
      have e2 : (Kd.int .u8).sz = 1 := rfl
      rw [e2] at hdrop
      obtain ⟨A2, hA2⟩ : ∃ A2, A2 = (if c1 = 1 then some ad else (some ad : Option Addr).map (·.add 1)) := ⟨_, rfl⟩
      obtain ⟨c2, hc2⟩ : ∃ c2, c2 = c1 - 1 := ⟨_, rfl⟩
      rw [← hA2, ← hc2] at hcut
      try simp only [Nat.mul_one] at hdrop
      rw [← hA2] at hdrop
      have hle : l.length ≤ c2 := by omega
      have HD := Aside0.mk hdrop
      clear hdrop hA2 hc2 hcell e1 e2
      by_cases h0 : x = 0
      · subst h0
        have HS' := Aside0.mk (show strip l = strip b by rw [← HS.out, strip, if_pos rfl])
        have g0 : (0 : Int) < (l.length : Int) + 1 := by omega
        go_wp2
        go_round
        case rel => exact ⟨A2, c2, l, rfl, hle, by omega, HD, HS'⟩
        case measure => simp
      · have HS' := Aside0.mk (show strip b = x :: l by rw [← HS.out, strip, if_neg h0])
        have b0 : (x == 0) = false := beq_eq_false_iff_ne.2 h0
        have g0 : (0 : Int) < (l.length : Int) + 1 := by omega
        have HL2 : Kd.C (Kd.int .u8) w (some ad) (l.length + 1) (x :: l) := HL.out
        go_wp2_with (first | (refine Kd.R_append_row (h1 := fun _ => rfl) (w0 := w) (Value.int .u8) (0 : Int) w.heap.size rfl _ _ 22 5 (.int .u8 0) 1 rfl Tryd.underlying22 info5 rfl (by decide) (.slice none 0 0) [] (x :: l) (some ad) (l.length + 1) c1 (fun _ => True) rfl rfl (fun _ _ => trivial) (Kd.R_nil _ _ _ _ _) HL2 HB.out (Nat.le_refl _) (by simp; omega) ?_; intro v1 w1 hR hB1 _ _) | fail)
        go_ret
        exact ⟨_, rfl, by rw [HS'.out]; exact hR, hB1⟩
end Go.Proofs.YtpgfhcobfaceeaaDoor.PFnBase58
