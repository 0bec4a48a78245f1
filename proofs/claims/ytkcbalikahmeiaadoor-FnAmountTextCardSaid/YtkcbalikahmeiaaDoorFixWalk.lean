/-
  fixedWidthFloat at a whole number: the number itself.
-/
import Derived.Test.YtkcbalikahmeiaaDoorShortLaw
import Derived.Test.YtkcbalikahmeiaaDoorFmtWalk
namespace Go.Proofs.YtkcbalikahmeiaaDoor.Aft
open Go.RowKit Go.Proofs.YtkcbalikahmeiaaDoor.PFnAmountText Go.Proofs.YtkcbalikahmeiaaDoor.Hand Go.Proofs.YtkcbalikahmeiaaDoorW.PrintWords Go.Proofs.YtkcbalikahmeiaaDoorW.PrintLast Go.Proofs.YtkcbalikahmeiaaDoorW.PrintMore

theorem whole_scaled (N E : Nat) (hE : E ≤ 49) (hlt : N < 2 ^ (E + 1)) :
    strconv_uscale.f ((N * 2 ^ (63 - E) : Nat) : Int) 9223372036854775808 0 ((60 - E : Nat) : Int) = some (((4 * N : Nat) : Int), 9223372036854775808, 0, ((60 - E : Nat) : Int)) ∧
    strconv_uscale.f ((N * 2 ^ (63 - E) : Nat) : Int) 11529215046068469760 0 ((57 - E : Nat) : Int) = some (((40 * N : Nat) : Int), 11529215046068469760, 0, ((57 - E : Nat) : Int)) := by
  have e64 : 2 ^ (E + 1) * 2 ^ (63 - E) = 18446744073709551616 := by rw [← Nat.pow_add, show E + 1 + (63 - E) = 64 by omega]
  have hx : N * 2 ^ (63 - E) < 18446744073709551616 := by rw [← e64]; exact Nat.mul_lt_mul_of_pos_right hlt (Nat.two_pow_pos _)
  have hev : N * 2 ^ (63 - E) % 2 = 0 := by
    rw [show 63 - E = 62 - E + 1 by omega, Nat.pow_succ, ← Nat.mul_assoc]
    exact Nat.mul_mod_left _ _
  have hN : N < 2 ^ 50 := Nat.lt_of_lt_of_le hlt (Nat.pow_le_pow_right (by decide) (by omega))
  have a1 : N * 2 ^ (63 - E) * 9223372036854775808 = 4 * N * 2 ^ (64 + (60 - E)) := by
    rw [show 9223372036854775808 = 2 ^ 63 from rfl, Nat.mul_assoc, ← Nat.pow_add, show 63 - E + 63 = 64 + (60 - E) + 2 by omega, Nat.pow_add _ _ 2]
    generalize 2 ^ (64 + (60 - E)) = T
    rw [show (2 : Nat) ^ 2 = 4 from rfl]
    ac_rfl
  have a2 : N * 2 ^ (63 - E) * 11529215046068469760 = 40 * N * 2 ^ (64 + (57 - E)) := by
    rw [show 11529215046068469760 = 2 ^ 60 * 10 from rfl, ← Nat.mul_assoc, Nat.mul_assoc N, ← Nat.pow_add, show 63 - E + 60 = 64 + (57 - E) + 2 by omega, Nat.pow_add _ _ 2]
    generalize 2 ^ (64 + (57 - E)) = T
    rw [show (2 : Nat) ^ 2 = 4 from rfl, show 40 * N = N * 4 * 10 by omega]
    ac_rfl
  constructor
  · obtain ⟨R, e, h⟩ := uscale_f (N * 2 ^ (63 - E)) 9223372036854775808 (60 - E) hx (by decide) (by omega) hev (by rw [a1, Nat.mul_comm (2 ^ (64 + (60 - E)))]; exact Nat.mul_lt_mul_of_pos_right (by omega) (Nat.two_pow_pos _))
    rw [a1] at h
    rw [h.exact (Nat.two_pow_pos _)] at e
    exact e
  · obtain ⟨R, e, h⟩ := uscale_f (N * 2 ^ (63 - E)) 11529215046068469760 (57 - E) hx (by decide) (by omega) hev (by rw [a2, Nat.mul_comm (2 ^ (64 + (57 - E)))]; exact Nat.mul_lt_mul_of_pos_right (by omega) (Nat.two_pow_pos _))
    rw [a2] at h
    rw [h.exact (Nat.two_pow_pos _)] at e
    exact e
def l10 (x : Nat) : Nat := x * 78913 / 262144
theorem l10_facts (E : Nat) (h : E ≤ 49) : (l10 (E + 1) = l10 E ∨ l10 (E + 1) = l10 E + 1) ∧ 2 ^ (E + 1) < 10 ^ (1 + l10 (E + 1)) ∧ l10 (E + 1) ≤ 15 := by
  have H : ∀ m : Fin 50, (l10 (m.val + 1) = l10 m.val ∨ l10 (m.val + 1) = l10 m.val + 1) ∧ 2 ^ (m.val + 1) < 10 ^ (1 + l10 (m.val + 1)) ∧ l10 (m.val + 1) ≤ 15 := by decide +kernel
  exact H ⟨E, by omega⟩
theorem div_ten (N : Nat) (h : N < 2 ^ 50) : strconv_unrounded_div.f ((40 * N : Nat) : Int) 10 = some ((4 * N : Nat) : Int) := by
  have e1 : Int.tmod ((40 * N : Nat) : Int) 10 = 0 := by rw [Int.tmod_eq_emod_of_nonneg (by omega)]; omega
  have e2 : Int.tdiv ((40 * N : Nat) : Int) 10 = ((4 * N : Nat) : Int) := by rw [Int.tdiv_eq_ediv_of_nonneg (by omega)]; omega
  have e3 : Go.bits .and .u64 ((40 * N : Nat) : Int) 1 = 0 := by
    have := bits_mask .u64 64 (by decide) (fun n h0 h1 => wrap_id h0 (by simpa using h1)) 1 (by decide) ((40 * N : Nat) : Int) (by omega) (by omega)
    rw [show ((2 : Int) ^ 1 - 1) = 1 from rfl] at this
    rw [this]
    omega
  have e4 : Go.bits .or .u64 ((4 * N : Nat) : Int) 0 = ((4 * N : Nat) : Int) := by
    have h1 := bits_or_u64_nat (4 * N) 0 (by omega) (by decide)
    rw [show ((0 : Nat) : Int) = 0 from rfl, Nat.or_zero] at h1
    exact h1
  unfold strconv_unrounded_div.f
  rw [e1, e2, e3, wrap_id (by omega) (by omega)]
  show some (Go.bits .or .u64 (Go.bits .or .u64 ((4 * N : Nat) : Int) 0) 0) = _
  rw [e4, e4]
theorem round_four (N : Nat) (h : N < 2 ^ 50) : strconv_unrounded_round.f ((4 * N : Nat) : Int) = some (N : Int) := by
  have e1 : ((4 * N : Nat) : Int) / 4 = (N : Int) := by omega
  have e3 : Go.bits .and .u64 (N : Int) 1 = ((N % 2 : Nat) : Int) := by
    have := bits_mask .u64 64 (by decide) (fun n h0 h1 => wrap_id h0 (by simpa using h1)) 1 (by decide) (N : Int) (by omega) (by omega)
    rw [show ((2 : Int) ^ 1 - 1) = 1 from rfl] at this
    rw [this]
    omega
  unfold strconv_unrounded_round.f
  rw [e1, e3, wrap_id (x := ((4 * N : Nat) : Int) + 1) (by omega) (by omega), wrap_id (by omega) (by omega)]
  congr 1
  omega
theorem unmin_of (P : Nat) (h0 : 1 ≤ P) (h : P ≤ 10000000000000000) : strconv_unmin.f (P : Int) = some ((4 * P - 2 : Nat) : Int) := by
  unfold strconv_unmin.f
  rw [wrap_id (x := (P : Int) * 4) (by omega) (by omega), wrap_id (by omega) (by omega)]
  congr 1
  omega
set_option maxRecDepth 100000 in
set_option maxHeartbeats 8000000 in
theorem fixed_zero (N E n : Nat) (m : Int) (w : World) (h6 : 6 < w.heap.size) (c0 : w.cell? ⟨6, (0 + 348) * 2, none⟩ = some (.int .u64 9223372036854775808)) (c1 : w.cell? ⟨6, (0 + 348) * 2 + 1, none⟩ = some (.int .u64 0)) (hE : E ≤ 49) (hm : m = ((N * 2 ^ (63 - E) : Nat) : Int)) (hlt : N < 2 ^ (E + 1))
    (hn : n = 1 + l10 (E + 1)) (hl : l10 (E + 1) = l10 E) (ct : w.cell? ⟨5, n, none⟩ = some (.int .u64 ((10 ^ n : Nat) : Int))) :
    Calls Tryd.prog 32 #[.int .u64 m, .int .i64 ((E : Int) - 11 - 52), .int .i64 n, .int .i64 0, .int .u8 102] w fun r w' => r = .returned (.tuple #[.int .u64 (N : Int), .int .i64 0]) ∧ Below w.heap.size w w' := by
  obtain ⟨f1, f2, f3⟩ := l10_facts E hE
  obtain ⟨u0, u1⟩ := whole_scaled N E hE hlt
  have hN : N < 2 ^ 50 := Nat.lt_of_lt_of_le hlt (Nat.pow_le_pow_right (by decide) (by omega))
  have hP : N < 10 ^ n := by rw [hn]; exact Nat.lt_trans hlt f2
  have hP2 : 10 ^ n ≤ 10000000000000000 := by
    have : 10 ^ n ≤ 10 ^ 16 := Nat.pow_le_pow_right (by decide) (by omega)
    exact this
  have hr0 : (E : Int) * 78913 / 262144 = (l10 E : Int) := by unfold l10; omega
  have hum := unmin_of (10 ^ n) (by omega) hP2
  have hro := round_four N hN
  have hdi := div_ten N hN
  have hNi : ((4 * N : Nat) : Int) = 4 * (N : Int) := by omega
  have hMi : ((40 * N : Nat) : Int) = 40 * (N : Int) := by omega
  generalize 10 ^ n = P at *
  rw [← hm] at u0 u1
  obtain ⟨rr, hrr⟩ : ∃ rr : Int, rr = (l10 E : Int) := ⟨_, rfl⟩
  rw [← hrr] at hr0
  have hq : (n : Int) - 1 - rr = 0 := by omega
  have hs : -((E : Int) - 11 - 52 + 0 + 3) = ((60 - E : Nat) : Int) := by omega
  rw [← hs] at u0
  have hP1 : 1 ≤ P := by omega
  have hrb : -1 ≤ rr ∧ rr ≤ 20 := by omega
  have hn1 : 1 ≤ n ∧ n ≤ 16 := by omega
  obtain ⟨U, hU⟩ : ∃ U, U = 4 * P - 2 := ⟨_, rfl⟩
  rw [← hU] at hum
  have HB := Aside0.mk (Below.refl w.heap.size w)
  have C0 := Aside0.mk c0
  have C1 := Aside0.mk c1
  have CT := Aside0.mk ct
  have U1 := Aside0.mk u0
  have UM := Aside0.mk hum
  have RO := Aside0.mk hro
  have DI := Aside0.mk hdi
  have HR := Aside0.mk hr0
  have NI := Aside0.mk hNi
  have MI := Aside0.mk hMi
  have hlow : (4 * (N : Int)) < (U : Int) := by omega
  have h5 : 5 < w.heap.size := by omega
  clear hs u0 u1 c0 c1 ct f1 f2 f3 hm hlt hn hl hum hro hN hdi hr0 hrr hNi hMi hU hP hP1 hP2
  go_enter Tryd.func32, Tryd.ntmps32
  go_wp2_with (first
    | (go_at_call 31; (with_reducible refine (log10_calls _ rr _ ?h0 ?h1 ?h2).mono ?_); (case h0 => omega); (case h1 => omega); (case h2 => first | exact HR.out | (rw [show (E : Int) - 11 - 52 + 63 = (E : Int) by omega]; exact HR.out)); rintro r w2 ⟨rfl, h2⟩; obtain rfl := h2.symm)
    | (go_at_call 46; (with_reducible refine (log2_calls _ 0 _ ?h0 ?h1 ?h2).mono ?_); (case h0 => omega); (case h1 => omega); (case h2 => omega); rintro r w2 ⟨rfl, h2⟩; obtain rfl := h2.symm)
    | (go_at_call 45; (refine Calls.mono (calls_of_args rfl (pre_calls w _ w.heap.size 0 0 0 0 ((E : Int) - 11 - 52) 0 9223372036854775808 0 (IsS79.new w w 0 0 0 HB.out) (below_alloc HB.out _) h6 (by omega) (by omega) (by omega) (pw_cell_below (below_alloc HB.out _) C0.out) (pw_cell_below (below_alloc HB.out _) C1.out))) ?_); rintro r1 w1 ⟨rfl, hI1, hb1⟩; have HI := Aside0.mk hI1; have HB1 := Aside0.mk hb1; clear hI1 hb1)
    | (go_at_call 47; (with_reducible refine (uscale_calls _ (4 * N) _ _ _ _ w _ HI.out HB1.out U1.out).mono ?_); rintro r2 w2 ⟨rfl, hI2, hb2⟩; have HB2 := Aside0.mk hb2; clear hI2; have ctt := pw_cell_below hb2 CT.out; clear hb2; rw [NI.out])
    | (go_at_call 52; (with_reducible refine (strconv_unmin.calls _ (U : Int) _ UM.out).mono ?_); rintro r w3 ⟨rfl, h2⟩; have HB3 := Aside0.mk (HB2.out.trans (h2.below.mono HB2.out.size)); clear h2; clear HB2)
    | (go_at_call 53; (with_reducible refine (strconv_unrounded_div.calls _ _ (4 * (N : Int)) _ ?h0).mono ?_); (case h0 => rw [← NI.out, ← MI.out]; exact DI.out); rintro r w4 ⟨rfl, h2⟩; have HB4 := Aside0.mk (HB3.out.trans (h2.below.mono HB3.out.size)); clear h2)
    | (go_at_call 51; (with_reducible refine (strconv_unrounded_round.calls _ (N : Int) _ ?h0).mono ?_); (case h0 => rw [← NI.out]; exact RO.out); rintro r w5 ⟨rfl, h2⟩; have HB5 := Aside0.mk h2.below; clear h2)
    | fail)
  · go_loopw [11, 13] (fun v11 v13 wr => ((v11 = .int .i64 0 ∧ v13 = .int .u64 (4 * (N : Int))) ∨ (v11 = .int .i64 1 ∧ v13 = .int .u64 (40 * (N : Int)))) ∧ Aside0 (Below w.heap.size w wr)) (fun v11 _ _ => (RowKit.intOf v11).toNat)
    case atStart => exact ⟨.inl ⟨rfl, rfl⟩, HB3⟩
    obtain ⟨hv, HX⟩ := hrel
    rcases hv with ⟨rfl, rfl⟩ | ⟨rfl, rfl⟩
    · go_wp2_with (first
        | (go_at_call 51; (with_reducible refine (strconv_unrounded_round.calls _ (N : Int) _ ?h0).mono ?_); (case h0 => rw [← NI.out]; exact RO.out); rintro r w5 ⟨rfl, h2⟩; have HB5 := Aside0.mk h2.below; clear h2)
        | fail)
      refine bodyPost_ret (results_tmp2 rfl _ _ _) rfl ⟨rfl, HX.out.trans (HB5.out.mono HX.out.size)⟩
    · go_wp2_with (first
        | (go_at_call 53; (with_reducible refine (strconv_unrounded_div.calls _ _ (4 * (N : Int)) _ ?h0).mono ?_); (case h0 => rw [← NI.out, ← MI.out]; exact DI.out); rintro r w4 ⟨rfl, h2⟩; have HB4 := Aside0.mk (HX.out.trans (h2.below.mono HX.out.size)); clear h2)
        | fail)
      go_roundw
      case rel => exact ⟨.inl ⟨rfl, rfl⟩, HB4⟩
      case measure => first | (simp [RowKit.intOf]; done) | (simp [RowKit.intOf]; omega)
set_option maxRecDepth 100000 in
set_option maxHeartbeats 8000000 in
theorem fixed_one (N E n : Nat) (m : Int) (w : World) (h6 : 6 < w.heap.size) (c0 : w.cell? ⟨6, (1 + 348) * 2, none⟩ = some (.int .u64 11529215046068469760)) (c1 : w.cell? ⟨6, (1 + 348) * 2 + 1, none⟩ = some (.int .u64 0)) (hE : E ≤ 49) (hm : m = ((N * 2 ^ (63 - E) : Nat) : Int)) (hlt : N < 2 ^ (E + 1))
    (hn : n = 1 + l10 (E + 1)) (hl : l10 (E + 1) = l10 E + 1) (ct : w.cell? ⟨5, n, none⟩ = some (.int .u64 ((10 ^ n : Nat) : Int))) :
    Calls Tryd.prog 32 #[.int .u64 m, .int .i64 ((E : Int) - 11 - 52), .int .i64 n, .int .i64 0, .int .u8 102] w fun r w' => r = .returned (.tuple #[.int .u64 (N : Int), .int .i64 0]) ∧ Below w.heap.size w w' := by
  obtain ⟨f1, f2, f3⟩ := l10_facts E hE
  obtain ⟨u0, u1⟩ := whole_scaled N E hE hlt
  have hN : N < 2 ^ 50 := Nat.lt_of_lt_of_le hlt (Nat.pow_le_pow_right (by decide) (by omega))
  have hP : N < 10 ^ n := by rw [hn]; exact Nat.lt_trans hlt f2
  have hP2 : 10 ^ n ≤ 10000000000000000 := by
    have : 10 ^ n ≤ 10 ^ 16 := Nat.pow_le_pow_right (by decide) (by omega)
    exact this
  have hr0 : (E : Int) * 78913 / 262144 = (l10 E : Int) := by unfold l10; omega
  have hum := unmin_of (10 ^ n) (by omega) hP2
  have hro := round_four N hN
  have hdi := div_ten N hN
  have hNi : ((4 * N : Nat) : Int) = 4 * (N : Int) := by omega
  have hMi : ((40 * N : Nat) : Int) = 40 * (N : Int) := by omega
  generalize 10 ^ n = P at *
  rw [← hm] at u0 u1
  obtain ⟨rr, hrr⟩ : ∃ rr : Int, rr = (l10 E : Int) := ⟨_, rfl⟩
  rw [← hrr] at hr0
  have hq : (n : Int) - 1 - rr = 1 := by omega
  have hs : -((E : Int) - 11 - 52 + 3 + 3) = ((57 - E : Nat) : Int) := by omega
  rw [← hs] at u1
  have hP1 : 1 ≤ P := by omega
  have hrb : -1 ≤ rr ∧ rr ≤ 20 := by omega
  have hn1 : 1 ≤ n ∧ n ≤ 16 := by omega
  obtain ⟨U, hU⟩ : ∃ U, U = 4 * P - 2 := ⟨_, rfl⟩
  rw [← hU] at hum
  have HB := Aside0.mk (Below.refl w.heap.size w)
  have C0 := Aside0.mk c0
  have C1 := Aside0.mk c1
  have CT := Aside0.mk ct
  have U1 := Aside0.mk u1
  have UM := Aside0.mk hum
  have RO := Aside0.mk hro
  have DI := Aside0.mk hdi
  have HR := Aside0.mk hr0
  have NI := Aside0.mk hNi
  have MI := Aside0.mk hMi
  have hlow : True := trivial
  have h5 : 5 < w.heap.size := by omega
  clear hs u0 u1 c0 c1 ct f1 f2 f3 hm hlt hn hl hum hro hN hdi hr0 hrr hNi hMi hU hP hP1 hP2
  go_enter Tryd.func32, Tryd.ntmps32
  go_wp2_with (first
    | (go_at_call 31; (with_reducible refine (log10_calls _ rr _ ?h0 ?h1 ?h2).mono ?_); (case h0 => omega); (case h1 => omega); (case h2 => first | exact HR.out | (rw [show (E : Int) - 11 - 52 + 63 = (E : Int) by omega]; exact HR.out)); rintro r w2 ⟨rfl, h2⟩; obtain rfl := h2.symm)
    | (go_at_call 46; (with_reducible refine (log2_calls _ 3 _ ?h0 ?h1 ?h2).mono ?_); (case h0 => omega); (case h1 => omega); (case h2 => omega); rintro r w2 ⟨rfl, h2⟩; obtain rfl := h2.symm)
    | (go_at_call 45; (refine Calls.mono (calls_of_args rfl (pre_calls w _ w.heap.size 1 0 0 0 ((E : Int) - 11 - 52) 3 11529215046068469760 0 (IsS79.new w w 0 0 0 HB.out) (below_alloc HB.out _) h6 (by omega) (by omega) (by omega) (pw_cell_below (below_alloc HB.out _) C0.out) (pw_cell_below (below_alloc HB.out _) C1.out))) ?_); rintro r1 w1 ⟨rfl, hI1, hb1⟩; have HI := Aside0.mk hI1; have HB1 := Aside0.mk hb1; clear hI1 hb1)
    | (go_at_call 47; (with_reducible refine (uscale_calls _ (40 * N) _ _ _ _ w _ HI.out HB1.out U1.out).mono ?_); rintro r2 w2 ⟨rfl, hI2, hb2⟩; have HB2 := Aside0.mk hb2; clear hI2; have ctt := pw_cell_below hb2 CT.out; clear hb2; rw [MI.out])
    | (go_at_call 52; (with_reducible refine (strconv_unmin.calls _ (U : Int) _ UM.out).mono ?_); rintro r w3 ⟨rfl, h2⟩; have HB3 := Aside0.mk (HB2.out.trans (h2.below.mono HB2.out.size)); clear h2; clear HB2)
    | (go_at_call 53; (with_reducible refine (strconv_unrounded_div.calls _ _ (4 * (N : Int)) _ ?h0).mono ?_); (case h0 => rw [← NI.out, ← MI.out]; exact DI.out); rintro r w4 ⟨rfl, h2⟩; have HB4 := Aside0.mk (HB3.out.trans (h2.below.mono HB3.out.size)); clear h2)
    | (go_at_call 51; (with_reducible refine (strconv_unrounded_round.calls _ (N : Int) _ ?h0).mono ?_); (case h0 => rw [← NI.out]; exact RO.out); rintro r w5 ⟨rfl, h2⟩; have HB5 := Aside0.mk h2.below; clear h2)
    | fail)
  · go_loopw [11, 13] (fun v11 v13 wr => ((v11 = .int .i64 0 ∧ v13 = .int .u64 (4 * (N : Int))) ∨ (v11 = .int .i64 1 ∧ v13 = .int .u64 (40 * (N : Int)))) ∧ Aside0 (Below w.heap.size w wr)) (fun v11 _ _ => (RowKit.intOf v11).toNat)
    case atStart => exact ⟨.inl ⟨rfl, rfl⟩, HB4⟩
    obtain ⟨hv, HX⟩ := hrel
    rcases hv with ⟨rfl, rfl⟩ | ⟨rfl, rfl⟩
    · go_wp2_with (first
        | (go_at_call 51; (with_reducible refine (strconv_unrounded_round.calls _ (N : Int) _ ?h0).mono ?_); (case h0 => rw [← NI.out]; exact RO.out); rintro r w5 ⟨rfl, h2⟩; have HB5 := Aside0.mk h2.below; clear h2)
        | fail)
      refine bodyPost_ret (results_tmp2 rfl _ _ _) rfl ⟨rfl, HX.out.trans (HB5.out.mono HX.out.size)⟩
    · go_wp2_with (first
        | (go_at_call 53; (with_reducible refine (strconv_unrounded_div.calls _ _ (4 * (N : Int)) _ ?h0).mono ?_); (case h0 => rw [← NI.out, ← MI.out]; exact DI.out); rintro r w4 ⟨rfl, h2⟩; have HB4 := Aside0.mk (HX.out.trans (h2.below.mono HX.out.size)); clear h2)
        | fail)
      go_roundw
      case rel => exact ⟨.inl ⟨rfl, rfl⟩, HB4⟩
      case measure => first | (simp [RowKit.intOf]; done) | (simp [RowKit.intOf]; omega)
  · go_loopw [11, 13] (fun v11 v13 wr => ((v11 = .int .i64 0 ∧ v13 = .int .u64 (4 * (N : Int))) ∨ (v11 = .int .i64 1 ∧ v13 = .int .u64 (40 * (N : Int)))) ∧ Aside0 (Below w.heap.size w wr)) (fun v11 _ _ => (RowKit.intOf v11).toNat)
    case atStart => exact ⟨.inr ⟨rfl, rfl⟩, HB3⟩
    obtain ⟨hv, HX⟩ := hrel
    rcases hv with ⟨rfl, rfl⟩ | ⟨rfl, rfl⟩
    · go_wp2_with (first
        | (go_at_call 51; (with_reducible refine (strconv_unrounded_round.calls _ (N : Int) _ ?h0).mono ?_); (case h0 => rw [← NI.out]; exact RO.out); rintro r w5 ⟨rfl, h2⟩; have HB5 := Aside0.mk h2.below; clear h2)
        | fail)
      refine bodyPost_ret (results_tmp2 rfl _ _ _) rfl ⟨rfl, HX.out.trans (HB5.out.mono HX.out.size)⟩
    · go_wp2_with (first
        | (go_at_call 53; (with_reducible refine (strconv_unrounded_div.calls _ _ (4 * (N : Int)) _ ?h0).mono ?_); (case h0 => rw [← NI.out, ← MI.out]; exact DI.out); rintro r w4 ⟨rfl, h2⟩; have HB4 := Aside0.mk (HX.out.trans (h2.below.mono HX.out.size)); clear h2)
        | fail)
      go_roundw
      case rel => exact ⟨.inl ⟨rfl, rfl⟩, HB4⟩
      case measure => first | (simp [RowKit.intOf]; done) | (simp [RowKit.intOf]; omega)
end Go.Proofs.YtkcbalikahmeiaaDoor.Aft
