/-
  ftoa64 without letters behind the point, and at zero.
-/
import Derived.Test.YtkcbalikahmeiaaDoorFtoWalk
import Derived.Test.YtkcbalikahmeiaaDoorFixWalk
namespace Go.Proofs.YtkcbalikahmeiaaDoor.Aft
open Go.RowKit Go.Proofs.YtkcbalikahmeiaaDoor.Hand Go.Proofs.YtkcbalikahmeiaaDoorW.PrintWords Go.Proofs.YtkcbalikahmeiaaDoorW.PrintLast Go.Proofs.YtkcbalikahmeiaaDoorW.PrintMore
attribute [local go_sem] max2_int min2_int

set_option maxRecDepth 100000 in
set_option maxHeartbeats 16000000 in
theorem ftoa_fixed (B gd b E M n : Nat) (neg : Bool) (mant N : Nat) (v : Value) (w : World)
    (g1 : ((b : Int) / 9223372036854775808 != 0) = neg) (g2 : Go.bits .and .i64 ((b : Int) / 4503599627370496) 2047 = 1023 + (E : Int)) (g3 : Go.bits .and .u64 b 4503599627370495 = mant) (g4 : Go.bits .or .u64 mant 4503599627370496 = M) (hE : E ≤ 49)
    (hb : b < 18446744073709551616) (hM0 : 4503599627370496 ≤ M) (hM1 : M < 9007199254740992) (hu1 : 1 ≤ N) (hu2 : N < 18446744073709551616) (hu3 : Lib.nDigits N ≤ 24) (hn : n = 1 + l10 (E + 1)) (hn18 : n ≤ 18) (ho : w.cell? ⟨4, 0, none⟩ = some (.bool true)) (h4 : 4 < w.heap.size)
    (hnum : ∀ w1, Below w.heap.size w w1 → Calls Tryd.prog 20 #[.int .u64 N] w1 fun e w' => e = .returned (.int .i64 (Lib.nDigits N)) ∧ w' = w1)
    (hS : ∀ w1, Below w.heap.size w w1 → Calls Tryd.prog 32 #[.int .u64 ((M * 2048 : Nat) : Int), .int .i64 ((E : Int) - 11 - 52), .int .i64 n, .int .i64 0, .int .u8 102] w1 fun r w' => r = .returned (.tuple #[.int .u64 (N : Int), .int .i64 0]) ∧ Below w1.heap.size w1 w')
    (hR : (Kd.int .u8).R 5 w B (fun k => k = gd) v []) (hBw : B ≤ w.heap.size) (hgd : gd < w.heap.size) :
    Calls Tryd.prog 17 #[v, .float .f64 b, .int .u8 102, .int .i64 0] w fun e w' =>
      ∃ v1, e = .returned v1 ∧ (Kd.int .u8).R 5 w' B (fun k => k = gd ∨ w.heap.size ≤ k) v1 (sgnL neg ++ txt N 0) ∧ Below B w w' := by
  have hbits := bits_run b
  have HN := Aside0.mk hnum
  have hS' := fun w1 h => calls_of_args (args := #[Value.int .u64 ((M : Int) * 2048), Value.int .i64 (1023 + (E : Int) + -1023 - 11 - 52), Value.int .i64 (1 + (l10 (E + 1) : Int)), .int .i64 0, .int .u8 102]) (by rw [show (1023 + (E : Int) + -1023 - 11 - 52) = (E : Int) - 11 - 52 by omega, show ((M * 2048 : Nat) : Int) = (M : Int) * 2048 by omega, show 1 + (l10 (E + 1) : Int) = (n : Int) by omega]) (hS w1 h)
  have hN1 : 1 ≤ N := hu1
  have hl53 := bitLen_53 hM0 hM1
  have hLn := len_calls M (by omega)
  rw [hl53] at hLn
  have HLn := Aside0.mk hLn
  obtain ⟨nd, hnd⟩ : ∃ nd, nd = Lib.nDigits N := ⟨_, rfl⟩
  obtain ⟨l, hl⟩ : ∃ l, l = dig N ++ List.replicate (24 - Lib.nDigits N) 0 := ⟨_, rfl⟩
  obtain ⟨s, hs⟩ : ∃ s, s = sl l (Lib.nDigits N) := ⟨_, rfl⟩
  have HU := Aside0.mk (⟨hu1, hu2, hu3⟩ : 1 ≤ N ∧ N < 18446744073709551616 ∧ Lib.nDigits N ≤ 24)
  have HL := Aside0.mk hl
  have HND := Aside0.mk hnd
  have HSS := Aside0.mk hs
  have HR := Aside0.mk hR
  have hs32 : s ≤ 24 := by rw [hs]; exact Nat.le_trans (sl_le _ _) hu3
  have hn32 : nd ≤ 24 := by omega
  obtain ⟨lr, hlr⟩ : ∃ lr, lr = l10 (E + 1) := ⟨_, rfl⟩
  have hq : (1 + (E : Int)) * 78913 / 262144 = (lr : Int) := by rw [hlr]; unfold l10; omega
  have HQ := Aside0.mk hq
  rw [← hlr] at hS'
  have HS := Aside0.mk hS'
  have hnl : (n : Int) = 1 + (lr : Int) := by omega
  have HNL := Aside0.mk hnl
  have hlr18 : lr ≤ 17 := by omega
  rw [← hnd] at HN
  clear hS hS' hLn hnum hu1 hu2 hu3 hl hnd hs hR hl53 hq hnl hn hn18 hlr
  go_enter Tryd.func17, Tryd.ntmps17
  go_wp2_with fail
  go_quiet (fail)
  go_wp2_with (first
    | (go_at_call 28; (with_reducible refine (HLn.out _).mono ?_); rintro r w2 ⟨rfl, h2⟩; obtain rfl := h2.symm)
    | (go_at_call 31; (with_reducible refine (log10_calls _ (lr : Int) _ ?h0 ?h1 ?h2).mono ?_); (case h0 => omega); (case h1 => omega); (case h2 => first | exact HQ.out | (rw [show (1 + (1023 + (E : Int) + -1023)) = 1 + (E : Int) by omega]; exact HQ.out)); rintro r w2 ⟨rfl, h2⟩; obtain rfl := h2.symm)
    | (go_at_call 32; (with_reducible refine (HS.out _ (below_alloc (bel_drew _ _) _)).mono ?_); rintro r w3 ⟨rfl, h3⟩; have HB3 := Aside0.mk h3; clear h3)
    | fail)
  obtain ⟨kb, kw⟩ := buf_kept HB3.out
  have KW := Aside0.mk kw
  have hset := set_calls w.heap.size 24 N 0 44 w3.drew HU.out.1 HU.out.2.1 HU.out.2.2 (by omega) (by omega) (by omega) kb
  rw [← HL.out, ← HSS.out, ← HND.out, show ((nd : Int) + 0) = (nd : Int) by omega] at hset
  have HSET := Aside0.mk hset
  clear HB3 kw hset kb
  go_region_with (first
    | (go_at_call 20; (with_reducible refine (HN.out _ KW.out.drew).mono ?_); rintro r w2 ⟨rfl, h2⟩; obtain rfl := h2.symm)
    | (go_at_call 30; (with_reducible refine HSET.out.mono ?_); rintro r w4 ⟨rfl, h41, h42⟩; have HB4 := Aside0.mk h41; have HW4 := Aside0.mk h42; clear h41 h42)
    | fail)
  have b4 : Below w.heap.size w w4 := KW.out.drew.trans HW4.out
  have hlt : w.heap.size < w4.heap.size := (Array.getElem?_eq_some_iff.1 HB4.out).1
  have hD : DS B gd w.heap.size l 44 w4 w4 v [] := ⟨Kd.R_mono (Kd.R_below HR.out b4) (fun k hk => .inl hk), HB4.out, Below.refl _ _, Nat.le_refl _⟩
  have hSep : Sep B gd w.heap.size w4 := ⟨hBw, by omega, hlt, by omega⟩
  have hF := fmt_int B gd w.heap.size 24 N s neg false l 44 v w4 hSep hD (by rw [HL.out]; exact holds _ _) (by rw [HL.out, List.length_append, dig_length, List.length_replicate]; have := HU.out.2.2; omega) (by omega) HU.out.1 HSS.out
  rw [← HND.out] at hF
  have HF := Aside0.mk hF
  have HB5 := Aside0.mk b4
  clear hF hD b4 HSET HN HS HLn
  go_wp2_with (first
    | (go_at_call 27; (with_reducible refine HF.out.mono ?_); rintro r w5 ⟨v1, rfl, h5⟩; have HD5 := Aside0.mk h5; clear h5)
    | fail)
  have hsz := HB5.out.size
  refine bodyPost_ret (results_tmp rfl _ _ _) rfl ⟨v1, rfl, Kd.R_mono HD5.out.R (fun k hk => ?_), (HB5.out.mono hBw).trans HD5.out.below⟩
  rcases hk with hk | hk
  · exact .inl hk
  · exact .inr (by omega)
set_option maxRecDepth 100000 in
set_option maxHeartbeats 8000000 in
/-- fmtEFG of nothing: a zero. -/
theorem fmt_zero (B gd : Nat) (prec : Int) (sh : Bool) (v : Value) (w : World) (hR : (Kd.int .u8).R 5 w B (fun k => k = gd) v []) (hBw : B ≤ w.heap.size) (hp0 : -100 ≤ prec) (hp : prec ≤ 0) :
    Calls Tryd.prog 27 #[v, .bool false, .slice none 0 0, .int .i64 0, .int .i64 0, .int .i64 prec, .int .u8 102, .bool sh] w fun e w' =>
      ∃ v1, e = .returned v1 ∧ (Kd.int .u8).R 5 w' B (fun k => k = gd ∨ w.heap.size ≤ k) v1 [48] ∧ Below B w w' := by
  have HR := Aside0.mk (Kd.R_mono (ok' := fun k => k = gd ∨ w.heap.size ≤ k) hR (fun k hk => .inl hk))
  clear hR
  go_enter Tryd.func27, Tryd.ntmps27
  go_wp2_with (first
    | ((with_reducible refine gate_builtin (b := .append) (xs := #[.tmp 209, .tmp 210]) rfl ?_); refine Kd.R_append (Kd.int .u8) (w0 := w) B rfl (.tmp 209) (.tmp 210) 31 5 (.int .u8 0) 1 rfl Tryd.underlying31 info5 rfl (by decide) (by decide) v [] 48 [.int .u8 48] (fun k => k = gd ∨ w.heap.size ≤ k) (fun _ => False) rfl rfl rfl (fun _ hk => hk.elim) (fun k hk => .inr hk) HR.out (Below.refl _ _) hBw (by simp) ?_; intro v1 w1 hr1 hb1 _ _; have HR1 := Aside0.mk hr1; have HB1 := Aside0.mk hb1; clear hr1 hb1)
    | fail)
  exact bodyPost_ret (results_tmp rfl _ _ _) rfl ⟨v1, rfl, HR1.out, HB1.out⟩
set_option maxRecDepth 100000 in
set_option maxHeartbeats 16000000 in
theorem ftoa_zero (B gd : Nat) (prec : Int) (v : Value) (w : World) (hR : (Kd.int .u8).R 5 w B (fun k => k = gd) v []) (hBw : B ≤ w.heap.size) (hp0 : -100 ≤ prec) (hp : prec ≤ 0) :
    Calls Tryd.prog 17 #[v, .float .f64 0, .int .u8 102, .int .i64 prec] w fun e w' =>
      ∃ v1, e = .returned v1 ∧ (Kd.int .u8).R 5 w' B (fun k => k = gd ∨ w.heap.size ≤ k) v1 [48] ∧ Below B w w' := by
  have hbits := bits_run 0
  have g2 : Go.bits .and .i64 0 2047 = 0 := by decide +kernel
  have g3 : Go.bits .and .u64 0 4503599627370495 = 0 := by decide +kernel
  have HR := Aside0.mk hR
  clear hR
  go_enter Tryd.func17, Tryd.ntmps17
  go_wp2_with fail
  go_quiet (fail)
  have HZ := fun n => Aside0.mk (fmt_zero B gd prec (decide (prec < 0)) v (w.drewN n) (Kd.R_below HR.out (bel_drew _ _)) hBw hp0 hp)
  go_wp2_with (first
    | (go_at_call 27; (with_reducible refine (HZ _).out.mono ?_); rintro r w5 ⟨v1, rfl, h5, h6⟩; have H5 := Aside0.mk h5; have H6 := Aside0.mk h6; clear h5 h6)
    | fail)
  exact bodyPost_ret (results_tmp rfl _ _ _) rfl ⟨v1, rfl, H5.out, ((bel_drew w _).mono hBw).trans H6.out⟩
end Go.Proofs.YtkcbalikahmeiaaDoor.Aft
