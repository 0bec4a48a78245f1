/-
  ftoa64: the letters of a double.
-/
import Derived.Test.YtkcbalikahmeiaaDoorFmtAny
import Derived.Test.YtkcbalikahmeiaaDoorShortLaw
import Derived.Laws.Externs
import Derived.Deep.QuietTactic
import Derived.Deep.RegionWith
namespace Go.Proofs.YtkcbalikahmeiaaDoor.Aft
open Go.RowKit Go.Proofs.YtkcbalikahmeiaaDoor.Hand Go.Proofs.YtkcbalikahmeiaaDoorW.PrintWords Go.Proofs.YtkcbalikahmeiaaDoorW.PrintLast Go.Proofs.YtkcbalikahmeiaaDoorW.PrintMore
attribute [local go_sem] max2_int min2_int

theorem bits_run (b : Nat) (w : World) : (callFunc 24 #[.float .f64 b]).run Tryd.prog w = .ok (.value (.int .u64 b)) w := by
  have hf := run_callFunc_extern (P := Tryd.prog) (f := 24) (e := Extern.MathFloatBits.float64bits) Tryd.func24 (by kernel_rfl) (by kernel_rfl) (by kernel_rfl) (by kernel_rfl) #[.float .f64 b] w
  rw [hf]
  rfl
theorem bel_drew (w : World) (n : Nat) : Below w.heap.size w (w.drewN n) := ⟨rfl, rfl, rfl, Nat.le_refl _, fun _ _ => rfl⟩
theorem buf_kept {w w3 : World} {n : Nat} {cs : Array Value} {T : TypeId} (h : Below ((w.drewN n).alloc (.cells cs T)).heap.size ((w.drewN n).alloc (.cells cs T)) w3) : w3.heap[w.heap.size]? = some (.cells cs T (0, 0)) ∧ Below w.heap.size w w3 := by
  have h1 : Below w.heap.size w ((w.drewN n).alloc (.cells cs T)) := below_alloc (bel_drew _ _) _
  refine ⟨?_, h1.trans (h.mono h1.size)⟩
  rw [h.block w.heap.size (by show w.heap.size < (w.heap.push _).size; rw [Array.size_push]; omega)]
  show (w.heap.push _)[w.heap.size]? = _
  rw [Array.getElem?_push_size]
theorem bitLen_53 {M : Nat} (h0 : 4503599627370496 ≤ M) (h1 : M < 9007199254740992) : Lib.bitLen M = 53 := by
  rw [Lib.bitLen_shift 52 M (by rw [show 2 ^ 52 = 4503599627370496 from rfl]; exact h0) (by rw [show 2 ^ 64 = 18446744073709551616 from rfl]; omega), show 2 ^ 52 = 4503599627370496 from rfl, show M / 4503599627370496 = 1 by omega]
  decide
set_option maxRecDepth 100000 in
set_option maxHeartbeats 16000000 in
/-- The shortest letters that tell the double. -/
theorem ftoa_short (B gd b t M : Nat) (neg : Bool) (mant p u : Nat) (v : Value) (w : World) (prec : Int)
    (g1 : ((b : Int) / 9223372036854775808 != 0) = neg) (g2 : Go.bits .and .i64 ((b : Int) / 4503599627370496) 2047 = 1075 - (t : Int)) (g3 : Go.bits .and .u64 b 4503599627370495 = mant) (g4 : Go.bits .or .u64 mant 4503599627370496 = M) (ht3 : 3 ≤ t) (ht : t ≤ 100)
    (hb : b < 18446744073709551616) (hp0 : -100 ≤ prec) (hp1 : prec < 0) (hM0 : 4503599627370496 ≤ M) (hM1 : M < 9007199254740992) (hu1 : 1 ≤ u) (hu2 : u < 18446744073709551616) (hu3 : Lib.nDigits u ≤ 32) (hp1' : 1 ≤ p) (hpp : p ≤ 40)
    (hnum : ∀ w1, Below w.heap.size w w1 → Calls Tryd.prog 20 #[.int .u64 u] w1 fun e w' => e = .returned (.int .i64 (Lib.nDigits u)) ∧ w' = w1)
    (hS : ∀ w1, Below w.heap.size w w1 → Calls Tryd.prog 36 #[.int .u64 ((M * 2048 : Nat) : Int), .int .i64 (-((t : Int) + 11))] w1 fun r w' => r = .returned (.tuple #[.int .u64 (u : Int), .int .i64 (-((p : Int) - 1))]) ∧ Below w1.heap.size w1 w')
    (hR : (Kd.int .u8).R 5 w B (fun k => k = gd) v []) (hBw : B ≤ w.heap.size) (hgd : gd < w.heap.size) :
    Calls Tryd.prog 17 #[v, .float .f64 b, .int .u8 102, .int .i64 prec] w fun e w' =>
      ∃ v1, e = .returned v1 ∧ (Kd.int .u8).R 5 w' B (fun k => k = gd ∨ w.heap.size ≤ k) v1 (sgnL neg ++ txt u (p - 1)) ∧ Below B w w' := by
  have hbits := bits_run b
  have HN := Aside0.mk hnum
  have hS' := fun w1 h => calls_of_args (args := #[Value.int .u64 ((M : Int) * 2048), Value.int .i64 (1075 - (t : Int) + -1023 - 11 - 52)]) (by rw [show (1075 - (t : Int) + -1023 - 11 - 52) = -((t : Int) + 11) by omega, show ((M * 2048 : Nat) : Int) = (M : Int) * 2048 by omega]) (hS w1 h)
  have HS := Aside0.mk hS'
  have hl53 := bitLen_53 hM0 hM1
  have hLn := len_calls M (by omega)
  rw [hl53] at hLn
  have HLn := Aside0.mk hLn
  obtain ⟨nd, hnd⟩ : ∃ nd, nd = Lib.nDigits u := ⟨_, rfl⟩
  obtain ⟨l, hl⟩ : ∃ l, l = dig u ++ List.replicate (32 - Lib.nDigits u) 0 := ⟨_, rfl⟩
  obtain ⟨s, hs⟩ : ∃ s, s = sl l (Lib.nDigits u) := ⟨_, rfl⟩
  have HU := Aside0.mk (⟨hu1, hu2, hu3⟩ : 1 ≤ u ∧ u < 18446744073709551616 ∧ Lib.nDigits u ≤ 32)
  have HL := Aside0.mk hl
  have HND := Aside0.mk hnd
  have HSS := Aside0.mk hs
  have HR := Aside0.mk hR
  have hs32 : s ≤ 32 := by rw [hs]; exact Nat.le_trans (sl_le _ _) hu3
  have hn32 : nd ≤ 32 := by omega
  rw [← hnd] at HN
  clear hS hS' hLn hnum hu1 hu2 hu3 hl hnd hs hR hl53
  go_enter Tryd.func17, Tryd.ntmps17
  go_wp2_with fail
  go_quiet (fail)
  go_wp2_with (first
    | (go_at_call 28; (with_reducible refine (HLn.out _).mono ?_); rintro r w2 ⟨rfl, h2⟩; obtain rfl := h2.symm)
    | (go_at_call 36; (with_reducible refine (HS.out _ (below_alloc (bel_drew _ _) _)).mono ?_); rintro r w3 ⟨rfl, h3⟩; have HB3 := Aside0.mk h3; clear h3)
    | fail)
  obtain ⟨kb, kw⟩ := buf_kept HB3.out
  have KW := Aside0.mk kw
  have hset := set_calls w.heap.size 32 u (-((p : Int) - 1)) 56 w3.drew HU.out.1 HU.out.2.1 HU.out.2.2 (by omega) (by omega) (by omega) kb
  rw [← HL.out, ← HSS.out, ← HND.out] at hset
  have HSET := Aside0.mk hset
  clear HB3 kw hset kb
  go_region_with (first
    | (go_at_call 20; (with_reducible refine (HN.out _ KW.out.drew).mono ?_); rintro r w2 ⟨rfl, h2⟩; obtain rfl := h2.symm)
    | (go_at_call 30; (with_reducible refine HSET.out.mono ?_); rintro r w4 ⟨rfl, h41, h42⟩; have HB4 := Aside0.mk h41; have HW4 := Aside0.mk h42; clear h41 h42)
    | fail)
  have b4 : Below w.heap.size w w4 := KW.out.drew.trans HW4.out
  have hlt : w.heap.size < w4.heap.size := (Array.getElem?_eq_some_iff.1 HB4.out).1
  have hD : DS B gd w.heap.size l 56 w4 w4 v [] := ⟨Kd.R_mono (Kd.R_below HR.out b4) (fun k hk => .inl hk), HB4.out, Below.refl _ _, Nat.le_refl _⟩
  have hSep : Sep B gd w.heap.size w4 := ⟨hBw, by omega, hlt, by omega⟩
  have hF := fmt_any B gd w.heap.size 32 u (p - 1) s ((nd : Int) + -((p : Int) - 1)) (max ((s : Int) - ((nd : Int) + -((p : Int) - 1))) 0) neg true l 56 v w4 hSep hD (by rw [HL.out]; exact holds _ _) (by rw [HL.out, List.length_append, dig_length, List.length_replicate]; have := HU.out.2.2; omega) (by omega) HU.out.1 (by omega) HSS.out (by rw [HND.out]; omega) rfl
  have HF := Aside0.mk hF
  have HB5 := Aside0.mk b4
  clear hF hD b4 HSET HN HS HLn
  go_wp2_with (first
    | (go_at_call 27; (with_reducible refine HF.out.mono ?_); rintro r w5 ⟨v1, rfl, h5⟩; have HD5 := Aside0.mk h5; clear h5)
    | fail)
  have hsz := HB5.out.size
  refine bodyPost_ret (results_tmp rfl _ _ _) rfl ⟨v1, rfl, Kd.R_mono HD5.out.R (fun k hk => ?_), (HB5.out.mono hBw).trans HD5.out.below⟩
  rcases hk with hk | hk
  · exact .inl hk
  · exact .inr (by omega)
end Go.Proofs.YtkcbalikahmeiaaDoor.Aft
