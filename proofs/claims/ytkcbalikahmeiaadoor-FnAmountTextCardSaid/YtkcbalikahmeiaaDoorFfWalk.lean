/-
  FormatFloat: the letters of a double, as a string.
-/
import Derived.Test.YtkcbalikahmeiaaDoorFtoFix
namespace Go.Proofs.YtkcbalikahmeiaaDoor.Aft
open Go.RowKit Go.Proofs.YtkcbalikahmeiaaDoor.Hand Go.Proofs.YtkcbalikahmeiaaDoorW.PrintWords Go.Proofs.YtkcbalikahmeiaaDoorW.PrintLast Go.Proofs.YtkcbalikahmeiaaDoorW.PrintMore
attribute [local go_sem] max2_int min2_int

set_option maxRecDepth 100000 in
set_option maxHeartbeats 8000000 in
theorem ff_calls (b : Nat) (prec : Int) (out : List Int) (w : World) (hp0 : -100 ≤ prec) (hp1 : prec ≤ 0)
    (H : ∀ v w1 gd, Below w.heap.size w w1 → (Kd.int .u8).R 5 w1 w.heap.size (fun k => k = gd) v [] → gd < w1.heap.size →
      Calls Tryd.prog 17 #[v, .float .f64 b, .int .u8 102, .int .i64 prec] w1 fun e w' => ∃ v1, e = .returned v1 ∧ (Kd.int .u8).R 5 w' w.heap.size (fun k => k = gd ∨ w1.heap.size ≤ k) v1 out ∧ Below w.heap.size w1 w') :
    Calls Tryd.prog 13 #[.float .f64 b, .int .u8 102, .int .i64 prec, .int .i64 64] w fun e w' => e = .returned (.string (strOfNums out)) ∧ Below w.heap.size w w' := by
  obtain ⟨i0, hi, hz0, hz1, hz2⟩ := info_parts info5
  have HII := Aside0.mk (show Tryd.prog.info? 5 = some i0 ∧ i0.zero = some (.int .u8 0) ∧ i0.size = 1 ∧ i0.bytes = 1 from ⟨hi, hz0, hz1, hz2⟩)
  have HF := Aside0.mk H
  have hmax : max (prec + 4) 24 = 24 := by omega
  clear hi hz0 hz1 hz2 H
  go_enter Tryd.func13, Tryd.ntmps13
  go_wp2_with (first
    | (at_make; refine wpList_make_own w rfl _ _ 31 rfl w.heap.size 5 i0 (.int .u8 0) 1 Tryd.underlying31 HII.out.1 HII.out.2.1 HII.out.2.2.1 .i64 .i64 _ 24 rfl rfl (by simp) (by rw [HII.out.2.2.2]; omega) (by unfold maxLen; omega) (Nat.le_refl _) ?_; intro w1 hown hgrow; obtain ⟨cur, hcur, _⟩ := own_block hown; have hf := HF.out _ w1 w.heap.size ((Below.refl w.heap.size w).grown hgrow (Nat.le_refl _) (fun _ h => by cases h)) (Kd.R_of_own (enc := Value.int .u8) (h1 := fun _ => rfl) (xs := []) (ok := fun k => k = w.heap.size) hown (fun k hk => (Option.some.inj hk).symm)) (Array.getElem?_eq_some_iff.1 hcur).1; have HF1 := Aside0.mk hf; have HB1 := Aside0.mk ((Below.refl w.heap.size w).grown hgrow (Nat.le_refl _) (fun _ h => by cases h)); clear hf hown hgrow hcur)
    | (go_at_call 17; (with_reducible refine HF1.out.mono ?_); rintro r w2 ⟨v1, rfl, h1, h2⟩; have hcv := own_string (P := Tryd.prog) Tryd.underlying31 Tryd.underlying5 Tryd.underlying9 (Kd.own_of_R h1); have HB2 := Aside0.mk (HB1.out.trans h2); clear h1 h2)
    | fail)
  exact bodyPost_ret (results_tmp rfl _ _ _) rfl ⟨rfl, HB2.out⟩
theorem ff10_calls (b : Nat) (prec : Int) (s : ByteArray) (w : World) (H : Calls Tryd.prog 13 #[.float .f64 b, .int .u8 102, .int .i64 prec, .int .i64 64] w fun e w' => e = .returned (.string s) ∧ Below w.heap.size w w') :
    Calls Tryd.prog 10 #[.float .f64 b, .int .u8 102, .int .i64 prec, .int .i64 64] w fun e w' => e = .returned (.string s) ∧ Below w.heap.size w w' := by
  have HF := Aside0.mk H
  clear H
  go_enter Tryd.func10, Tryd.ntmps10
  go_wp2_with (first
    | (go_at_call 13; (with_reducible refine HF.out.mono ?_); rintro r w2 ⟨rfl, h2⟩; have HB2 := Aside0.mk h2; clear h2)
    | fail)
  exact bodyPost_ret (results_tmp rfl _ _ _) rfl ⟨rfl, HB2.out⟩
end Go.Proofs.YtkcbalikahmeiaaDoor.Aft
