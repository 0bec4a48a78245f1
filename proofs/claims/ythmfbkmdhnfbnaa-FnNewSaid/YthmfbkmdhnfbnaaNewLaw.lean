/-
  impl.New, and the law FnNew walked.
-/
import Derived.Test.YthmfbkmdhnfbnaaTold
namespace Go.Proofs.Ythmfbkmdhnfbnaa.PFnNew
open Go.RowKit Go.Proofs.Ythmfbkmdhnfbnaa.Hand Go.Proofs.YthmfbkmdhnfbnaaW.PrintWords Go.Proofs.YthmfbkmdhnfbnaaW.PrintLast Go.Proofs.YthmfbkmdhnfbnaaW.PrintMore

def rateOk (p : Nat) : Bool := match floatBits .quo .f64 (floatOfInt .f64 (p : Int)) 4652007308841189376 with
  | some r => !(FloatKind.f64.format.order r r != some Ordering.eq)
  | none => false
theorem rate_all : (List.range 501).all (fun p => p == 0 || rateOk p) = true := by decide +kernel
theorem rate_facts (p : Int) (h0 : 1 ≤ p) (h1 : p ≤ 500) : ∃ r, floatBits .quo .f64 (floatOfInt .f64 p) 4652007308841189376 = some r ∧ (FloatKind.f64.format.order r r != some Ordering.eq) = false := by
  have h := List.all_eq_true.1 rate_all p.toNat (List.mem_range.2 (by omega))
  have e : (p.toNat == 0) = false := beq_eq_false_iff_ne.2 (by omega)
  rw [e, Bool.false_or] at h
  unfold rateOk at h
  rw [show ((p.toNat : Nat) : Int) = p from by omega] at h
  split at h
  · rename_i r hr
    exact ⟨r, hr, by simpa using h⟩
  · cases h

set_option maxHeartbeats 1000000 in
theorem implNew_calls (el tw fl : Int) (x : Nat) (w : World) (h1 : 1 ≤ el) (h2 : el ≤ 500) (h3 : 0 ≤ fl) (h4 : fl ≤ 255) (hx : (FloatKind.f64.format.order x x != some Ordering.eq) = false) :
    Calls Try.prog 21 #[.int .u32 el, .int .u32 tw, .float .f64 x, .int .u8 fl] w fun e w' => ∃ A n c fu, e = .returned (.tuple #[.agg #[.slice A n c, .int .u32 fu, .int .u32 tw, .int .i64 fl], .bool true]) ∧ Kd.C (Kd.int .u8) w' A n (List.replicate n 0) ∧ n ≤ 36000 ∧ 0 ≤ fu ∧ fu ≤ 50 ∧ Below w.heap.size w w' := by
  go_enter Try.func21, Try.ntmps21
  go_wp2_with fail
  refine (new_calls el tw fl x _).mono ?_
  rintro e w1 ⟨f, m, A, n, fu, rfl, hF, hC, hn, hu0, hu1, hb1⟩
  have HB1 := Aside0.mk (below_step (below_alloc (Below.refl w.heap.size w) _) hb1)
  have HG : Aside0 (w1.heap[w.heap.size]? = some (.cells #[Value.slice none 0 0, Value.int IntKind.u32 0, Value.int IntKind.u32 0, Value.int IntKind.i64 0] 28 (0, 0))) := ⟨(hb1.block w.heap.size (by simp)).trans (by show (w.heap.push _)[w.heap.size]? = _; simp)⟩
  have T := told_calls f m A n (List.replicate n 0) fu tw fl w1 h3 h4 (by rw [List.length_replicate]; exact hF) (by rw [List.length_replicate]; exact hC) (by rw [List.length_replicate]; omega)
  have TT := Aside0.mk T
  clear hb1 hF hC T
  go_wp2_with fail
  refine TT.out.mono ?_
  rintro e w2 ⟨v2, rfl, hR2, hb2⟩
  obtain ⟨A2, c2, e2⟩ := Kd.R_slice hR2
  rw [List.length_replicate] at e2
  subst e2
  have HB2 := Aside0.mk (below_step HB1.out hb2)
  obtain ⟨HX, q0, q1, q2, q3, f0, f1, f2, f3⟩ := res_facts HG.out hb2
  obtain ⟨r0, r1, r2, r3⟩ := res_cells HX.out (.slice A2 n c2) (.int .u32 fu) (.int .u32 tw) (.int .i64 fl)
  have HR2 := Aside0.mk hR2
  have HH : Aside0 (w.heap.size < w1.heap.size) := ⟨blk_lt HG.out⟩
  clear hR2 hb2
  go_wp2
  refine bodyPost_ret (v := .tuple #[.agg #[.slice A2 n c2, .int .u32 fu, .int .u32 tw, .int .i64 fl], .bool true]) (by simp [results, Try.results21, go_sem, r0, r1, r2, r3]) rfl ⟨A2, n, c2, fu, rfl, ?_, hn, hu0, hu1, ?_⟩
  · have h := HR2.out
    have hok : (Kd.int .u8).R 5 w2 w1.heap.size (fun k => k ≠ w.heap.size) (.slice A2 n c2) (List.replicate n 0) := Kd.R_mono (Kd.R_bound h) (fun k hk e => by have := hk.2.1; have := HH.out; omega)
    have h2 := Kd.R_far (Kd.R_far (Kd.R_far (Kd.R_far (p := ⟨w.heap.size, 0, none⟩) hok (fun _ h => h) (.slice A2 n c2)) (p := ⟨w.heap.size, 1, none⟩) (fun _ h => h) (.int .u32 fu)) (p := ⟨w.heap.size, 2, none⟩) (fun _ h => h) (.int .u32 tw)) (p := ⟨w.heap.size, 3, none⟩) (fun _ h => h) (.int .i64 fl)
    have h3 := (Kd.R_reads' h2).2.2
    rw [List.length_replicate] at h3
    exact h3
  · exact ((((HB2.out).setCell (Nat.le_refl _) _).setCell (Nat.le_refl _) _).setCell (Nat.le_refl _) _).setCell (Nat.le_refl _) _

theorem zero_cell {w : World} {A : Option Addr} {n : Nat} (h : Kd.C (Kd.int .u8) w A n (List.replicate n 0)) (i : Nat) (hi : i < n) : ∃ ad, A = some ad ∧ w.cell? (ad.add i) = some (.int .u8 0) := by
  obtain ⟨ad, e, hc⟩ := C_cells h (by omega)
  exact ⟨ad, e, hc i _ (by simp [hi])⟩

set_option maxHeartbeats 2000000 in
theorem law_in (el tw pm fl : Int) (w : World) (h1 : 1 ≤ el) (h2 : el ≤ 500) (h3 : 1 ≤ pm) (h4 : pm ≤ 500) (h5 : 0 ≤ fl) (h6 : fl ≤ 2) :
    Calls Try.prog 6 #[.int .u32 el, .int .u32 tw, .int .i64 pm, .int .u8 fl] w fun e w' => e = .returned (.bool true) ∧ Below w.heap.size w w' := by
  obtain ⟨r, hr, hne⟩ := rate_facts pm h3 h4
  have hq : ∀ w, (binOp .quo 46 (.float .f64 (floatOfInt .f64 pm)) (.float .f64 4652007308841189376)).run Try.prog w = .ok (.float .f64 r) w := fun w => run_float_arith w .quo 46 .f64 _ _ _ hr
  have HC := Aside0.mk (implNew_calls el tw fl r w h1 h2 h5 (by omega) hne)
  clear hr hne
  go_enter Try.func6, Try.ntmps6
  go_wp2_with fail
  refine HC.out.mono ?_
  rintro e w1 ⟨A, n, c, fu, rfl, hC, hn, hu0, hu1, hb1⟩
  have HC1 := Aside0.mk hC
  have HB1 := Aside0.mk hb1
  have hwf : IntKind.i64.wrap fl = fl := by rw [IntKind.wrap_i64]; omega
  clear hC hb1
  go_wp2
  go_loop [70] (fun v => ∃ i : Nat, v = .int .i64 i ∧ i ≤ n) (fun v => n - (intOf v).toNat)
  case atStart => exact ⟨0, rfl, Nat.zero_le _⟩
  case round =>
    obtain ⟨i, rfl, hi⟩ := hrel
    by_cases hlt : i < n
    · obtain ⟨ad, rfl, hcell⟩ := zero_cell (Kd.C_below HC1.out (below_alloc (Below.refl w1.heap.size w1) (Obj.cells #[.slice A n c, .int .u32 fu, .int .u32 tw, .int .i64 fl] 28))) i hlt
      go_wp2
      go_round
      case rel => exact ⟨i + 1, by go_num, by omega⟩
      case measure => simp [intOf]; omega
    · go_wp2
      go_ret
      exact ⟨rfl, below_alloc HB1.out _⟩

theorem law_out (el tw pm fl : Int) (w : World) (h : el < 1 ∨ 500 < el ∨ pm < 1 ∨ 500 < pm ∨ 2 < fl) :
    Calls Try.prog 6 #[.int .u32 el, .int .u32 tw, .int .i64 pm, .int .u8 fl] w fun e w' => e = .returned (.bool true) ∧ Below w.heap.size w w' := by
  by_cases c1 : el < 1
  · go_enter Try.func6, Try.ntmps6
    go_wp2_with fail
    all_goals first | (exfalso; omega) | (go_ret; exact ⟨rfl, Below.refl _ _⟩)
  by_cases c2 : 500 < el
  · go_enter Try.func6, Try.ntmps6
    go_wp2_with fail
    all_goals first | (exfalso; omega) | (go_ret; exact ⟨rfl, Below.refl _ _⟩)
  by_cases c3 : pm < 1
  · go_enter Try.func6, Try.ntmps6
    go_wp2_with fail
    all_goals first | (exfalso; omega) | (go_ret; exact ⟨rfl, Below.refl _ _⟩)
  by_cases c4 : 500 < pm
  · go_enter Try.func6, Try.ntmps6
    go_wp2_with fail
    all_goals first | (exfalso; omega) | (go_ret; exact ⟨rfl, Below.refl _ _⟩)
  have c5 : 2 < fl := by omega
  go_enter Try.func6, Try.ntmps6
  go_wp2_with fail
  all_goals first | (exfalso; omega) | (go_ret; exact ⟨rfl, Below.refl _ _⟩)

/-- The law. -/
theorem law_calls (el tw pm fl : Int) (w : World) (h5 : 0 ≤ fl) :
    Calls Try.prog 6 #[.int .u32 el, .int .u32 tw, .int .i64 pm, .int .u8 fl] w fun e w' => e = .returned (.bool true) ∧ Below w.heap.size w w' := by
  by_cases h : el < 1 ∨ 500 < el ∨ pm < 1 ∨ 500 < pm ∨ 2 < fl
  · exact law_out el tw pm fl w h
  · exact law_in el tw pm fl w (by omega) (by omega) (by omega) (by omega) h5 (by omega)
end Go.Proofs.Ythmfbkmdhnfbnaa.PFnNew
