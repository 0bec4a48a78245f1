/-
  laws.FnForms, walked.
-/
import Derived.Test.YtfhkkojdaejnjaaDoorLawPure
namespace Go.Proofs.YtfhkkojdaejnjaaDoor.Gcs
open Go.RowKit Go.Proofs.YtfhkkojdaejnjaaDoor.Hand Go.Proofs.YtfhkkojdaejnjaaDoor.Buf Go.Proofs.YtfhkkojdaejnjaaDoor.PFnForms Go.Proofs.YtfhkkojdaejnjaaDoorW.PrintWords Go.Proofs.YtfhkkojdaejnjaaDoorW.PrintLast Go.Proofs.YtfhkkojdaejnjaaDoorW.PrintMore

/-- The guards, where one of them lets the input pass. -/
theorem forms_stop (p m : Int) (X : Array Value) (A : Option Addr) (n c : Nat) (w : World) (b1 b2 b3 : Bool)
    (H1 : ∀ w1, Below w.heap.size w w1 → Calls Tryd.prog 6 #[.slice A n c] w1 fun e w' => e = .returned (.bool b1) ∧ Below w1.heap.size w1 w')
    (H2 : ∀ w1, Below w.heap.size w w1 → Calls Tryd.prog 7 #[.int .u8 p, .int .u64 m] w1 fun e w' => e = .returned (.bool b2) ∧ Below w1.heap.size w1 w')
    (H3 : ∀ w1, Below w.heap.size w w1 → Calls Tryd.prog 8 #[.slice A n c] w1 fun e w' => e = .returned (.bool b3) ∧ Below w1.heap.size w1 w')
    (hstop : ¬ (b1 = true ∧ b2 = true ∧ 1 ≤ n ∧ b3 = true)) :
    Calls Tryd.prog 5 #[.int .u8 p, .int .u64 m, .agg X, .slice A n c] w fun e w' => e = .returned (.bool true) ∧ Below w.heap.size w w' := by
  have HB := Aside0.mk (Below.refl w.heap.size w)
  have H1 := Aside0.mk H1
  have H2 := Aside0.mk H2
  have H3 := Aside0.mk H3
  cases b1
  · clear hstop
    go_enter Tryd.func5, Tryd.ntmps5
    go_wp2_with (first
      | ((with_reducible refine gate_dst (N := 6) rfl ?_); refine box_event ?hg (N := 6) ?hd (cs := X) (t := 23) ?hr ?_; (case hd => rfl); (case hg => rfl); (case hr => first | (go_simp; done) | (go_simp; rfl)); intro gk hg w1 hbox hb1; have HB1 := Aside0.mk (below_step HB.out hb1); clear hg hbox hb1)
      | (go_at_call 6; refine (H1.out _ HB1.out).mono ?_; rintro e2 w2 ⟨rfl, hb2⟩; have HB2 := Aside0.mk (below_step HB1.out hb2); clear hb2)
      | (go_at_call 7; refine (H2.out _ HB2.out).mono ?_; rintro e3 w3 ⟨rfl, hb3⟩; have HB3 := Aside0.mk (below_step HB2.out hb3); clear hb3)
      | (go_at_call 8; refine (H3.out _ HB3.out).mono ?_; rintro e4 w4 ⟨rfl, hb4⟩; have HB4 := Aside0.mk (below_step HB3.out hb4); clear hb4)
      | fail)
    exact bodyPost_ret (results_tmp rfl _ _ _) rfl ⟨rfl, HB2.out⟩
  cases b2
  · clear hstop
    go_enter Tryd.func5, Tryd.ntmps5
    go_wp2_with (first
      | ((with_reducible refine gate_dst (N := 6) rfl ?_); refine box_event ?hg (N := 6) ?hd (cs := X) (t := 23) ?hr ?_; (case hd => rfl); (case hg => rfl); (case hr => first | (go_simp; done) | (go_simp; rfl)); intro gk hg w1 hbox hb1; have HB1 := Aside0.mk (below_step HB.out hb1); clear hg hbox hb1)
      | (go_at_call 6; refine (H1.out _ HB1.out).mono ?_; rintro e2 w2 ⟨rfl, hb2⟩; have HB2 := Aside0.mk (below_step HB1.out hb2); clear hb2)
      | (go_at_call 7; refine (H2.out _ HB2.out).mono ?_; rintro e3 w3 ⟨rfl, hb3⟩; have HB3 := Aside0.mk (below_step HB2.out hb3); clear hb3)
      | (go_at_call 8; refine (H3.out _ HB3.out).mono ?_; rintro e4 w4 ⟨rfl, hb4⟩; have HB4 := Aside0.mk (below_step HB3.out hb4); clear hb4)
      | fail)
    exact bodyPost_ret (results_tmp rfl _ _ _) rfl ⟨rfl, HB3.out⟩
  by_cases hn : n = 0
  · subst hn
    clear hstop
    go_enter Tryd.func5, Tryd.ntmps5
    go_wp2_with (first
      | ((with_reducible refine gate_dst (N := 6) rfl ?_); refine box_event ?hg (N := 6) ?hd (cs := X) (t := 23) ?hr ?_; (case hd => rfl); (case hg => rfl); (case hr => first | (go_simp; done) | (go_simp; rfl)); intro gk hg w1 hbox hb1; have HB1 := Aside0.mk (below_step HB.out hb1); clear hg hbox hb1)
      | (go_at_call 6; refine (H1.out _ HB1.out).mono ?_; rintro e2 w2 ⟨rfl, hb2⟩; have HB2 := Aside0.mk (below_step HB1.out hb2); clear hb2)
      | (go_at_call 7; refine (H2.out _ HB2.out).mono ?_; rintro e3 w3 ⟨rfl, hb3⟩; have HB3 := Aside0.mk (below_step HB2.out hb3); clear hb3)
      | (go_at_call 8; refine (H3.out _ HB3.out).mono ?_; rintro e4 w4 ⟨rfl, hb4⟩; have HB4 := Aside0.mk (below_step HB3.out hb4); clear hb4)
      | fail)
    exact bodyPost_ret (results_tmp rfl _ _ _) rfl ⟨rfl, HB3.out⟩
  cases b3
  · have hn1 : ¬ (n : Int) < 1 := by omega
    clear hstop
    go_enter Tryd.func5, Tryd.ntmps5
    go_wp2_with (first
      | ((with_reducible refine gate_dst (N := 6) rfl ?_); refine box_event ?hg (N := 6) ?hd (cs := X) (t := 23) ?hr ?_; (case hd => rfl); (case hg => rfl); (case hr => first | (go_simp; done) | (go_simp; rfl)); intro gk hg w1 hbox hb1; have HB1 := Aside0.mk (below_step HB.out hb1); clear hg hbox hb1)
      | (go_at_call 6; refine (H1.out _ HB1.out).mono ?_; rintro e2 w2 ⟨rfl, hb2⟩; have HB2 := Aside0.mk (below_step HB1.out hb2); clear hb2)
      | (go_at_call 7; refine (H2.out _ HB2.out).mono ?_; rintro e3 w3 ⟨rfl, hb3⟩; have HB3 := Aside0.mk (below_step HB2.out hb3); clear hb3)
      | (go_at_call 8; refine (H3.out _ HB3.out).mono ?_; rintro e4 w4 ⟨rfl, hb4⟩; have HB4 := Aside0.mk (below_step HB3.out hb4); clear hb4)
      | fail)
    exact bodyPost_ret (results_tmp rfl _ _ _) rfl ⟨rfl, HB4.out⟩
  exact absurd ⟨rfl, rfl, Nat.pos_of_ne_zero hn, rfl⟩ hstop
end Go.Proofs.YtfhkkojdaejnjaaDoor.Gcs
