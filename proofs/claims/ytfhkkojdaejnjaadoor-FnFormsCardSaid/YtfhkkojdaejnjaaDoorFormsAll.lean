/-
  impl.Forms, walked.
-/
import Derived.Test.YtfhkkojdaejnjaaDoorSetWalk
import Derived.Test.YtfhkkojdaejnjaaDoorFormNP
namespace Go.Proofs.YtfhkkojdaejnjaaDoor.Gcs
open Go.RowKit Go.Proofs.YtfhkkojdaejnjaaDoor.Hand Go.Proofs.YtfhkkojdaejnjaaDoor.Buf Go.Proofs.YtfhkkojdaejnjaaDoor.PFnForms Go.Proofs.YtfhkkojdaejnjaaDoorW.PrintWords Go.Proofs.YtfhkkojdaejnjaaDoorW.PrintLast Go.Proofs.YtfhkkojdaejnjaaDoorW.PrintMore

theorem results_tmp5 {fn : Func} {a b c d e : Tmp} (h : fn.results = #[.tmp a, .tmp b, .tmp c, .tmp d, .tmp e]) (tmps : Array Value) (P : Program) (w : World) :
    (results fn tmps).run P w = .ok (.tuple #[tmps.getD a undef, tmps.getD b undef, tmps.getD c undef, tmps.getD d undef, tmps.getD e undef]) w := by
  simp [results, h]
/-- The four forms. -/
def IsForms (w : World) (n p : Int) (D : List Int) (e : Ending) (w' : World) : Prop :=
  ∃ A1 c1 A2 c2 A3 c3 A4 c4, e = .returned (.tuple #[.slice A1 D.length c1, .slice A2 (n :: D).length c2, .slice A3 (p :: D).length c3, .slice A4 (n :: p :: D).length c4, .bool true]) ∧
    Kd.C (Kd.int .u8) w' A1 D.length D ∧ Kd.C (Kd.int .u8) w' A2 (n :: D).length (n :: D) ∧ Kd.C (Kd.int .u8) w' A3 (p :: D).length (p :: D) ∧ Kd.C (Kd.int .u8) w' A4 (n :: p :: D).length (n :: p :: D) ∧ Below w.heap.size w w'
set_option maxRecDepth 100000 in
set_option maxHeartbeats 8000000 in
theorem forms_calls (p m md n : Int) (A : Option Addr) (c : Nat) (D : List Int) (w : World) (hC : Kd.C (Kd.int .u8) w A D.length D) (hc : D.length ≤ c) (h0 : 0 ≤ n) (h1 : n ≤ 60) (hp : p ≤ 32) (hcd : impl_coded.f p m = some true) (hmd : IntKind.u64.wrap (n * m) = md) (hD : D.length ≤ 2000) (hpos : 0 < D.length) :
    Calls Tryd.prog 13 #[.agg #[.int .u32 n, .int .u8 p, .int .u64 m, .slice A D.length c]] w (IsForms w n p D) := by
  have HST : Aside0 (∀ W, Below w.heap.size w W → Calls Tryd.prog 23 #[.agg #[.int .u32 n, .int .u8 p, .int .u64 m, .slice A D.length c]] W (IsSet W n p md D)) := ⟨fun W hb => set_calls p m md n A c D W (Kd.C_below hC hb) hc h0 h1 hp hcd hmd hD⟩
  have H1 : Aside0 (∀ f A1 c1 W, Flt W f n p md A1 c1 D → Calls Tryd.prog 18 #[.pointer (some ⟨f, 0, none⟩)] W (IsCopy W D)) := ⟨fun f A1 c1 W h => bytes_calls f n p md A1 c1 D W h (by omega)⟩
  have H2 : Aside0 (∀ f A1 c1 W, Flt W f n p md A1 c1 D → Calls Tryd.prog 28 #[.pointer (some ⟨f, 0, none⟩)] W (IsRow W (n :: D))) := ⟨fun f A1 c1 W h => nbytes_calls f n p md A1 c1 D W h (by omega) h0 (by omega)⟩
  have H3 : Aside0 (∀ f A1 c1 W, Flt W f n p md A1 c1 D → Calls Tryd.prog 29 #[.pointer (some ⟨f, 0, none⟩)] W (IsCopy W (p :: D))) := ⟨fun f A1 c1 W h => pbytes_calls f n p md A1 c1 D W h (by omega) hpos⟩
  have H4 : Aside0 (∀ f A1 c1 W, Flt W f n p md A1 c1 D → Calls Tryd.prog 30 #[.pointer (some ⟨f, 0, none⟩)] W (IsRow W (n :: p :: D))) := ⟨fun f A1 c1 W h => npbytes_calls f n p md A1 c1 D W h (by omega) h0 (by omega)⟩
  have HB := Aside0.mk (Below.refl w.heap.size w)
  have HDL := Aside0.mk hD
  obtain ⟨l, hl⟩ : ∃ l, l = D.length := ⟨_, rfl⟩
  have HL := Aside0.mk hl
  rw [← hl] at HST ⊢
  clear hl hC hc hcd hmd hD hpos
  go_enter Tryd.func13, Tryd.ntmps13
  go_wp2_with (first
    | ((with_reducible refine gate_dst (N := 1) rfl ?_); refine box_event ?hg (N := 1) ?hd (cs := #[.int .u32 n, .int .u8 p, .int .u64 m, .slice A l c]) (t := 31) ?hr ?_; (case hd => rfl); (case hg => rfl); (case hr => first | (go_simp; done) | (go_simp; rfl)); intro g hg w1 hbox hb1; have HB1 := Aside0.mk (below_step HB.out hb1); have k0 := (cell_of_blk hbox (i := 0) rfl).1; have k1 := (cell_of_blk hbox (i := 1) rfl).1; have k2 := (cell_of_blk hbox (i := 2) rfl).1; have k3 := (cell_of_blk hbox (i := 3) rfl).1; clear hg hbox hb1)
    | (go_at_call 23; refine (HST.out _ HB1.out).mono ?_; intro e2 w2 hq; unfold IsSet at hq; obtain ⟨f, A0, c0, rfl, hF, hf, hb2⟩ := hq; have HF := Aside0.mk hF; have HB2 := Aside0.mk (below_step HB1.out hb2); clear hF hf hb2 k0 k1 k2 k3)
    | (go_at_call 18; refine (H1.out f A0 c0 _ HF.out).mono ?_; intro e3 w3 hq; unfold IsCopy at hq; obtain ⟨g1, rfl, hg1, hge, hb3⟩ := hq; have HC1 := Aside0.mk (C_by8 hg1 (by have := HDL.out; omega)); have HF3 := Aside0.mk (HF.out.below hb3); have HB3 := Aside0.mk (below_step HB2.out hb3); clear hg1 hge hb3)
    | (go_at_call 28; refine (H2.out f A0 c0 _ HF3.out).mono ?_; intro e4 w4 hq; unfold IsRow at hq; obtain ⟨v4, rfl, hR4, hb4⟩ := hq; obtain ⟨A4, c4, rfl⟩ := Kd.R_slice hR4; have HC1' := Aside0.mk (Kd.C_below HC1.out hb4); have HC2 := Aside0.mk (Kd.R_reads' hR4).2.2; have HF4 := Aside0.mk (HF3.out.below hb4); have HB4 := Aside0.mk (below_step HB3.out hb4); clear hR4 hb4)
    | (go_at_call 29; refine (H3.out f A0 c0 _ HF4.out).mono ?_; intro e5 w5 hq; unfold IsCopy at hq; obtain ⟨g5, rfl, hg5, hge, hb5⟩ := hq; have HC3 := Aside0.mk (C_by8 hg5 (by have := HDL.out; simp only [List.length_cons]; omega)); have HF5 := Aside0.mk (HF4.out.below hb5); have HB5 := Aside0.mk (below_step HB4.out hb5); have HC1'' := Aside0.mk (Kd.C_below HC1'.out hb5); have HC2' := Aside0.mk (Kd.C_below HC2.out hb5); clear hg5 hge hb5)
    | (go_at_call 30; refine (H4.out f A0 c0 _ HF5.out).mono ?_; intro e6 w6 hq; unfold IsRow at hq; obtain ⟨v6, rfl, hR6, hb6⟩ := hq; obtain ⟨A6, c6, rfl⟩ := Kd.R_slice hR6; have HC4 := Aside0.mk (Kd.R_reads' hR6).2.2; have HB6 := Aside0.mk (below_step HB5.out hb6); have HD1 := Aside0.mk (Kd.C_below HC1''.out hb6); have HD2 := Aside0.mk (Kd.C_below HC2'.out hb6); have HD3 := Aside0.mk (Kd.C_below HC3.out hb6); clear hR6 hb6)
    | fail)
  refine bodyPost_ret (results_tmp5 rfl _ _ _) rfl ?_
  exact ⟨_, _, _, _, _, _, _, _, rfl, HD1.out, HD2.out, HD3.out, HC4.out, HB6.out⟩
end Go.Proofs.YtfhkkojdaejnjaaDoor.Gcs
