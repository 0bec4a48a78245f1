/-
  impl.set, walked.
-/
import Derived.Test.YtfhkkojdaejnjaaDoorFromN
import Derived.Deep.RegionHeld3
namespace Go.Proofs.YtfhkkojdaejnjaaDoor.Gcs
open Go.RowKit Go.Proofs.YtfhkkojdaejnjaaDoor.Hand Go.Proofs.YtfhkkojdaejnjaaDoor.Buf Go.Proofs.YtfhkkojdaejnjaaDoor.PFnForms Go.Proofs.YtfhkkojdaejnjaaDoorW.PrintWords Go.Proofs.YtfhkkojdaejnjaaDoorW.PrintLast Go.Proofs.YtfhkkojdaejnjaaDoorW.PrintMore

/-- The filter alone. -/
def IsSet (w : World) (n p md : Int) (D : List Int) (e : Ending) (w' : World) : Prop := ∃ f A c, e = .returned (.pointer (some ⟨f, 0, none⟩)) ∧ Flt w' f n p md A c D ∧ w.heap.size ≤ f ∧ Below w.heap.size w w'
set_option maxRecDepth 100000 in
set_option maxHeartbeats 8000000 in
theorem set_calls (p m md n : Int) (A : Option Addr) (c : Nat) (D : List Int) (w : World) (hC : Kd.C (Kd.int .u8) w A D.length D) (hc : D.length ≤ c) (h0 : 0 ≤ n) (h1 : n ≤ 60) (hp : p ≤ 32) (hcd : impl_coded.f p m = some true) (hmd : IntKind.u64.wrap (n * m) = md) (hD : D.length ≤ 2000) :
    Calls Tryd.prog 23 #[.agg #[.int .u32 n, .int .u8 p, .int .u64 m, .slice A D.length c]] w (IsSet w n p md D) := by
  have HCD : Aside0 (∀ W, Calls Tryd.prog 15 #[.int .u8 p, .int .u64 m] W fun e w' => e = .returned (.bool true) ∧ Drawn0 W w') := ⟨fun W => impl_coded.calls p m true W hcd⟩
  have HCL : Aside0 (∀ W, Below w.heap.size w W → Calls Tryd.prog 32 #[.slice A D.length c] W fun e w' => ∃ v, e = .returned v ∧ Kd.R (Kd.int .u8) 5 w' W.heap.size (fun _ => True) v D ∧ Below W.heap.size W w') := ⟨fun W hb => clone_calls A c D W (Kd.C_below hC hb) (by omega)⟩
  have HFB : Aside0 (∀ (A1 : Option Addr) (c1 : Nat) W, Kd.C (Kd.int .u8) W A1 D.length D → Calls Tryd.prog 42 #[.int .u32 n, .int .u8 p, .int .u64 m, .slice A1 D.length c1] W (IsFlt W n p md D)) := ⟨fun A1 c1 W h => fromBytes_calls n p m md A1 c1 D W hp h0 h1 hmd h (by omega)⟩
  have HB := Aside0.mk (Below.refl w.heap.size w)
  have hn60 : ¬ 60 < n := by omega
  obtain ⟨l, hl⟩ : ∃ l, l = D.length := ⟨_, rfl⟩
  have HL := Aside0.mk hl
  rw [← hl] at HCL hD ⊢
  have hl2 : ¬ (2000 : Int) < (l : Int) := by omega
  clear hl hC hc hcd hmd
  go_enter Tryd.func23, Tryd.ntmps23
  go_wp2_with (first
    | ((with_reducible refine gate_dst (N := 1) rfl ?_); refine box_event ?hg (N := 1) ?hd (cs := #[.int .u32 n, .int .u8 p, .int .u64 m, .slice A l c]) (t := 31) ?hr ?_; (case hd => rfl); (case hg => rfl); (case hr => first | (go_simp; done) | (go_simp; rfl)); intro g hg w1 hbox hb1; have HG1 := Aside0.mk hbox; have HB1 := Aside0.mk (below_step HB.out hb1); have k0 := (cell_of_blk hbox (i := 0) rfl).1; have k1 := (cell_of_blk hbox (i := 1) rfl).1; have k2 := (cell_of_blk hbox (i := 2) rfl).1; have k3 := (cell_of_blk hbox (i := 3) rfl).1; clear hg hbox hb1)
    | (go_at_call 15; (with_reducible refine (HCD.out _).mono ?_); rintro e2 w2 ⟨rfl, hd2⟩; obtain ⟨q2, h2⟩ := hd2.out; have hb2 : Below w1.heap.size w1 w2 := (by rw [h2]; apply pw_below_drewN; exact Below.refl _ _); have HB2 := Aside0.mk (below_step HB1.out hb2); have HG2 := Aside0.mk ((hb2.block _ (blk_lt HG1.out)).trans HG1.out); clear k0 k1 k2 k3; have k0 := (cell_of_blk HG2.out (i := 0) rfl).1; have k1 := (cell_of_blk HG2.out (i := 1) rfl).1; have k2 := (cell_of_blk HG2.out (i := 2) rfl).1; have k3 := (cell_of_blk HG2.out (i := 3) rfl).1; clear hb2 h2 hd2)
    | fail)
  have HBD : Aside0 (Below w.heap.size w w2.drew) := ⟨below_drew HB2.out⟩
  clear k0 k1 k2 k3
  have k0 : w2.cell? ⟨g, 0, none⟩ = some (.int .u32 n) := (cell_of_blk HG2.out (i := 0) rfl).1
  have k1 : w2.cell? ⟨g, 1, none⟩ = some (.int .u8 p) := (cell_of_blk HG2.out (i := 1) rfl).1
  have k2 : w2.cell? ⟨g, 2, none⟩ = some (.int .u64 m) := (cell_of_blk HG2.out (i := 2) rfl).1
  have k3 : w2.cell? ⟨g, 3, none⟩ = some (.slice A l c) := (cell_of_blk HG2.out (i := 3) rfl).1
  go_region_held3 (fun w' => w'.cell? ⟨g, 0, none⟩ = some (.int .u32 n) ∧ w'.cell? ⟨g, 1, none⟩ = some (.int .u8 p) ∧ w'.cell? ⟨g, 2, none⟩ = some (.int .u64 m) ∧ w'.cell? ⟨g, 3, none⟩ = some (.slice A l c))
    (first | (with_reducible exact ⟨pw_cell_below HB3.out k0, pw_cell_below HB3.out k1, pw_cell_below HB3.out k2, pw_cell_below HB3.out k3⟩) | (with_reducible exact ⟨pw_cell_below HB4.out k0, pw_cell_below HB4.out k1, pw_cell_below HB4.out k2, pw_cell_below HB4.out k3⟩) | go_keep)
    (first
    | (go_at_call 32; refine (HCL.out _ HBD.out).mono ?_; rintro e3 w3 ⟨v3, rfl, hR3, hb3⟩; obtain ⟨A3, c3, rfl⟩ := Kd.R_slice hR3; have HC3 := Aside0.mk (Kd.R_reads' hR3).2.2; have HB3w := Aside0.mk (below_step HBD.out hb3); have HB3 := Aside0.mk (below_step (below_drew (Below.refl _ _)) hb3); clear hR3 hb3)
    | (go_at_call 42; refine (HFB.out A3 c3 _ HC3.out).mono ?_; intro e4 w4 hq; unfold IsFlt at hq; obtain ⟨f, A4, c4, rfl, hF, hf, hb4⟩ := hq; have HF := Aside0.mk hF; have HFS := Aside0.mk hf; have HB4w := Aside0.mk (below_step HB3w.out hb4); have HB4 := Aside0.mk (below_step HB3.out hb4); clear hF hf hb4))
  go_wp2_with fail
  exact bodyPost_ret (results_tmp rfl _ _ _) rfl ⟨f, A4, c4, rfl, HF.out, Nat.le_trans HB3w.out.size HFS.out, HB4w.out⟩
end Go.Proofs.YtfhkkojdaejnjaaDoor.Gcs
