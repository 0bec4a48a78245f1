/-
  A filter's bytes behind P.
  zzReadVarInt of a number below 253.
  gcs.FromNBytes, walked.
  impl.set, walked.
-/
import Derived.Test.YtfhkkojdaejnjaaDoorJB
import Derived.Deep.RegionLaw
import Derived.Deep.RegionHeld3
set_option linter.unusedVariables false
namespace Go.Proofs.YtfhkkojdaejnjaaDoor.Gcs
open Go.RowKit Go.Proofs.YtfhkkojdaejnjaaDoor.Hand Go.Proofs.YtfhkkojdaejnjaaDoor.Buf Go.Proofs.YtfhkkojdaejnjaaDoor.PFnForms Go.Proofs.YtfhkkojdaejnjaaDoorW.PrintWords Go.Proofs.YtfhkkojdaejnjaaDoorW.PrintLast Go.Proofs.YtfhkkojdaejnjaaDoorW.PrintMore

section
variable {ops : Array Oper} {rest : List Oper} {o : Oper} {a : Act} {Q : Exit → Act → World → Prop} {W : World}
theorem st_run5 {p : Tmp} {v : Operand} (ho : o.op = .store 5 (.tmp p) v) {g i : Nat} {x z : Int} (hp : a.eval (.tmp p) = .pointer (some ⟨g, i, none⟩)) (hv : a.eval v = .int .u8 x) (hc : W.cell? ⟨g, i, none⟩ = some (.int .u8 z)) (hf : W.frozen? ⟨g, i, none⟩ = false) :
    (execOp a.eval o).run Tryd.prog W = .ok .skip (W.setCell ⟨g, i, none⟩ (.int .u8 x)) := by
  unfold execOp
  rw [ho]
  simp only [hp, hv]
  simp [go_sem, hc, hf]
theorem blk_store5 (hgd : o.guard = none) {p : Tmp} {v : Operand} (ho : o.op = .store 5 (.tmp p) v) (hN : o.dst = none) {g i : Nat} {B : Nat} {w0 : World} {y z : Int} {cs : Array Value} {T : TypeId} (hb : W.heap[g]? = some (.cells cs T (0, 0))) (hi : cs[i]? = some (.int .u8 z)) (hB : Below B w0 W) (hg : B ≤ g)
    (hp : a.eval (.tmp p) = .pointer (some ⟨g, i, none⟩)) (hv : a.eval v = .int .u8 y)
    (h : ∀ w1, w1.heap[g]? = some (.cells (cs.setIfInBounds i (.int .u8 y)) T (0, 0)) → Below B w0 w1 → (∀ k, k ≠ g → w1.heap[k]? = W.heap[k]?) → wpList Tryd.prog ops Q rest a w1) : wpList Tryd.prog ops Q (o :: rest) a W :=
  store_event hgd ho hN (st_run5 ho hp hv (cell_of_blk hb hi).1 (cell_of_blk hb hi).2) fun w1 e => h w1 (by subst e; exact bx_set hb) (by subst e; exact hB.setCell hg _) (by subst e; exact fun k hk => Below.heap_setCell W _ _ k hk)
end
theorem splice_p (p : Int) (D : List Int) : splice (Value.int .u8 p :: List.replicate D.length (Value.int .u8 0)) 1 (D.map (Value.int .u8)) = (p :: D).map (Value.int .u8) := by
  unfold splice
  simp
  omega
set_option maxRecDepth 100000 in
set_option maxHeartbeats 8000000 in
theorem pbytes_calls (f : Nat) (n p md : Int) (A : Option Addr) (c : Nat) (D : List Int) (w : World) (hF : Flt w f n p md A c D) (hD : D.length ≤ 1000000) (hpos : 0 < D.length) : Calls Tryd.prog 29 #[.pointer (some ⟨f, 0, none⟩)] w (IsCopy w (p :: D)) := by
  obtain ⟨k0, k1, k2, k3⟩ := hF.cells
  have HF := Aside0.mk hF
  clear hF k0 k2
  obtain ⟨i0, hi, hz0, hz1, hz2⟩ := info_parts info5
  have HII := Aside0.mk (And.intro hi (And.intro hz0 (And.intro hz1 hz2)))
  clear hi hz0 hz1 hz2
  obtain ⟨l, hl⟩ : ∃ l, l = D.length := ⟨_, rfl⟩
  have HL := Aside0.mk hl
  rw [← hl] at hD hpos k3
  have hl0 : ¬ l = 0 := by omega
  have hle : (1 : Int) ≤ (l : Int) + 1 := by omega
  clear hl
  go_enter Tryd.func29, Tryd.ntmps29
  go_wp2_with (first
    | (at_make; refine wpList_make_full w rfl _ _ 29 rfl w.heap.size 5 i0 (.int .u8 0) 1 Tryd.underlying29 HII.out.1 HII.out.2.1 HII.out.2.2.1 .i64 .i64 _ _ (l + 1) rfl rfl (by omega) (by omega) (by rw [HII.out.2.2.2]; omega) (by unfold maxLen; omega) (Nat.le_refl _) ?_; intro w1 hown hgrow; have ho := (own_full hown).1; rw [made_zeros, List.replicate_succ] at ho; have HO := Aside0.mk ho; have HB1 := Aside0.mk ((Below.refl w.heap.size w).grown hgrow (Nat.le_refl _) (fun _ h => by cases h)); have HF1 := Aside0.mk (HF.out.below HB1.out); have k4 := HF1.out.cells.2.1; clear hown hgrow k3 k1 ho)
    | ((with_reducible refine gate_store (t := 5) (p := 17) rfl ?_); refine blk_store5 rfl rfl rfl (i := 0) (z := 0) HO.out rfl HB1.out (Nat.le_refl _) rfl rfl ?_; intro w2 hF hB hK; have HO2 : Aside0 (w2.heap[w.heap.size]? = some (.cells (Value.int .u8 p :: List.replicate l (Value.int .u8 0)).toArray 5 (0, 0))) := ⟨hF⟩; have HB2 := Aside0.mk hB; have HF2 := Aside0.mk (HF.out.below HB2.out); have k5 := HF2.out.cells.2.2.2; rw [← HL.out] at k5; clear hF hB hK k4)
    | fail)
  obtain ⟨g, hg⟩ : ∃ g, g = w.heap.size := ⟨_, rfl⟩
  have HGE := Aside0.mk hg
  rw [← hg] at HO2 ⊢
  clear hg
  go_region_law (refine step_copy_splice rfl (.tmp 19) (.tmp 23) 29 29 rfl 5 Tryd.underlying29 size5 (some ⟨g, 1, none⟩) A l l l c (by simp [Act.eval]) (by simp [Act.eval]) g 1 (Value.int .u8 p :: List.replicate l (Value.int .u8 0)) 5 HO2.out (D.map (Value.int .u8)) (by simp [HL.out]) (fun hp => ⟨rfl, by obtain ⟨ad, e, hc⟩ := C_cells HF2.out.C (by simpa using hp); exact ⟨ad, e, hc⟩⟩) (by simp [HL.out]; omega) (ints_one _ _) w.heap.size w (below_drew HB2.out) (Nat.le_of_eq HGE.out.symm) ?_; intro w3 hg3 hb3; have HS3 := Aside0.mk hg3.out; have HB3 := Aside0.mk hb3; clear hg3 hb3)
  all_goals
    go_wp2_with fail
    refine bodyPost_ret (results_tmp2 rfl _ _ _) rfl ⟨g, by rw [List.length_cons, ← HL.out]; rfl, ?_, Nat.le_of_eq HGE.out.symm, HB3.out⟩
    have h := HS3.out
    rw [HL.out, splice_p] at h
    exact h
end Go.Proofs.YtfhkkojdaejnjaaDoor.Gcs
namespace Go.Proofs.YtfhkkojdaejnjaaDoor.Gcs
open Go.RowKit Go.Proofs.YtfhkkojdaejnjaaDoor.Hand Go.Proofs.YtfhkkojdaejnjaaDoor.Buf Go.Proofs.YtfhkkojdaejnjaaDoor.PFnForms Go.Proofs.YtfhkkojdaejnjaaDoorW.PrintWords Go.Proofs.YtfhkkojdaejnjaaDoorW.PrintLast Go.Proofs.YtfhkkojdaejnjaaDoorW.PrintMore

def IsRead (w : World) (n0 : Int) (ad : Addr) (l c : Nat) (e : Ending) (w' : World) : Prop :=
  e = .returned (.tuple #[.int .u64 n0, .slice (some (ad.add 1)) l (c - 1), .nilIface]) ∧ ∃ q, w' = w.drewN q
set_option maxRecDepth 100000 in
set_option maxHeartbeats 8000000 in
theorem readvar_calls (ad : Addr) (l c : Nat) (n0 : Int) (w : World) (k0 : w.cell? ad = some (.int .u8 n0)) (h0 : 0 ≤ n0) (h1 : n0 < 253) (hl : l ≤ 1000000) (hl1 : 1 ≤ l) (hc : l + 1 ≤ c) :
    Calls Tryd.prog 46 #[.slice (some ad) (l + 1) c] w (IsRead w n0 ad l c) := by
  have e1 : ¬ n0 = 253 := by omega
  have e2 : ¬ n0 = 254 := by omega
  have e3 : ¬ n0 = 255 := by omega
  have b1 : (n0 == 253) = false := beq_eq_false_iff_ne.2 e1
  have b2 : (n0 == 254) = false := beq_eq_false_iff_ne.2 e2
  have b3 : (n0 == 255) = false := beq_eq_false_iff_ne.2 e3
  have c1 : ¬ ((l : Int) + 1 = 0) := by omega
  have b4 : (((l : Int) + 1) == 0) = false := beq_eq_false_iff_ne.2 c1
  have c2 : ¬ ((l : Int) + 1 < 1) := by omega
  have c3 : (1 : Int) ≤ (l : Int) + 1 := by omega
  have hc1 : ¬ c = 1 := by omega
  have hn : IntKind.u64.wrap n0 = n0 := wrap_id h0 (by omega)
  go_enter Tryd.func46, Tryd.ntmps46
  go_wp2_with fail
  go_quiet (fail)
  go_wp2_with fail
  refine bodyPost_ret (results_tmp3 rfl _ _ _) rfl ⟨?_, _, rfl⟩
  first | rfl | (unfold Addr.add; rfl) | (simp [Addr.add]; done)
end Go.Proofs.YtfhkkojdaejnjaaDoor.Gcs
namespace Go.Proofs.YtfhkkojdaejnjaaDoor.Gcs
open Go.RowKit Go.Proofs.YtfhkkojdaejnjaaDoor.Hand Go.Proofs.YtfhkkojdaejnjaaDoor.Buf Go.Proofs.YtfhkkojdaejnjaaDoor.PFnForms Go.Proofs.YtfhkkojdaejnjaaDoorW.PrintWords Go.Proofs.YtfhkkojdaejnjaaDoorW.PrintLast Go.Proofs.YtfhkkojdaejnjaaDoorW.PrintMore

set_option maxRecDepth 100000 in
set_option maxHeartbeats 8000000 in
theorem fromNB_calls (p m md n0 : Int) (A : Option Addr) (c : Nat) (D : List Int) (w : World) (hC : Kd.C (Kd.int .u8) w A (n0 :: D).length (n0 :: D)) (hc : D.length + 1 ≤ c) (h0 : 0 ≤ n0) (h1 : n0 ≤ 60) (hp : p ≤ 32) (hmd : IntKind.u64.wrap (n0 * m) = md) (hD : D.length ≤ 1000000) (hpos : 1 ≤ D.length) :
    Calls Tryd.prog 31 #[.int .u8 p, .int .u64 m, .slice A (D.length + 1) c] w (IsFlt w n0 p md D) := by
  obtain ⟨ad, rfl, hcell⟩ := C_cells hC (by simp)
  have k0 : w.cell? ad = some (.int .u8 n0) := by have := hcell 0 (.int .u8 n0) rfl; rwa [Addr.add_zero'] at this
  have hCD := Kd.C_drop (k := Kd.int .u8) hC (m := 1) (c := c) (by simp) (by simpa using hc)
  rw [if_neg (by omega)] at hCD
  have HRV : Aside0 (Calls Tryd.prog 46 #[.slice (some ad) (D.length + 1) c] w (IsRead w n0 ad D.length c)) := ⟨readvar_calls ad D.length c n0 w k0 h0 (by omega) hD hpos hc⟩
  have HFB : Aside0 (∀ q, Calls Tryd.prog 42 #[.int .u32 n0, .int .u8 p, .int .u64 m, .slice (some (ad.add 1)) D.length (c - 1)] (w.drewN q) (IsFlt (w.drewN q) n0 p md D)) := ⟨fun q => fromBytes_calls n0 p m md (some (ad.add 1)) (c - 1) D (w.drewN q) hp h0 h1 hmd (Kd.C_drewN hCD q) hD⟩
  have e1 : ¬ (4294967296 ≤ n0) := by omega
  have e2 : IntKind.u32.wrap n0 = n0 := by rw [IntKind.wrap_u32]; omega
  have e3 : n0 % 4294967296 = n0 := by omega
  clear hC hcell hCD k0 hmd
  obtain ⟨l, hl⟩ : ∃ l, l = D.length := ⟨_, rfl⟩
  rw [← hl] at HRV HFB ⊢
  clear hl hD hpos hc
  go_enter Tryd.func31, Tryd.ntmps31
  go_wp2_with (first
    | (go_at_call 46; (with_reducible refine HRV.out.mono ?_); rintro e w1 hq; unfold IsRead at hq; obtain ⟨rfl, q, rfl⟩ := hq)
    | (go_at_call 42; refine (HFB.out _).mono ?_; rintro e w2 hq; unfold IsFlt at hq; obtain ⟨f, A2, c2, rfl, hF, hf, hb⟩ := hq; have HF := Aside0.mk hF; have HFS := Aside0.mk hf; have HB := Aside0.mk hb; clear hF hf hb)
    | fail)
  refine bodyPost_ret (results_tmp2 rfl _ _ _) rfl ⟨f, A2, c2, rfl, HF.out, HFS.out, ?_⟩
  exact below_step (by apply pw_below_drewN; exact Below.refl _ _) HB.out
end Go.Proofs.YtfhkkojdaejnjaaDoor.Gcs
namespace Go.Proofs.YtfhkkojdaejnjaaDoor.Gcs
open Go.RowKit Go.Proofs.YtfhkkojdaejnjaaDoor.Hand Go.Proofs.YtfhkkojdaejnjaaDoor.Buf Go.Proofs.YtfhkkojdaejnjaaDoor.PFnForms Go.Proofs.YtfhkkojdaejnjaaDoorW.PrintWords Go.Proofs.YtfhkkojdaejnjaaDoorW.PrintLast Go.Proofs.YtfhkkojdaejnjaaDoorW.PrintMore

/-- The filter alone. -/
def IsSet (w : World) (n p md : Int) (D : List Int) (e : Ending) (w' : World) : Prop := ∃ f A c, e = .returned (.pointer (some ⟨f, 0, none⟩)) ∧ Flt w' f n p md A c D ∧ w.heap.size ≤ f ∧ Below w.heap.size w w'
set_option maxRecDepth 100000 in
set_option maxHeartbeats 8000000 in
theorem set_calls (p m md n : Int) (A : Option Addr) (c : Nat) (D : List Int) (w : World) (hC : Kd.C (Kd.int .u8) w A D.length D) (hc : D.length ≤ c) (h0 : 0 ≤ n) (h1 : n ≤ 60) (hp : p ≤ 32) (hcd : impl_coded.f p m = some true) (hmd : IntKind.u64.wrap (n * m) = md) (hD : D.length ≤ 2000) :
    Calls Tryd.prog 23 #[.agg #[.int .u32 n, .int .u8 p, .int .u64 m, .slice A D.length c]] w (IsSet w n p md D) := by
  have HCD : Aside0 (∀ W, Calls Tryd.prog 15 #[.int .u8 p, .int .u64 m] W fun e w' => e = .returned (.bool true) ∧ Drawn0 W w') := ⟨fun W => impl_coded.calls p m true W hcd⟩
  have HCL : Aside0 (∀ W, Below w.heap.size w W → Calls Tryd.prog 32 #[.slice A D.length c] W fun e w' => ∃ v, e = .returned v ∧ Kd.R (Kd.int .u8) 5 w' W.heap.size (fun _ => True) v D ∧ Below W.heap.size W w') := ⟨fun W hb => clone_calls A c D W (Kd.C_below hC hb) (by omega)⟩
  have HFB : Aside0 (∀ (A1 : Option Addr) (c1 : Nat) W, Kd.C (Kd.int .u8) W A1 D.length D → Calls Tryd.prog 42 #[.int .u32 n, .int .u8 p, .int .u64 m, .slice A1 D.length c1] W (IsFlt W n p md D)) := ⟨fun A1 c1 W h => fromBytes_calls n p m md A1 c1 D W hp h0 h1 hmd h (by omega)⟩
  have HB := Aside0.mk (Below.refl w.heap.size w)
  have hn60 : ¬ 60 < n := by omega
  obtain ⟨l, hl⟩ : ∃ l, l = D.length := ⟨_, rfl⟩
  have HL := Aside0.mk hl
  rw [← hl] at HCL hD ⊢
  have hl2 : ¬ (2000 : Int) < (l : Int) := by omega
  clear hl hC hc hcd hmd
  go_enter Tryd.func23, Tryd.ntmps23
  go_wp2_with (first
    | ((with_reducible refine gate_dst (N := 1) rfl ?_); refine box_event ?hg (N := 1) ?hd (cs := #[.int .u32 n, .int .u8 p, .int .u64 m, .slice A l c]) (t := 31) ?hr ?_; (case hd => rfl); (case hg => rfl); (case hr => first | (go_simp; done) | (go_simp; rfl)); intro g hg w1 hbox hb1; have HG1 := Aside0.mk hbox; have HB1 := Aside0.mk (below_step HB.out hb1); have k0 := (cell_of_blk hbox (i := 0) rfl).1; have k1 := (cell_of_blk hbox (i := 1) rfl).1; have k2 := (cell_of_blk hbox (i := 2) rfl).1; have k3 := (cell_of_blk hbox (i := 3) rfl).1; clear hg hbox hb1)
    | (go_at_call 15; (with_reducible refine (HCD.out _).mono ?_); rintro e2 w2 ⟨rfl, hd2⟩; obtain ⟨q2, h2⟩ := hd2.out; have hb2 : Below w1.heap.size w1 w2 := (by rw [h2]; apply pw_below_drewN; exact Below.refl _ _); have HB2 := Aside0.mk (below_step HB1.out hb2); have HG2 := Aside0.mk ((hb2.block _ (blk_lt HG1.out)).trans HG1.out); clear k0 k1 k2 k3; have k0 := (cell_of_blk HG2.out (i := 0) rfl).1; have k1 := (cell_of_blk HG2.out (i := 1) rfl).1; have k2 := (cell_of_blk HG2.out (i := 2) rfl).1; have k3 := (cell_of_blk HG2.out (i := 3) rfl).1; clear hb2 h2 hd2)
    | fail)
  have HBD : Aside0 (Below w.heap.size w w2.drew) := ⟨below_drew HB2.out⟩
  clear k0 k1 k2 k3
  have k0 : w2.cell? ⟨g, 0, none⟩ = some (.int .u32 n) := (cell_of_blk HG2.out (i := 0) rfl).1
  have k1 : w2.cell? ⟨g, 1, none⟩ = some (.int .u8 p) := (cell_of_blk HG2.out (i := 1) rfl).1
  have k2 : w2.cell? ⟨g, 2, none⟩ = some (.int .u64 m) := (cell_of_blk HG2.out (i := 2) rfl).1
  have k3 : w2.cell? ⟨g, 3, none⟩ = some (.slice A l c) := (cell_of_blk HG2.out (i := 3) rfl).1
  go_region_held3 (fun w' => w'.cell? ⟨g, 0, none⟩ = some (.int .u32 n) ∧ w'.cell? ⟨g, 1, none⟩ = some (.int .u8 p) ∧ w'.cell? ⟨g, 2, none⟩ = some (.int .u64 m) ∧ w'.cell? ⟨g, 3, none⟩ = some (.slice A l c))
    (first | (with_reducible exact ⟨pw_cell_below HB3.out k0, pw_cell_below HB3.out k1, pw_cell_below HB3.out k2, pw_cell_below HB3.out k3⟩) | (with_reducible exact ⟨pw_cell_below HB4.out k0, pw_cell_below HB4.out k1, pw_cell_below HB4.out k2, pw_cell_below HB4.out k3⟩) | go_keep)
    (first
    | (go_at_call 32; refine (HCL.out _ HBD.out).mono ?_; rintro e3 w3 ⟨v3, rfl, hR3, hb3⟩; obtain ⟨A3, c3, rfl⟩ := Kd.R_slice hR3; have HC3 := Aside0.mk (Kd.R_reads' hR3).2.2; have HB3w := Aside0.mk (below_step HBD.out hb3); have HB3 := Aside0.mk (below_step (below_drew (Below.refl _ _)) hb3); clear hR3 hb3)
    | (go_at_call 42; refine (HFB.out A3 c3 _ HC3.out).mono ?_; intro e4 w4 hq; unfold IsFlt at hq; obtain ⟨f, A4, c4, rfl, hF, hf, hb4⟩ := hq; have HF := Aside0.mk hF; have HFS := Aside0.mk hf; have HB4w := Aside0.mk (below_step HB3w.out hb4); have HB4 := Aside0.mk (below_step HB3.out hb4); clear hF hf hb4))
  go_wp2_with fail
  exact bodyPost_ret (results_tmp rfl _ _ _) rfl ⟨f, A4, c4, rfl, HF.out, Nat.le_trans HB3w.out.size HFS.out, HB4w.out⟩
end Go.Proofs.YtfhkkojdaejnjaaDoor.Gcs
