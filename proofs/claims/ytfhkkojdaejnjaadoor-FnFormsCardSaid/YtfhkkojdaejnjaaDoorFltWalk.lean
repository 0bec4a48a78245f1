/-
  A filter in its block; its bytes, its numbers.
-/
import Derived.Test.YtfhkkojdaejnjaaDoorCodedWalk
namespace Go.Proofs.YtfhkkojdaejnjaaDoor.Gcs
open Go.RowKit Go.Proofs.YtfhkkojdaejnjaaDoor.Hand Go.Proofs.YtfhkkojdaejnjaaDoor.Buf Go.Proofs.YtfhkkojdaejnjaaDoor.PFnForms Go.Proofs.YtfhkkojdaejnjaaDoorW.PrintWords Go.Proofs.YtfhkkojdaejnjaaDoorW.PrintLast Go.Proofs.YtfhkkojdaejnjaaDoorW.PrintMore

/-- Bytes as cells. -/
def by8 (D : List Int) : Obj := .cells (D.map (Value.int .u8)).toArray 5 (0, 0)
def fltO (n p md : Int) (A : Option Addr) (l c : Nat) : Obj := .cells #[.int .u32 n, .int .u8 p, .int .u64 md, .slice A l c] 62 (0, 0)
structure Flt (w : World) (g : Nat) (n p md : Int) (A : Option Addr) (c : Nat) (D : List Int) : Prop where
  blk : w.heap[g]? = some (fltO n p md A D.length c)
  C : Kd.C (Kd.int .u8) w A D.length D
  cap : D.length ≤ c
theorem Flt.below {w w1 : World} {g : Nat} {n p md : Int} {A : Option Addr} {c : Nat} {D : List Int} (h : Flt w g n p md A c D) (hb : Below w.heap.size w w1) : Flt w1 g n p md A c D :=
  ⟨(hb.block g (blk_lt h.blk)).trans h.blk, Kd.C_below h.C hb, h.cap⟩
theorem Flt.cells {w : World} {g : Nat} {n p md : Int} {A : Option Addr} {c : Nat} {D : List Int} (h : Flt w g n p md A c D) :
    w.cell? ⟨g, 0, none⟩ = some (.int .u32 n) ∧ w.cell? ⟨g, 1, none⟩ = some (.int .u8 p) ∧ w.cell? ⟨g, 2, none⟩ = some (.int .u64 md) ∧ w.cell? ⟨g, 3, none⟩ = some (.slice A D.length c) := by
  have hb : w.heap[g]? = some (.cells #[.int .u32 n, .int .u8 p, .int .u64 md, .slice A D.length c] 62 (0, 0)) := h.blk
  exact ⟨by rw [blk_cell hb]; rfl, by rw [blk_cell hb]; rfl, by rw [blk_cell hb]; rfl, by rw [blk_cell hb]; rfl⟩
theorem size5 : (Tryd.prog.info? 5).map (·.size) = some 1 := by kernel_rfl
theorem clone_calls (A : Option Addr) (c : Nat) (b : List Int) (w : World) (hC : Kd.C (Kd.int .u8) w A b.length b) (hb : b.length ≤ 1000000) :
    Calls Tryd.prog 32 #[.slice A b.length c] w fun e w' => ∃ v, e = .returned v ∧ Kd.R (Kd.int .u8) 5 w' w.heap.size (fun _ => True) v b ∧ Below w.heap.size w w' := by
  have HC := Aside0.mk hC
  have HB := Aside0.mk (Below.refl w.heap.size w)
  clear hC
  go_enter Tryd.func32, Tryd.ntmps32
  go_wp2_with (first | (refine Kd.R_append_row (h1 := fun _ => rfl) (w0 := w) (Value.int .u8) (0 : Int) w.heap.size rfl _ _ 29 5 (.int .u8 0) 1 rfl Tryd.underlying29 info5 rfl (by decide) (.slice none 0 0) [] b A b.length c (fun _ => True) rfl rfl (fun _ _ => trivial) (Kd.R_nil _ _ _ _ _) HC.out HB.out (Nat.le_refl _) (by simp; omega) ?_; intro v1 w1 hR hB1 _ _) | fail)
  go_ret
  exact ⟨_, rfl, by rw [List.nil_append] at hR; exact hR, hB1⟩
theorem varint_calls (n : Int) (w : World) (h0 : 0 ≤ n) (h1 : n < 253) : Calls Tryd.prog 45 #[.int .u64 n] w fun e w' => e = .returned (.slice (some ⟨w.heap.size, 0, none⟩) 1 1) ∧ w' = w.alloc (.cells #[.int .u8 n] 5) := by
  have e : n % 256 = n := by omega
  go_enter Tryd.func45, Tryd.ntmps45
  go_wp2
  go_ret
  exact ⟨rfl, rfl⟩
theorem N_calls (g : Nat) (n p md : Int) (A : Option Addr) (c : Nat) (D : List Int) (w : World) (hF : Flt w g n p md A c D) : Calls Tryd.prog 19 #[.pointer (some ⟨g, 0, none⟩)] w fun e w' => e = .returned (.int .u32 n) ∧ w' = w := by
  obtain ⟨k0, k1, k2, k3⟩ := hF.cells
  clear hF
  go_enter Tryd.func19, Tryd.ntmps19
  go_wp2
  go_ret
  exact ⟨rfl, rfl⟩
theorem P_calls (g : Nat) (n p md : Int) (A : Option Addr) (c : Nat) (D : List Int) (w : World) (hF : Flt w g n p md A c D) : Calls Tryd.prog 20 #[.pointer (some ⟨g, 0, none⟩)] w fun e w' => e = .returned (.int .u8 p) ∧ w' = w := by
  obtain ⟨k0, k1, k2, k3⟩ := hF.cells
  clear hF
  go_enter Tryd.func20, Tryd.ntmps20
  go_wp2
  go_ret
  exact ⟨rfl, rfl⟩
theorem splice_all (k : IntKind) (D : List Int) : splice (List.replicate D.length (Value.int k 0)) 0 (D.map (Value.int k)) = D.map (Value.int k) := by
  unfold splice
  simp
/-- What hands back a fresh copy. -/
def IsCopy (w : World) (D : List Int) (e : Ending) (w' : World) : Prop := ∃ g, e = .returned (.tuple #[.slice (some ⟨g, 0, none⟩) D.length D.length, .nilIface]) ∧ w'.heap[g]? = some (by8 D) ∧ w.heap.size ≤ g ∧ Below w.heap.size w w'
set_option maxHeartbeats 4000000 in
theorem bytes_calls (f : Nat) (n p md : Int) (A : Option Addr) (c : Nat) (D : List Int) (w : World) (hF : Flt w f n p md A c D) (hD : D.length ≤ 1000000) : Calls Tryd.prog 18 #[.pointer (some ⟨f, 0, none⟩)] w (IsCopy w D) := by
  obtain ⟨k0, k1, k2, k3⟩ := hF.cells
  have HF := Aside0.mk hF
  clear hF k0 k1 k2
  obtain ⟨i0, hi, hz0, hz1, hz2⟩ := info_parts info5
  have HII := Aside0.mk (And.intro hi (And.intro hz0 (And.intro hz1 hz2)))
  clear hi hz0 hz1 hz2
  obtain ⟨l, hl⟩ : ∃ l, l = D.length := ⟨_, rfl⟩
  have HL := Aside0.mk hl
  rw [← hl] at hD k3
  clear hl
  go_enter Tryd.func18, Tryd.ntmps18
  go_wp2_with (first
    | (at_make; refine wpList_make_full w rfl _ _ 29 rfl w.heap.size 5 i0 (.int .u8 0) 1 Tryd.underlying29 HII.out.1 HII.out.2.1 HII.out.2.2.1 .i64 .i64 _ _ l rfl rfl rfl rfl (by rw [HII.out.2.2.2]; omega) (by unfold maxLen; omega) (Nat.le_refl _) ?_; intro w1 hown hgrow; have HO := Aside0.mk (own_full hown).1; have HB1 := Aside0.mk ((Below.refl w.heap.size w).grown hgrow (Nat.le_refl _) (fun _ h => by cases h)); have HF1 := Aside0.mk (HF.out.below HB1.out); have k4 := HF1.out.cells.2.2.2; rw [← HL.out] at k4; clear hown hgrow k3)
    | (with_reducible refine wpList_copy_splice rfl (.tmp 11) (.tmp 15) 29 29 rfl 5 Tryd.underlying29 size5 _ _ _ _ _ _ rfl rfl w.heap.size 0 _ 5 HO.out (D.map (Value.int .u8)) (by simp [HL.out]) (fun hp => ⟨rfl, by obtain ⟨ad, e, hc⟩ := C_cells HF1.out.C (by simpa using hp); exact ⟨ad, e, hc⟩⟩) (by rw [made_zeros]; simp [HL.out]) (ints_one _ _) w.heap.size w HB1.out (Nat.le_refl _) ?_; intro w3 hsp hb3; have HSP := Aside0.mk hsp.out; have HB3 := Aside0.mk hb3; clear hsp hb3)
    | fail)
  refine bodyPost_ret (results_tmp2 rfl _ _ _) rfl ?_
  refine ⟨w.heap.size, by rw [← HL.out]; rfl, ?_, Nat.le_refl _, HB3.out⟩
  have h := HSP.out
  rw [made_zeros, HL.out, splice_all] at h
  exact h
section
variable {ops : Array Oper} {rest : List Oper} {o : Oper} {a : Act} {Q : Exit → Act → World → Prop} {W : World}
theorem cell_of_blk {w : World} {g i : Nat} {cs : Array Value} {T : TypeId} {z : Value} (hb : w.heap[g]? = some (.cells cs T (0, 0))) (hi : cs[i]? = some z) : w.cell? ⟨g, i, none⟩ = some z ∧ w.frozen? ⟨g, i, none⟩ = false := by
  rw [blk_cell hb]
  exact ⟨hi, by unfold World.frozen?; simp only [hb]; simp⟩
theorem blk_store22 (hgd : o.guard = none) {p : Tmp} {v : Operand} (ho : o.op = .store 22 (.tmp p) v) (hN : o.dst = none) {g i : Nat} {B : Nat} {w0 : World} {y z : Int} {cs : Array Value} {T : TypeId} (hb : W.heap[g]? = some (.cells cs T (0, 0))) (hi : cs[i]? = some (.int .u64 z)) (hB : Below B w0 W) (hg : B ≤ g)
    (hp : a.eval (.tmp p) = .pointer (some ⟨g, i, none⟩)) (hv : a.eval v = .int .u64 y)
    (h : ∀ w1, w1.heap[g]? = some (.cells (cs.setIfInBounds i (.int .u64 y)) T (0, 0)) → Below B w0 w1 → (∀ k, k ≠ g → w1.heap[k]? = W.heap[k]?) → wpList Tryd.prog ops Q rest a w1) : wpList Tryd.prog ops Q (o :: rest) a W :=
  store_event hgd ho hN (st_run ho hp hv (cell_of_blk hb hi).1 (cell_of_blk hb hi).2) fun w1 e => h w1 (by subst e; exact bx_set hb) (by subst e; exact hB.setCell hg _) (by subst e; exact fun k hk => Below.heap_setCell W _ _ k hk)
theorem st_run29 {p : Tmp} {v : Operand} (ho : o.op = .store 29 (.tmp p) v) {g i : Nat} {A A1 : Option Addr} {l c l1 c1 : Nat} (hp : a.eval (.tmp p) = .pointer (some ⟨g, i, none⟩)) (hv : a.eval v = .slice A l c) (hc : W.cell? ⟨g, i, none⟩ = some (.slice A1 l1 c1)) (hf : W.frozen? ⟨g, i, none⟩ = false) :
    (execOp a.eval o).run Tryd.prog W = .ok .skip (W.setCell ⟨g, i, none⟩ (.slice A l c)) := by
  unfold execOp
  rw [ho]
  simp only [hp, hv]
  simp [go_sem, hc, hf]
theorem blk_store29 (hgd : o.guard = none) {p : Tmp} {v : Operand} (ho : o.op = .store 29 (.tmp p) v) (hN : o.dst = none) {g i : Nat} {B : Nat} {w0 : World} {A A1 : Option Addr} {l c l1 c1 : Nat} {cs : Array Value} {T : TypeId} (hb : W.heap[g]? = some (.cells cs T (0, 0))) (hi : cs[i]? = some (.slice A1 l1 c1)) (hB : Below B w0 W) (hg : B ≤ g)
    (hp : a.eval (.tmp p) = .pointer (some ⟨g, i, none⟩)) (hv : a.eval v = .slice A l c)
    (h : ∀ w1, w1.heap[g]? = some (.cells (cs.setIfInBounds i (.slice A l c)) T (0, 0)) → Below B w0 w1 → (∀ k, k ≠ g → w1.heap[k]? = W.heap[k]?) → wpList Tryd.prog ops Q rest a w1) : wpList Tryd.prog ops Q (o :: rest) a W :=
  store_event hgd ho hN (st_run29 ho hp hv (cell_of_blk hb hi).1 (cell_of_blk hb hi).2) fun w1 e => h w1 (by subst e; exact bx_set hb) (by subst e; exact hB.setCell hg _) (by subst e; exact fun k hk => Below.heap_setCell W _ _ k hk)
end
theorem C_by8 {w : World} {g : Nat} {D : List Int} (h : w.heap[g]? = some (by8 D)) (hl : D.length ≤ 1000000) : Kd.C (Kd.int .u8) w (some ⟨g, 0, none⟩) D.length D := C_of_block (e := 5) (fr := (0, 0)) h (by omega)
/-- A filter that was made. -/
def IsFlt (w : World) (n p md : Int) (D : List Int) (e : Ending) (w' : World) : Prop := ∃ f A c, e = .returned (.tuple #[.pointer (some ⟨f, 0, none⟩), .nilIface]) ∧ Flt w' f n p md A c D ∧ w.heap.size ≤ f ∧ Below w.heap.size w w'
set_option maxRecDepth 100000 in
set_option maxHeartbeats 4000000 in
theorem fromBytes_calls (n p m md : Int) (A : Option Addr) (c : Nat) (D : List Int) (w : World) (hp : p ≤ 32) (hn0 : 0 ≤ n) (hn1 : n ≤ 60) (hmd : IntKind.u64.wrap (n * m) = md) (hC : Kd.C (Kd.int .u8) w A D.length D) (hD : D.length ≤ 1000000) :
    Calls Tryd.prog 42 #[.int .u32 n, .int .u8 p, .int .u64 m, .slice A D.length c] w (IsFlt w n p md D) := by
  have HC := Aside0.mk hC
  have HMD := Aside0.mk hmd
  obtain ⟨i0, hi, hz0, hz1, hz2⟩ := info_parts info5
  have HII := Aside0.mk (And.intro hi (And.intro hz0 (And.intro hz1 hz2)))
  obtain ⟨l, hl⟩ : ∃ l, l = D.length := ⟨_, rfl⟩
  have HL := Aside0.mk hl
  have HB := Aside0.mk (Below.refl w.heap.size w)
  rw [← hl] at hD ⊢
  clear hi hz0 hz1 hz2 hl hC hmd
  go_enter Tryd.func42, Tryd.ntmps42
  go_wp2_with (first
    | ((with_reducible refine gate_dst (N := 17) rfl ?_); refine box_event ?hg (N := 17) ?hd (cs := #[.int .u32 n, .int .u8 p, .int .u64 0, .slice none 0 0]) (t := 62) ?hr ?_; (case hd => rfl); (case hg => rfl); (case hr => first | (go_simp; done) | (go_simp; rfl)); intro f hg w1 hbox hb1; have HF1 := Aside0.mk hbox; have HB1 := Aside0.mk (below_step HB.out hb1); have HG : Aside0 (w.heap.size ≤ f) := ⟨by rw [hg]; exact Nat.le_refl _⟩; have k0 := (cell_of_blk hbox (i := 0) rfl).1; clear hg hbox hb1)
    | ((with_reducible refine gate_store (t := 22) (p := 27) rfl ?_); refine blk_store22 rfl rfl rfl (i := 2) (z := 0) HF1.out rfl HB1.out HG.out rfl rfl ?_; intro w2 hF hB hK; have HF2 := Aside0.mk hF; have HB2 := Aside0.mk hB; have HFL := Aside0.mk (Array.getElem?_eq_some_iff.1 hF).1; clear hF hB hK k0)
    | (at_make; refine wpList_make_full _ rfl _ _ 29 rfl w.heap.size 5 i0 (.int .u8 0) 1 Tryd.underlying29 HII.out.1 HII.out.2.1 HII.out.2.2.1 .i64 .i64 _ _ l rfl rfl rfl rfl (by rw [HII.out.2.2.2]; omega) (by unfold maxLen; omega) HB2.out.size ?_; intro w3 hown hgrow; have HO := Aside0.mk (own_full hown); have HB3 := Aside0.mk (HB2.out.grown hgrow HB2.out.size (fun _ h => by cases h)); have HF3 := Aside0.mk ((hgrow.block _ HFL.out (by simp)).trans HF2.out); clear hown hgrow)
    | ((with_reducible refine gate_store (t := 29) (p := 33) rfl ?_); refine blk_store29 rfl rfl rfl (i := 3) HF3.out rfl HB3.out HG.out rfl rfl ?_; intro w4 hF hB hK; have HF4 := Aside0.mk hF; have HB4 := Aside0.mk hB; have HO4 := Aside0.mk ((hK _ (Nat.ne_of_gt HFL.out)).trans HO.out.1); have k3 := (cell_of_blk hF (i := 3) rfl).1; clear hF hB hK)
    | (with_reducible refine wpList_copy_splice rfl (.tmp 37) (.tmp 38) 29 29 rfl 5 Tryd.underlying29 size5 _ _ _ _ _ _ rfl rfl w2.heap.size 0 _ 5 HO4.out (D.map (Value.int .u8)) (by simp [HL.out]) (fun hp => ⟨rfl, by obtain ⟨ad, e, hc⟩ := C_cells (Kd.C_below HC.out HB4.out) (by simpa using hp); exact ⟨ad, e, hc⟩⟩) (by rw [made_zeros]; simp [HL.out]) (ints_one _ _) (f + 1) w4 (Below.refl _ _) (by have := HFL.out; omega) ?_; intro w5 hsp hb5; have HSP := Aside0.mk hsp.out; have HB5 := Aside0.mk hb5; clear hsp hb5 k3)
    | fail)
  refine bodyPost_ret (results_tmp2 rfl _ _ _) rfl ?_
  have h := HSP.out
  rw [made_zeros, HL.out, splice_all] at h
  have hB5 : Below w.heap.size w w5 := by
    have hle : w.heap.size ≤ f + 1 := Nat.le_succ_of_le HG.out
    exact HB4.out.trans ⟨HB5.out.os, HB5.out.tape, HB5.out.output, HB5.out.size, fun k hk => HB5.out.block k (by omega)⟩
  refine ⟨f, some ⟨w2.heap.size, 0, none⟩, l, rfl, ⟨?_, C_by8 h (by rw [← HL.out]; exact hD), by rw [HL.out]; exact Nat.le_refl _⟩, HG.out, hB5⟩
  have h4 := HF4.out
  rw [HMD.out] at h4
  have h5 := (HB5.out.block f (Nat.lt_succ_self f)).trans h4
  rw [HL.out] at h5 ⊢
  exact h5
end Go.Proofs.YtfhkkojdaejnjaaDoor.Gcs
