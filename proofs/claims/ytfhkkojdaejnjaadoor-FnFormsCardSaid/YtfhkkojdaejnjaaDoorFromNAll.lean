/-
  impl.FromN, walked.
-/
import Derived.Test.YtfhkkojdaejnjaaDoorFormsAll
namespace Go.Proofs.YtfhkkojdaejnjaaDoor.Gcs
open Go.RowKit Go.Proofs.YtfhkkojdaejnjaaDoor.Hand Go.Proofs.YtfhkkojdaejnjaaDoor.Buf Go.Proofs.YtfhkkojdaejnjaaDoor.PFnForms Go.Proofs.YtfhkkojdaejnjaaDoorW.PrintWords Go.Proofs.YtfhkkojdaejnjaaDoorW.PrintLast Go.Proofs.YtfhkkojdaejnjaaDoorW.PrintMore

theorem res_facts {W w1 : World} {g T : Nat} {a b c d : Value} (h : W.heap[g]? = some (.cells #[a, b, c, d] T (0, 0))) (hb : Below W.heap.size W w1) :
    Aside0 (w1.heap[g]? = some (.cells #[a, b, c, d] T (0, 0))) ∧ w1.cell? ⟨g, 0, none⟩ = some a ∧ w1.cell? ⟨g, 1, none⟩ = some b ∧ w1.cell? ⟨g, 2, none⟩ = some c ∧ w1.cell? ⟨g, 3, none⟩ = some d ∧
    w1.frozen? ⟨g, 0, none⟩ = false ∧ w1.frozen? ⟨g, 1, none⟩ = false ∧ w1.frozen? ⟨g, 2, none⟩ = false ∧ w1.frozen? ⟨g, 3, none⟩ = false := by
  have h1 : w1.heap[g]? = some (.cells #[a, b, c, d] T (0, 0)) := (hb.block g (blk_lt h)).trans h
  exact ⟨⟨h1⟩, by rw [blk_cell h1]; rfl, by rw [blk_cell h1]; rfl, by rw [blk_cell h1]; rfl, by rw [blk_cell h1]; rfl, by simp [World.frozen?, h1], by simp [World.frozen?, h1], by simp [World.frozen?, h1], by simp [World.frozen?, h1]⟩
theorem res_cells {w1 : World} {g T : Nat} {a b c d : Value} (h : w1.heap[g]? = some (.cells #[a, b, c, d] T (0, 0))) (a1 b1 c1 d1 : Value) :
    ((((w1.setCell ⟨g, 0, none⟩ a1).setCell ⟨g, 1, none⟩ b1).setCell ⟨g, 2, none⟩ c1).setCell ⟨g, 3, none⟩ d1).cell? ⟨g, 0, none⟩ = some a1 ∧
    ((((w1.setCell ⟨g, 0, none⟩ a1).setCell ⟨g, 1, none⟩ b1).setCell ⟨g, 2, none⟩ c1).setCell ⟨g, 3, none⟩ d1).cell? ⟨g, 1, none⟩ = some b1 ∧
    ((((w1.setCell ⟨g, 0, none⟩ a1).setCell ⟨g, 1, none⟩ b1).setCell ⟨g, 2, none⟩ c1).setCell ⟨g, 3, none⟩ d1).cell? ⟨g, 2, none⟩ = some c1 ∧
    ((((w1.setCell ⟨g, 0, none⟩ a1).setCell ⟨g, 1, none⟩ b1).setCell ⟨g, 2, none⟩ c1).setCell ⟨g, 3, none⟩ d1).cell? ⟨g, 3, none⟩ = some d1 := by
  have H := bx_set (i := 3) (y := d1) (bx_set (i := 2) (y := c1) (bx_set (i := 1) (y := b1) (bx_set (i := 0) (y := a1) h)))
  exact ⟨by rw [blk_cell H]; rfl, by rw [blk_cell H]; rfl, by rw [blk_cell H]; rfl, by rw [blk_cell H]; rfl⟩
theorem drew_cell (w : World) (a : Addr) : w.drew.cell? a = w.cell? a := rfl
theorem res_cells_drew {w1 : World} {g T : Nat} {a b c d : Value} (h : w1.heap[g]? = some (.cells #[a, b, c, d] T (0, 0))) (a1 b1 c1 d1 : Value) :
    ((((w1.setCell ⟨g, 0, none⟩ a1).setCell ⟨g, 1, none⟩ b1).setCell ⟨g, 2, none⟩ c1).setCell ⟨g, 3, none⟩ d1).drew.cell? ⟨g, 0, none⟩ = some a1 ∧
    ((((w1.setCell ⟨g, 0, none⟩ a1).setCell ⟨g, 1, none⟩ b1).setCell ⟨g, 2, none⟩ c1).setCell ⟨g, 3, none⟩ d1).drew.cell? ⟨g, 1, none⟩ = some b1 ∧
    ((((w1.setCell ⟨g, 0, none⟩ a1).setCell ⟨g, 1, none⟩ b1).setCell ⟨g, 2, none⟩ c1).setCell ⟨g, 3, none⟩ d1).drew.cell? ⟨g, 2, none⟩ = some c1 ∧
    ((((w1.setCell ⟨g, 0, none⟩ a1).setCell ⟨g, 1, none⟩ b1).setCell ⟨g, 2, none⟩ c1).setCell ⟨g, 3, none⟩ d1).drew.cell? ⟨g, 3, none⟩ = some d1 := by
  rw [drew_cell, drew_cell, drew_cell, drew_cell]
  exact res_cells h a1 b1 c1 d1
theorem far_blk {w1 : World} {g b : Nat} {o : Obj} (h : w1.heap[b]? = some o) (hb : b ≠ g) (a1 b1 c1 d1 : Value) : ((((w1.setCell ⟨g, 0, none⟩ a1).setCell ⟨g, 1, none⟩ b1).setCell ⟨g, 2, none⟩ c1).setCell ⟨g, 3, none⟩ d1).heap[b]? = some o := by
  have e : ∀ (w : World) (i : Nat) (v : Value), (w.setCell ⟨g, i, none⟩ v).heap[b]? = w.heap[b]? := fun w i v => Below.heap_setCell w ⟨g, i, none⟩ v b hb
  rw [e, e, e, e, h]
/-- The filter, told. -/
def IsTold (w : World) (n p m : Int) (D : List Int) (e : Ending) (w' : World) : Prop :=
  ∃ A c, e = .returned (.tuple #[.agg #[.int .u32 n, .int .u8 p, .int .u64 m, .slice A D.length c], .bool true]) ∧ Kd.C (Kd.int .u8) w' A D.length D ∧ Below w.heap.size w w'
set_option maxRecDepth 100000 in
set_option maxHeartbeats 8000000 in
theorem fromN_calls (p m md n0 : Int) (A : Option Addr) (c : Nat) (D : List Int) (w : World) (hC : Kd.C (Kd.int .u8) w A (n0 :: D).length (n0 :: D)) (h0 : 0 ≤ n0) (h1 : n0 ≤ 60) (hp : p ≤ 32) (hmd : IntKind.u64.wrap (n0 * m) = md) (hD : D.length < 2000) (hpos : 1 ≤ D.length) :
    Calls Tryd.prog 14 #[.int .u8 p, .int .u64 m, .slice A (D.length + 1) c] w (IsTold w n0 p m D) := by
  have HC := Aside0.mk hC
  have HCL : Aside0 (∀ W, Below w.heap.size w W → Calls Tryd.prog 32 #[.slice A (D.length + 1) c] W fun e w' => ∃ v, e = .returned v ∧ Kd.R (Kd.int .u8) 5 w' W.heap.size (fun _ => True) v (n0 :: D) ∧ Below W.heap.size W w') := ⟨fun W hb => clone_calls A c (n0 :: D) W (Kd.C_below hC hb) (by simp; omega)⟩
  have HFB : Aside0 (∀ (A1 : Option Addr) (c1 : Nat) W, Kd.C (Kd.int .u8) W A1 (n0 :: D).length (n0 :: D) → D.length + 1 ≤ c1 → Calls Tryd.prog 31 #[.int .u8 p, .int .u64 m, .slice A1 (D.length + 1) c1] W (IsFlt W n0 p md D)) := ⟨fun A1 c1 W h hc => fromNB_calls p m md n0 A1 c1 D W h hc h0 h1 hp hmd (by omega) hpos⟩
  have H1 : Aside0 (∀ f A1 c1 W, Flt W f n0 p md A1 c1 D → Calls Tryd.prog 18 #[.pointer (some ⟨f, 0, none⟩)] W (IsCopy W D)) := ⟨fun f A1 c1 W h => bytes_calls f n0 p md A1 c1 D W h (by omega)⟩
  have HDL := Aside0.mk hD
  obtain ⟨l, hl⟩ : ∃ l, l = D.length := ⟨_, rfl⟩
  have HL := Aside0.mk hl
  rw [← hl] at HCL hD ⊢
  have hl2 : ¬ (2000 : Int) < (l : Int) + 1 := by omega
  have HB0 := Aside0.mk (below_alloc (Below.refl w.heap.size w) (.cells #[Value.int .u32 0, Value.int .u8 0, Value.int .u64 0, Value.slice none 0 0] 31))
  clear hl hC hmd hpos
  go_enter Tryd.func14, Tryd.ntmps14
  go_wp2_with (first
    | (go_at_call 32; refine (HCL.out _ HB0.out).mono ?_; rintro e1 w1 ⟨v1, rfl, hR1, hb1⟩; obtain ⟨A1, c1, rfl⟩ := Kd.R_slice hR1; have HR1 := Aside0.mk (Kd.R_reads' hR1); have HB1 := Aside0.mk hb1; clear hR1 hb1)
    | (go_at_call 31; refine (HFB.out A1 c1 _ HR1.out.2.2 (by have := HR1.out.2.1; rw [List.length_cons] at this; exact this)).mono ?_; intro e2 w2 hq; unfold IsFlt at hq; obtain ⟨f, A2, c2, rfl, hF, hf, hb2⟩ := hq; have HF := Aside0.mk hF; have HFS := Aside0.mk hf; have HB2 := Aside0.mk (below_step HB1.out hb2); clear hF hf hb2)
    | (go_at_call 18; refine (H1.out f A2 c2 _ HF.out).mono ?_; intro e3 w3 hq; unfold IsCopy at hq; obtain ⟨g1, rfl, hg1, hge, hb3⟩ := hq; have HC1 := Aside0.mk hg1; have HF3 := Aside0.mk (HF.out.below hb3); have HG1 := Aside0.mk hge; have HB3 := Aside0.mk (below_step HB2.out hb3); clear hg1 hge hb3)
    | fail)
  have HW : Aside0 (w3.heap[w.heap.size]? = some (.cells #[Value.int .u32 0, Value.int .u8 0, Value.int .u64 0, Value.slice none 0 0] 31 (0, 0))) := ⟨(HB3.out.block _ (by simp)).trans (by show (w.heap.push _)[w.heap.size]? = _; simp)⟩
  obtain ⟨q0, q1, q2, q3, f0, f1, f2, f3⟩ := (res_facts HW.out (Below.refl _ _)).2
  have HD3 : Aside0 (w3.drew.heap[w.heap.size]? = some (.cells #[Value.int .u32 0, Value.int .u8 0, Value.int .u64 0, Value.slice none 0 0] 31 (0, 0))) := ⟨HW.out⟩
  have HBW : Aside0 (Below w.heap.size w w3.drew) := ⟨below_drew (below_step HB0.out HB3.out)⟩
  have HN : Aside0 (∀ W, Below w3.heap.size w3 W → Calls Tryd.prog 19 #[.pointer (some ⟨f, 0, none⟩)] W fun e w' => e = .returned (.int .u32 n0) ∧ w' = W) := ⟨fun W hb => N_calls f n0 p md A2 c2 D W (HF3.out.below hb)⟩
  have HP : Aside0 (∀ W, Below w3.heap.size w3 W → Calls Tryd.prog 20 #[.pointer (some ⟨f, 0, none⟩)] W fun e w' => e = .returned (.int .u8 p) ∧ w' = W) := ⟨fun W hb => P_calls f n0 p md A2 c2 D W (HF3.out.below hb)⟩
  go_region_with (first
    | (go_at_call 19; refine (HN.out _ (by repeat (first | (with_reducible exact Below.refl _ _) | apply below_drew1 | apply pw_below_drewN))).mono ?_; rintro e5 w5 ⟨rfl, rfl⟩)
    | (go_at_call 20; refine (HP.out _ (by repeat (first | (with_reducible exact Below.refl _ _) | apply below_drew1 | apply pw_below_drewN))).mono ?_; rintro e5 w5 ⟨rfl, rfl⟩))
  all_goals
    obtain ⟨r0, r1, r2, r3⟩ := res_cells_drew HW.out (.int .u32 n0) (.int .u8 p) (.int .u64 m) (.slice (some ⟨g1, 0, none⟩) D.length D.length)
    have HNE : g1 ≠ w.heap.size := by have h1 := HG1.out; have h2 := HB2.out.size; simp at h2; omega
    go_wp2
    refine bodyPost_ret (v := .tuple #[.agg #[.int .u32 n0, .int .u8 p, .int .u64 m, .slice (some ⟨g1, 0, none⟩) D.length D.length], .bool true]) (by simp [results, Tryd.results14, go_sem, r0, r1, r2, r3]) rfl ⟨_, _, rfl, ?_, ?_⟩
    · exact C_by8 (far_blk HC1.out HNE _ _ _ _) (by have := HDL.out; omega)
    · exact ((((HBW.out).setCell (Nat.le_refl _) _).setCell (Nat.le_refl _) _).setCell (Nat.le_refl _) _).setCell (Nat.le_refl _) _
end Go.Proofs.YtfhkkojdaejnjaaDoor.Gcs
