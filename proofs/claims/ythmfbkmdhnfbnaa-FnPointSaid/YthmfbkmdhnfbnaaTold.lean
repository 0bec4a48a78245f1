/-
  impl.clone and impl.told: a filter as data.
-/
import Derived.Test.YthmfbkmdhnfbnaaNewWalk
namespace Go.Proofs.Ythmfbkmdhnfbnaa.PFnNew
open Go.RowKit Go.Proofs.Ythmfbkmdhnfbnaa.Hand Go.Proofs.YthmfbkmdhnfbnaaW.PrintWords Go.Proofs.YthmfbkmdhnfbnaaW.PrintLast Go.Proofs.YthmfbkmdhnfbnaaW.PrintMore

theorem clone_calls (A : Option Addr) (c : Nat) (b : List Int) (w : World) (hC : Kd.C (Kd.int .u8) w A b.length b) (hb : b.length ≤ 1000000) :
    Calls Try.prog 24 #[.slice A b.length c] w fun e w' => ∃ v, e = .returned v ∧ Kd.R (Kd.int .u8) 5 w' w.heap.size (fun _ => True) v b ∧ Below w.heap.size w w' := by
  have HC := Aside0.mk hC
  have HB := Aside0.mk (Below.refl w.heap.size w)
  clear hC
  go_enter Try.func24, Try.ntmps24
  go_wp2_with (first | (refine Kd.R_append_row (h1 := fun _ => rfl) (w0 := w) (Value.int .u8) (0 : Int) w.heap.size rfl _ _ 23 5 (.int .u8 0) 1 rfl Try.underlying23 info5 rfl (by decide) (.slice none 0 0) [] b A b.length c (fun _ => True) rfl rfl (fun _ _ => trivial) (Kd.R_nil _ _ _ _ _) HC.out HB.out (Nat.le_refl _) (by simp; omega) ?_; intro v1 w1 hR hB1 _ _) | fail)
  go_ret
  exact ⟨_, rfl, by rw [List.nil_append] at hR; exact hR, hB1⟩

theorem Filt.below {w W : World} {f m : Nat} {A : Option Addr} {n c : Nat} {fu tw fl : Int} (h : Filt w f m A n c fu tw fl) (hb : Below w.heap.size w W) : Filt W f m A n c fu tw fl :=
  ⟨pw_cell_below hb h.cF, pw_cell_below hb h.c0, pw_cell_below hb h.c1, pw_cell_below hb h.c2, pw_cell_below hb h.c3⟩

/-- The cells of a result's block, later. -/
theorem res_facts {W w1 : World} {g T : Nat} {a b c d : Value} (h : W.heap[g]? = some (.cells #[a, b, c, d] T (0, 0))) (hb : Below W.heap.size W w1) :
    Aside0 (w1.heap[g]? = some (.cells #[a, b, c, d] T (0, 0))) ∧ w1.cell? ⟨g, 0, none⟩ = some a ∧ w1.cell? ⟨g, 1, none⟩ = some b ∧ w1.cell? ⟨g, 2, none⟩ = some c ∧ w1.cell? ⟨g, 3, none⟩ = some d ∧
    w1.frozen? ⟨g, 0, none⟩ = false ∧ w1.frozen? ⟨g, 1, none⟩ = false ∧ w1.frozen? ⟨g, 2, none⟩ = false ∧ w1.frozen? ⟨g, 3, none⟩ = false := by
  have h1 : w1.heap[g]? = some (.cells #[a, b, c, d] T (0, 0)) := (hb.block g (blk_lt h)).trans h
  exact ⟨⟨h1⟩, by rw [blk_cell h1]; rfl, by rw [blk_cell h1]; rfl, by rw [blk_cell h1]; rfl, by rw [blk_cell h1]; rfl, by simp [World.frozen?, h1], by simp [World.frozen?, h1], by simp [World.frozen?, h1], by simp [World.frozen?, h1]⟩
theorem far4 {w1 : World} {g m j : Nat} (h : m ≠ g) (a b c d : Value) : ((((w1.setCell ⟨g, 0, none⟩ a).setCell ⟨g, 1, none⟩ b).setCell ⟨g, 2, none⟩ c).setCell ⟨g, 3, none⟩ d).cell? ⟨m, j, none⟩ = w1.cell? ⟨m, j, none⟩ := by
  have e : ∀ (w : World) (i : Nat) (v : Value), (w.setCell ⟨g, i, none⟩ v).cell? ⟨m, j, none⟩ = w.cell? ⟨m, j, none⟩ := fun w i v => by
    have := Below.heap_setCell w ⟨g, i, none⟩ v m h
    simp [World.cell?, this]
  rw [e, e, e, e]
theorem res_cells {w1 : World} {g T : Nat} {a b c d : Value} (h : w1.heap[g]? = some (.cells #[a, b, c, d] T (0, 0))) (a1 b1 c1 d1 : Value) :
    ((((w1.setCell ⟨g, 0, none⟩ a1).setCell ⟨g, 1, none⟩ b1).setCell ⟨g, 2, none⟩ c1).setCell ⟨g, 3, none⟩ d1).cell? ⟨g, 0, none⟩ = some a1 ∧
    ((((w1.setCell ⟨g, 0, none⟩ a1).setCell ⟨g, 1, none⟩ b1).setCell ⟨g, 2, none⟩ c1).setCell ⟨g, 3, none⟩ d1).cell? ⟨g, 1, none⟩ = some b1 ∧
    ((((w1.setCell ⟨g, 0, none⟩ a1).setCell ⟨g, 1, none⟩ b1).setCell ⟨g, 2, none⟩ c1).setCell ⟨g, 3, none⟩ d1).cell? ⟨g, 2, none⟩ = some c1 ∧
    ((((w1.setCell ⟨g, 0, none⟩ a1).setCell ⟨g, 1, none⟩ b1).setCell ⟨g, 2, none⟩ c1).setCell ⟨g, 3, none⟩ d1).cell? ⟨g, 3, none⟩ = some d1 := by
  have H := blk_set (blk_set (blk_set (blk_set h 0 a1) 1 b1) 2 c1) 3 d1
  exact ⟨by rw [blk_cell H]; rfl, by rw [blk_cell H]; rfl, by rw [blk_cell H]; rfl, by rw [blk_cell H]; rfl⟩
theorem msg_calls (f m : Nat) (A : Option Addr) (n c : Nat) (fu tw fl : Int) (w : World) (hF : Filt w f m A n c fu tw fl) :
    Calls Try.prog 38 #[.pointer (some ⟨f, 0, none⟩)] w fun e w' => e = .returned (.pointer (some ⟨m, 0, none⟩)) ∧ w = w' := by
  have cF := hF.cF
  clear hF
  go_enter Try.func38, Try.ntmps38
  go_wp2
  go_ret
  exact ⟨rfl, rfl⟩

theorem told_calls (f m : Nat) (A : Option Addr) (c : Nat) (l : List Int) (fu tw fl : Int) (w : World) (h0 : 0 ≤ fl) (h1 : fl ≤ 255) (hF : Filt w f m A l.length c fu tw fl) (hC : Kd.C (Kd.int .u8) w A l.length l) (hl : l.length ≤ 1000000) :
    Calls Try.prog 30 #[.pointer (some ⟨f, 0, none⟩)] w fun e w' => ∃ v, e = .returned (.agg #[v, .int .u32 fu, .int .u32 tw, .int .i64 fl]) ∧ Kd.R (Kd.int .u8) 5 w' w.heap.size (fun _ => True) v l ∧ Below w.heap.size w w' := by
  have HF := Aside0.mk hF
  have HC := Aside0.mk hC
  clear hF hC
  go_enter Try.func30, Try.ntmps30
  go_wp2_with (first | (go_at_call 38; refine (msg_calls f m A l.length c fu tw fl _ (HF.out.below (below_alloc (Below.refl _ _) _))).mono ?_; rintro e w1 ⟨rfl, rfl⟩) | fail)
  obtain ⟨g, hg⟩ : ∃ g, g = w.heap.size := ⟨_, rfl⟩
  have HB := Aside0.mk (below_alloc (Below.refl w.heap.size w) (Obj.cells #[Value.slice none 0 0, Value.int IntKind.u32 0, Value.int IntKind.u32 0, Value.int IntKind.i64 0] 28))
  have HG : Aside0 ((w.alloc (Obj.cells #[Value.slice none 0 0, Value.int IntKind.u32 0, Value.int IntKind.u32 0, Value.int IntKind.i64 0] 28)).heap[g]? = some (.cells #[Value.slice none 0 0, Value.int IntKind.u32 0, Value.int IntKind.u32 0, Value.int IntKind.i64 0] 28 (0, 0))) := ⟨by rw [hg]; show (w.heap.push _)[w.heap.size]? = _; simp⟩
  rw [← hg]
  revert HB HG
  generalize w.alloc (Obj.cells #[Value.slice none 0 0, Value.int IntKind.u32 0, Value.int IntKind.u32 0, Value.int IntKind.i64 0] 28) = W
  intro HB HG
  have HF2 := Aside0.mk (HF.out.below HB.out)
  have HC2 := Aside0.mk (Kd.C_below HC.out HB.out)
  have HGE := Aside0.mk hg
  have k0 := HF2.out.c0
  have k1 := HF2.out.c1
  have k2 := HF2.out.c2
  have k3 := HF2.out.c3
  have hne : m ≠ g := by have := World.block_lt_of_cell? w _ HF.out.c0; rw [hg]; simp at this; omega
  have hwr : IntKind.i64.wrap fl = fl := by rw [IntKind.wrap_i64]; omega
  clear HF HC hg
  go_region_held3 (fun w' => w'.cell? ⟨m, 0, none⟩ = some (.slice A l.length c) ∧ w'.cell? ⟨m, 1, none⟩ = some (.int .u32 fu) ∧ w'.cell? ⟨m, 2, none⟩ = some (.int .u32 tw) ∧ w'.cell? ⟨m, 3, none⟩ = some (.int .u8 fl)) (first | (with_reducible exact ⟨(far4 hne _ _ _ _).trans (pw_cell_below HB1.out k0), (far4 hne _ _ _ _).trans (pw_cell_below HB1.out k1), (far4 hne _ _ _ _).trans (pw_cell_below HB1.out k2), (far4 hne _ _ _ _).trans (pw_cell_below HB1.out k3)⟩) | (with_reducible exact ⟨pw_cell_below HB1.out k0, pw_cell_below HB1.out k1, pw_cell_below HB1.out k2, pw_cell_below HB1.out k3⟩) | go_keep)
    (first | (go_at_call 24; refine (clone_calls A c l _ (Kd.C_below HC2.out (below_drew (Below.refl _ _))) hl).mono ?_; rintro e w1 ⟨v1, rfl, hR1, hB1⟩; obtain ⟨A1, c1, rfl⟩ := Kd.R_slice hR1; obtain ⟨HX, q0, q1, q2, q3, f0, f1, f2, f3⟩ := res_facts HG.out (below_step (below_drew (Below.refl _ _)) hB1); have HR1 := Aside0.mk hR1; have HB1 := Aside0.mk (below_step (below_drew (Below.refl _ _)) hB1); clear hB1 hR1))
  clear q0 q1 q2 q3 f0 f1 f2 f3 k0 k1 k2 k3
  obtain ⟨r0, r1, r2, r3⟩ := res_cells HX.out (.slice A1 l.length c1) (.int .u32 fu) (.int .u32 tw) (.int .i64 fl)
  go_wp2
  refine bodyPost_ret (v := .agg #[.slice A1 l.length c1, .int .u32 fu, .int .u32 tw, .int .i64 fl]) (by simp [results, Try.results30, go_sem, r0, r1, r2, r3]) rfl ⟨_, rfl, ?_, ?_⟩
  · have hR := HR1.out
    have hgs : g < W.heap.size := blk_lt HG.out
    have hG := HGE.out
    refine Kd.R_lower (base := W.heap.size) ?_ (by omega)
    have hok : (Kd.int .u8).R 5 w1 W.heap.size (fun k => k ≠ g) (.slice A1 l.length c1) l := Kd.R_mono (Kd.R_bound (show (Kd.int .u8).R 5 w1 W.heap.size (fun _ => True) (.slice A1 l.length c1) l from hR)) (fun k hk e => by have := hk.2.1; omega)
    exact Kd.R_mono (Kd.R_far (Kd.R_far (Kd.R_far (Kd.R_far hok (fun _ h => h) _) (fun _ h => h) _) (fun _ h => h) _) (fun _ h => h) _) (fun _ _ => trivial)
  · have hG := HGE.out
    have hgb : w.heap.size ≤ g := by omega
    exact ((((below_step HB.out HB1.out).setCell hgb _).setCell hgb _).setCell hgb _).setCell hgb _
end Go.Proofs.Ythmfbkmdhnfbnaa.PFnNew
