/-
  impl.loaded: a filter of data.
-/
import Derived.Test.YthmfbkmdhnfbnaaMatchWalk
namespace Go.Proofs.Ythmfbkmdhnfbnaa.BloomW
open Go.RowKit Go.Proofs.Ythmfbkmdhnfbnaa.Hand Go.Proofs.YthmfbkmdhnfbnaaW.PrintWords Go.Proofs.YthmfbkmdhnfbnaaW.PrintLast Go.Proofs.YthmfbkmdhnfbnaaW.PrintMore Mur Blo

theorem fb_built (w4 : World) (A : Option Addr) (n c fu : Nat) (tw fl : Int) : FB ((w4.alloc (.cells #[.slice A n c, .int .u32 fu, .int .u32 tw, .int .u8 fl] 73)).alloc (.cells #[.pointer (some ⟨w4.heap.size, 0, none⟩)] 78)) (w4.heap.size + 1) w4.heap.size A n c fu tw fl := by
  refine ⟨?_, ?_⟩
  · show ((w4.heap.push _).push _)[w4.heap.size + 1]? = _
    rw [Array.getElem?_push, if_pos (by simp)]
  · show ((w4.heap.push _).push _)[w4.heap.size]? = _
    rw [Array.getElem?_push, if_neg (by simp), Array.getElem?_push, if_pos rfl]
theorem lf_calls (p : Addr) (w : World) : Calls Try.prog 36 #[.pointer (some p)] w fun e w' => e = .returned (.pointer (some ⟨w.heap.size, 0, none⟩)) ∧ w' = w.alloc (.cells #[.pointer (some p)] 78) := by
  go_enter Try.func36, Try.ntmps36
  go_wp2
  go_ret
  exact ⟨rfl, rfl⟩

set_option maxHeartbeats 4000000 in
theorem loaded_calls (A : Option Addr) (c : Nat) (D : List Int) (fu : Nat) (tw fl : Int) (w : World) (hD : Kd.C (Kd.int .u8) w A D.length D)
    (hn0 : 0 < D.length) (hn : D.length ≤ 2000) (hf : fu ≤ 50) (hfl0 : 0 ≤ fl) (hfl1 : fl ≤ 255) :
    Calls Try.prog 28 #[.agg #[.slice A D.length c, .int .u32 fu, .int .u32 tw, .int .i64 fl]] w fun e w' => ∃ f m go c1, e = .returned (.pointer (some ⟨f, 0, none⟩)) ∧ FB w' f m (some ⟨go, 0, none⟩) D.length c1 fu tw fl ∧ (Kd.int .u8).R 5 w' w.heap.size (fun _ => True) (.slice (some ⟨go, 0, none⟩) D.length c1) D ∧ Below w.heap.size w w' := by
  have HD := Aside0.mk hD
  have i1 : (fu : Int) ≤ 50 := by omega
  have i2 : (1 : Int) ≤ (D.length : Int) := by omega
  have i3 : (D.length : Int) ≤ 2000 := by omega
  have b1 : ((D.length : Int) == 0) = false := beq_eq_false_iff_ne.2 (by omega)
  have hw8 : IntKind.u8.wrap fl = fl := by rw [IntKind.wrap_u8]; omega
  clear hD
  go_enter Try.func28, Try.ntmps28
  have HB0 := Aside0.mk (below_alloc (Below.refl w.heap.size w) (boxO A D.length c fu tw fl))
  have HG : Aside0 ((w.alloc (boxO A D.length c fu tw fl)).heap[w.heap.size]? = some (boxO A D.length c fu tw fl)) := ⟨box_new _ _⟩
  go_wp2
  obtain ⟨g, hg⟩ : ∃ g, g = w.heap.size := ⟨_, rfl⟩
  have HGE := Aside0.mk hg
  rw [← hg] at HG ⊢
  have HD2 := Aside0.mk (Kd.C_below HD.out HB0.out)
  clear hg HD
  change Code.wp _ _ _ _ (w.alloc (boxO A D.length c fu tw fl))
  revert HB0 HG HD2
  generalize w.alloc (boxO A D.length c fu tw fl) = W
  intro HB0 HG HD2
  obtain ⟨k0, k1, k2, k3⟩ := box_cells HG.out
  go_region_held3 (fun w' => w'.cell? ⟨g, 0, none⟩ = some (.slice A D.length c) ∧ w'.cell? ⟨g, 1, none⟩ = some (.int .u32 fu) ∧ w'.cell? ⟨g, 2, none⟩ = some (.int .u32 tw) ∧ w'.cell? ⟨g, 3, none⟩ = some (.int .i64 fl))
    (first | (with_reducible exact ⟨pw_cell_below HB1.out k0, pw_cell_below HB1.out k1, pw_cell_below HB1.out k2, pw_cell_below HB1.out k3⟩) | (with_reducible exact ⟨pw_cell_below (below_alloc HB1.out _) k0, pw_cell_below (below_alloc HB1.out _) k1, pw_cell_below (below_alloc HB1.out _) k2, pw_cell_below (below_alloc HB1.out _) k3⟩) | (with_reducible exact ⟨pw_cell_below (below_alloc (below_alloc HB1.out _) _) k0, pw_cell_below (below_alloc (below_alloc HB1.out _) _) k1, pw_cell_below (below_alloc (below_alloc HB1.out _) _) k2, pw_cell_below (below_alloc (below_alloc HB1.out _) _) k3⟩) | go_keep)
    (first | (go_at_call 24; refine (PFnNew.clone_calls A c D _ (Kd.C_below HD2.out (below_drew (Below.refl _ _))) (by omega)).mono ?_; rintro e w1 ⟨v1, rfl, hR1, hb1⟩; obtain ⟨A1, c1, rfl⟩ := Kd.R_slice hR1; have HB1 := Aside0.mk (below_step (below_drew (Below.refl _ _)) hb1); have HR1 := Aside0.mk hR1; clear hb1 hR1) | (go_at_call 36; refine (lf_calls _ _).mono ?_; rintro e w3 ⟨rfl, rfl⟩))
  have hR := HR1.out
  have hown := Kd.own_of_R hR
  obtain ⟨go, rfl⟩ := own_form hown hn0
  go_wp2
  go_ret
  refine ⟨w1.heap.size + 1, w1.heap.size, go, c1, rfl, fb_built w1 _ _ _ _ _ _, Kd.R_lower (Kd.R_below (Kd.R_below hR (below_alloc (Below.refl _ _) _)) (below_alloc (Below.refl _ _) _)) (by have := HB0.out.size; simpa using this), below_alloc (below_alloc (below_step HB0.out HB1.out) _) _⟩
end Go.Proofs.Ythmfbkmdhnfbnaa.BloomW
