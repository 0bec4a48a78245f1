/-
  spec.Point: an output's bytes.
-/
import Derived.Test.YthmfbkmdhnfbnaaImplMatch
namespace Go.Proofs.Ythmfbkmdhnfbnaa.BloomW
open Go.RowKit Go.Proofs.Ythmfbkmdhnfbnaa.Hand Go.Proofs.YthmfbkmdhnfbnaaW.PrintWords Go.Proofs.YthmfbkmdhnfbnaaW.PrintLast Go.Proofs.YthmfbkmdhnfbnaaW.PrintMore Mur Blo

/-- Bytes as the cells of an array. -/
def hx (hs : List Int) : Array Value := (hs.map (Value.int .u8)).toArray
/-- The four bytes of a number, the least first. -/
def le4 (i : Int) : List Int := [i % 256, i / 256 % 256, i / 65536 % 256, i / 16777216]

theorem point_calls (hs : List Int) (i : Int) (w : World) (hl : hs.length = 32) (h0 : 0 ≤ i) (h1 : i < 4294967296) :
    Calls Try.prog 18 #[.agg (hx hs), .int .u32 i] w fun e w' => ∃ v, e = .returned v ∧ Kd.R (Kd.int .u8) 5 w' w.heap.size (fun _ => True) v (hs ++ le4 i) ∧ Below w.heap.size w w' := by
  obtain ⟨X, hX⟩ : ∃ X, X = hx hs := ⟨_, rfl⟩
  rw [← hX]
  have HX := Aside0.mk hX
  have HL := Aside0.mk hl
  clear hX hl
  go_enter Try.func18, Try.ntmps18
  have HB0 := Aside0.mk (below_alloc (Below.refl w.heap.size w) (.cells X 40 (0, 0)))
  have HC0 : Aside0 (Kd.C (Kd.int .u8) (w.alloc (.cells X 40)) (some ⟨w.heap.size, 0, none⟩) hs.length hs) := ⟨C_of_block (e := 40) (fr := (0, 0)) (by rw [HX.out]; exact box_new _ _) (by rw [HL.out]; omega)⟩
  have HO0 : Aside0 (Kd.R (Kd.int .u8) 5 ((w.alloc (.cells X 40)).alloc (.cells #[] 5)) w.heap.size (fun _ => True) (.slice (some ⟨w.heap.size + 1, 0, none⟩) 0 0) []) := ⟨by
    have h := own_lit (w.alloc (.cells X 40)) w.heap.size 5 .u8 [] (by simp) (by simp)
    simp only [World.alloc, Array.size_push] at h
    exact Kd.R_of_own (enc := Value.int .u8) (h1 := fun _ => rfl) (xs := []) h (fun _ _ => trivial)⟩
  have HC1 := Aside0.mk (Kd.C_below HC0.out (below_alloc (Below.refl _ _) (.cells #[] 5)))
  rw [HL.out] at HC1
  go_wp2_with (first
    | ((with_reducible refine gate_builtin (b := .append) (xs := #[.tmp 5, .tmp 6]) rfl ?_); refine Kd.R_append_row (h1 := fun _ => rfl) (w0 := w) (Value.int .u8) (0 : Int) w.heap.size rfl _ _ 23 5 (.int .u8 0) 1 rfl Try.underlying23 info5 rfl (by decide) (.slice (some ⟨w.heap.size + 1, 0, none⟩) 0 0) [] hs (some ⟨w.heap.size, 0, none⟩) 32 32 (fun _ => True) rfl rfl (fun _ _ => trivial) HO0.out HC1.out (below_alloc HB0.out _) (below_alloc HB0.out _).size (by simp) ?_; intro v1 w1 hR hB1 _ _; rw [List.nil_append] at hR; obtain ⟨A1, c1, rfl⟩ := Kd.R_slice hR; have HR1 := Aside0.mk hR; have HB1 := Aside0.mk hB1; clear hR hB1)
    | ((with_reducible refine gate_builtin (b := .append) (xs := #[.tmp 7, .tmp 19]) rfl ?_); have HQ1 := Kd.R_below HR1.out (below_alloc (Below.refl _ _) (.cells (nums .u8 (le4 i)).toArray 5)); have HQ2 := C_of_block (e := 5) (fr := (0, 0)) (xs := le4 i) (box_new w1 (.cells ((le4 i).map (Value.int .u8)).toArray 5 (0,0))) (by simp [le4]); (refine Kd.R_append_row (h1 := fun _ => rfl) (w0 := w) (Value.int .u8) (0 : Int) w.heap.size rfl _ _ 23 5 (.int .u8 0) 1 rfl Try.underlying23 info5 rfl (by decide) (.slice A1 hs.length c1) hs (le4 i) (some ⟨w1.heap.size, 0, none⟩) 4 4 (fun _ => True) rfl rfl (fun _ _ => trivial) HQ1 HQ2 (below_alloc HB1.out _) (below_alloc HB1.out _).size (by rw [HL.out]; simp) ?_) ; intro v2 w2 hR2 hB2 _ _; have HR2 := Aside0.mk hR2; have HB2 := Aside0.mk hB2; clear hR2 hB2)
    )
  go_ret
  exact ⟨_, rfl, HR2.out, HB2.out⟩
end Go.Proofs.Ythmfbkmdhnfbnaa.BloomW
