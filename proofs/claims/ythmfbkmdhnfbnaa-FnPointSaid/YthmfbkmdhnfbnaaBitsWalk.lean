/-
  spec.bitsOf: the bits of an item.
-/
import Derived.Test.YthmfbkmdhnfbnaaBloPure
import Derived.Test.YthmfbkmdhnfbnaaMurLaw
import Derived.Test.YthmfbkmdhnfbnaaTold
namespace Go.Proofs.Ythmfbkmdhnfbnaa.BloomW
open Go.RowKit Go.Proofs.Ythmfbkmdhnfbnaa.Hand Go.Proofs.YthmfbkmdhnfbnaaW.PrintWords Go.Proofs.YthmfbkmdhnfbnaaW.PrintLast Go.Proofs.YthmfbkmdhnfbnaaW.PrintMore Mur Blo

theorem info3 : (Try.prog.info? 3).map (fun i => (i.zero, i.size, i.bytes)) = some (some (.int .i64 0), 1, 8) := by kernel_rfl

/-- A filter as a value. -/
def bloV (A : Option Addr) (n c : Nat) (fu tw fl : Int) : Value := .agg #[.slice A n c, .int .u32 fu, .int .u32 tw, .int .i64 fl]
abbrev boxO (A : Option Addr) (n c : Nat) (fu tw fl : Int) : Obj := .cells #[.slice A n c, .int .u32 fu, .int .u32 tw, .int .i64 fl] 28 (0, 0)

/-- What the loop of bitsOf reads of the filter's box, in a world. -/
theorem box_cells {w : World} {g n c : Nat} {A : Option Addr} {fu tw fl : Int} (h : w.heap[g]? = some (boxO A n c fu tw fl)) :
    w.cell? ⟨g, 0, none⟩ = some (.slice A n c) ∧ w.cell? ⟨g, 1, none⟩ = some (.int .u32 fu) ∧ w.cell? ⟨g, 2, none⟩ = some (.int .u32 tw) ∧ w.cell? ⟨g, 3, none⟩ = some (.int .i64 fl) :=
  ⟨by rw [blk_cell h]; rfl, by rw [blk_cell h]; rfl, by rw [blk_cell h]; rfl, by rw [blk_cell h]; rfl⟩
theorem box_new (w : World) (o : Obj) : (w.alloc o).heap[w.heap.size]? = some o := by
  show (w.heap.push _)[w.heap.size]? = _
  simp
theorem blk_below {w W : World} {g : Nat} {o : Obj} (h : w.heap[g]? = some o) (hb : Below w.heap.size w W) : W.heap[g]? = some o := (hb.block g (blk_lt h)).trans h

theorem blk_grown {w2 w3 : World} {g : Nat} {o : Obj} {v : Value} (h : w2.heap[g]? = some o) (hne : some g ≠ v.ownBlock) (hg : w2.grownBy w3 v.ownBlock) : w3.heap[g]? = some o := (hg.block g (blk_lt h) hne).trans h

set_option maxHeartbeats 4000000 in
theorem bits_calls (A : Option Addr) (n c : Nat) (fu : Nat) (tw fl : Int) (Ai : Option Addr) (ci : Nat) (l : List Int) (w : World) (hC : Kd.C (Kd.int .u8) w Ai l.length l) (hc : l.length ≤ ci) (hl : l.length ≤ 100) (hr : ∀ x ∈ l, 0 ≤ x ∧ x < 256)
    (hn0 : 0 < n) (hn : n ≤ 2000) (hf : fu ≤ 50) :
    Calls Try.prog 27 #[.agg #[.slice A n c, .int .u32 fu, .int .u32 tw, .int .i64 fl], .slice Ai l.length ci] w fun e w' => ∃ v, e = .returned v ∧ Kd.R (Kd.int .i64) 3 w' w.heap.size (fun _ => True) v (bitsL fu tw n l) ∧ Below w.heap.size w w' := by
  have HC := Aside0.mk hC
  have HR := Aside0.mk hr
  clear hC hr
  have hw64 : IntKind.i64.wrap (8 * (n : Int)) = 8 * (n : Int) := by rw [IntKind.wrap_i64]; omega
  have hw32 : IntKind.u32.wrap (8 * (n : Int)) = 8 * (n : Int) := by rw [IntKind.wrap_u32]; omega
  have HW64 := Aside0.mk hw64
  have HW32 := Aside0.mk hw32
  clear hw64 hw32
  have i1 : (fu : Int) ≤ 50 := by omega
  go_enter Try.func27, Try.ntmps27
  go_wp2
  obtain ⟨g, hg⟩ : ∃ g, g = w.heap.size := ⟨_, rfl⟩
  have HG : Aside0 ((w.alloc (boxO A n c fu tw fl)).heap[g]? = some (boxO A n c fu tw fl)) := ⟨by rw [hg]; exact box_new _ _⟩
  have HB0 := Aside0.mk (below_alloc (Below.refl w.heap.size w) (boxO A n c fu tw fl))
  have HGE := Aside0.mk hg
  rw [← hg]
  have HO0 : Aside0 ((Kd.int .i64).R 3 ((w.alloc (boxO A n c fu tw fl)).alloc (.cells #[] 3)) w.heap.size (fun _ => True) (.slice (some ⟨g + 1, 0, none⟩) 0 0) []) := ⟨by
    have h := own_lit (w.alloc (boxO A n c fu tw fl)) w.heap.size 3 .i64 [] (by simp) (by simp)
    have e : (w.alloc (boxO A n c fu tw fl)).heap.size = g + 1 := by simp [hg]
    rw [e] at h
    exact Kd.R_of_own (enc := Value.int .i64) (h1 := fun _ => rfl) (xs := []) h (fun _ _ => trivial)⟩
  clear hg
  go_loopw [5, 6] (fun v5 v6 wr => ∃ i : Nat, v6 = .int .u32 i ∧ i ≤ fu ∧ Aside0 ((Kd.int .i64).R 3 wr w.heap.size (fun _ => True) v5 (bitsL i tw n l)) ∧ Aside0 (wr.heap[g]? = some (boxO A n c fu tw fl)) ∧ Aside0 (Below w.heap.size w wr)) (fun _ v6 _ => fu - (intOf v6).toNat)
  case atStart => exact ⟨0, rfl, Nat.zero_le _, HO0, ⟨blk_below HG.out (below_alloc (Below.refl _ _) _)⟩, ⟨below_alloc HB0.out _⟩⟩
  case round =>
    obtain ⟨i, rfl, hi, HO, HGr, HB⟩ := hrel
    clear HO0 HG HB0
    obtain ⟨k0, k1, k2, _⟩ := box_cells HGr.out
    by_cases hlt : i < fu
    · obtain ⟨sA, hA⟩ : ∃ sA, IntKind.u32.wrap ((i : Int) * 4221880213) = sA := ⟨_, rfl⟩
      obtain ⟨sB, hB⟩ : ∃ sB, IntKind.u32.wrap (sA + tw) = sB := ⟨_, rfl⟩
      obtain ⟨M, hM⟩ : ∃ M, mur sB l = M := ⟨_, rfl⟩
      obtain ⟨J, hJ⟩ : ∃ J, M.tmod (8 * (n : Int)) = J := ⟨_, rfl⟩
      have hJ2 : ix tw n l i = J := by
        unfold ix
        rw [← hJ, ← hM, ← hB, ← hA, IntKind.wrap_u32, IntKind.wrap_u32, Int.tmod_eq_emod_of_nonneg (mur_range _ _).1]
      have hJr := ix_range tw n l i hn0
      rw [hJ2] at hJr
      have hJ3 : IntKind.i64.wrap J = J := by rw [IntKind.wrap_i64]; omega
      have hJ4 : IntKind.u32.wrap J = J := by rw [IntKind.wrap_u32]; omega
      have HNE := Aside0.mk (Kd.R_ne HO.out HGr.out (by decide))
      have HMc : Aside0 (∀ W, Below wr.heap.size wr W → Calls Try.prog 9 #[.int .u32 sB, .slice Ai l.length ci] W fun e w' => e = .returned (.int .u32 M) ∧ Below W.heap.size W w') := ⟨fun W hW => by
        have := PFnMurmur.spec_calls sB Ai ci l W (Kd.C_below (Kd.C_below HC.out HB.out) hW) hc hl HR.out
        rwa [hM] at this⟩
      have HS : Aside0 (bitsL (i + 1) tw n l = bitsL i tw n l ++ [J]) := ⟨by rw [bitsL_snoc, hJ2]⟩
      have HL := Aside0.mk (bitsL_length i tw n l)
      have hz10 : ¬ 8 * (n : Int) = 0 := by omega
      have hw64 := HW64.out
      have hw32 := HW32.out
      clear hM hJ2 hJr
      go_wp2
      go_region_held3 (fun w' => w'.cell? ⟨g, 0, none⟩ = some (.slice A n c) ∧ w'.cell? ⟨g, 2, none⟩ = some (.int .u32 tw)) (first | (with_reducible exact ⟨(box_cells HX3.out).1, (box_cells HX3.out).2.2.1⟩) | (with_reducible exact ⟨pw_cell_below HB2.out k0, pw_cell_below HB2.out k2⟩) | go_keep)
        (first | (go_at_call 9; refine (HMc.out _ (below_drew (Below.refl _ _))).mono ?_; rintro e w2 ⟨rfl, hb2⟩; have HB2 := Aside0.mk (below_step (below_drew (Below.refl _ _)) hb2); clear hb2) | ((refine Kd.R_append_step (Kd.int .i64) (w0 := w) (W := w2) w.heap.size (by rfl) (.tmp 14) (.tmp 29) 52 3 (.int .i64 0) 8 (by rfl) Try.underlying52 info3 rfl (by decide) (by decide) _ (bitsL i tw n l) J [.int .i64 J] (fun _ => True) (fun _ => False) (by rfl) (by rfl) rfl (fun _ hk => hk.elim) (fun _ _ => trivial) (Kd.R_below HO.out HB2.out) (below_then HB.out HB.out.size HB2.out) (Nat.le_trans HB.out.size HB2.out.size) (by rw [HL.out]; omega) ?_); intro v3 w3 ho3 hb3 hg3 hat3; have HO3 := Aside0.mk ho3; have HB3 := Aside0.mk hb3; have HX3 := Aside0.mk (blk_grown (blk_below HGr.out HB2.out) HNE.out hg3); clear ho3 hb3 hg3 hat3))
      go_wp2
      go_roundw
      case rel => exact ⟨i + 1, by go_num, by omega, ⟨by rw [HS.out]; exact HO3.out⟩, HX3, HB3⟩
      case measure => simp [intOf]; omega
    · obtain rfl : i = fu := by omega
      go_wp2
      go_ret
      exact ⟨_, rfl, HO.out, HB.out⟩
end Go.Proofs.Ythmfbkmdhnfbnaa.BloomW
