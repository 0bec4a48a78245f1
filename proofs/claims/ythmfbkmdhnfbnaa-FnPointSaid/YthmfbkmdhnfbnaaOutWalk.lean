/-
  The package's outputs: addOutPoint, matchesOutPoint.
-/
import Derived.Test.YthmfbkmdhnfbnaaPointWalk
import Derived.Deep.RegionLaw
namespace Go.Proofs.Ythmfbkmdhnfbnaa.BloomW
open Go.RowKit Go.Proofs.Ythmfbkmdhnfbnaa.Hand Go.Proofs.YthmfbkmdhnfbnaaW.PrintWords Go.Proofs.YthmfbkmdhnfbnaaW.PrintLast Go.Proofs.YthmfbkmdhnfbnaaW.PrintMore Mur Blo

/-- PutUint32 behind the first 32 bytes of a row of 36. -/
theorem put_calls (g : Nat) (hs : List Int) (a b c d i : Int) (w : World) (hl : hs.length = 32) (h0 : 0 ≤ i) (h1 : i < 4294967296) (hg : w.heap[g]? = some (.cells (hx (hs ++ [a, b, c, d])) 79 (0, 0))) :
    Calls Try.prog 45 #[.agg #[], .slice (some ⟨g, 32, none⟩) 4 4, .int .u32 i] w fun e w' => e = .returned (.tuple #[]) ∧ w'.heap[g]? = some (.cells (hx (hs ++ le4 i)) 79 (0, 0)) ∧ ∀ B, B ≤ g → B ≤ w.heap.size → Below B w w' := by
  have cell : ∀ W : World, ∀ ys : List Int, W.heap[g]? = some (.cells (hx (hs ++ ys)) 79 (0, 0)) → ∀ k, W.cell? ⟨g, 32 + k, none⟩ = (ys.map (Value.int .u8))[k]? := fun W ys h k => by
    rw [blk_cell h]
    unfold hx
    rw [List.getElem?_toArray, List.map_append, List.getElem?_append_right (by simp; omega)]
    simp [hl]
  have hg1 := blk_below hg (below_alloc (Below.refl w.heap.size w) (.cells #[] 68))
  have HG := Aside0.mk hg1
  have c0 := cell _ _ hg1 0
  have c1 := cell _ _ hg1 1
  have c2 := cell _ _ hg1 2
  have c3 := cell _ _ hg1 3
  have f0 := blk_frozen hg1 32
  have f1 := blk_frozen hg1 33
  have f2 := blk_frozen hg1 34
  have f3 := blk_frozen hg1 35
  simp only [List.map, List.getElem?_cons_zero, List.getElem?_cons_succ] at c0 c1 c2 c3
  have HH := Aside0.mk hl
  clear hg hg1 cell hl
  go_enter Try.func45, Try.ntmps45
  go_wp2
  go_end0
  have hpure : ((((hx (hs ++ [a, b, c, d])).setIfInBounds 32 (.int .u8 (i % 256))).setIfInBounds 33 (.int .u8 (i / 256 % 256))).setIfInBounds 34 (.int .u8 (i / 65536 % 256))).setIfInBounds 35 (.int .u8 (i / 16777216)) = hx (hs ++ le4 i) := by
    have h32 := HH.out
    unfold hx le4
    apply Array.ext'
    simp only [List.setIfInBounds_toArray, List.map_append, List.map_cons, List.map_nil]
    have e : ∀ (k : Nat) (xs ys : List Value) (v : Value), xs.length = 32 → (xs ++ ys).set (32 + k) v = xs ++ ys.set k v := fun k xs ys v hk => by
      rw [List.set_append_right _ _ (by omega)]; congr 2; omega
    have hm : (List.map (Value.int .u8) hs).length = 32 := by simp [h32]
    rw [e 0 _ _ _ hm, e 1 _ _ _ hm, e 2 _ _ _ hm, e 3 _ _ _ hm]
    rfl
  refine ⟨rfl, ?_, fun B hB hw => ?_⟩
  · rw [← hpure]
    exact blk_set (blk_set (blk_set (blk_set HG.out 32 _) 33 _) 34 _) 35 _
  · exact (((((below_then (Below.refl B w) hw (below_alloc (Below.refl w.heap.size w) (.cells #[] 68))).setCell hB _).setCell hB _).setCell hB _).setCell hB _)

abbrev zeroes36 : Obj := .cells (List.replicate 36 (Value.int .u8 0)).toArray 79 (0, 0)
theorem one5 : (Try.prog.info? 5).map (·.size) = some 1 := by kernel_rfl

theorem splice36 (hs : List Int) (hl : hs.length = 32) : (splice (List.replicate 36 (Value.int .u8 0)) 0 (hs.map (Value.int .u8))).toArray = hx (hs ++ [0, 0, 0, 0]) := by
  unfold splice hx
  rw [List.length_map, hl, List.map_append]
  rfl

theorem len36 (hs : List Int) (i : Int) (hl : hs.length = 32) : (hs ++ le4 i).length = 36 := by rw [List.length_append, hl]; rfl
theorem le4_range {hs : List Int} {i : Int} (hr : ∀ x ∈ hs, 0 ≤ x ∧ x < 256) (h0 : 0 ≤ i) (h1 : i < 4294967296) : ∀ x ∈ hs ++ le4 i, 0 ≤ x ∧ x < 256 := by
  intro x hx
  rcases List.mem_append.1 hx with h | h
  · exact hr x h
  · simp only [le4, List.mem_cons, List.not_mem_nil, or_false] at h
    omega

set_option maxHeartbeats 4000000 in
theorem addOut_calls (f m c fu go q : Nat) (D : List Int) (n : Nat) (tw fl : Int) (hs : List Int) (i : Int) (w0 w : World) (hB : Below w0.heap.size w0 w) (hF : FB w f m (some ⟨go, 0, none⟩) n c fu tw fl) (hD : (Kd.int .u8).R 5 w w0.heap.size (fun _ => True) (.slice (some ⟨go, 0, none⟩) n c) D)
    (hl : hs.length = 32) (h0 : 0 ≤ i) (h1 : i < 4294967296) (hr : ∀ x ∈ hs, 0 ≤ x ∧ x < 256) (hq : Kd.C (Kd.int .u8) w (some ⟨q, 0, none⟩) hs.length hs) (hi : w.cell? ⟨q, 32, none⟩ = some (.int .u32 i)) (hn0 : 0 < n) (hn : n ≤ 2000) (hf : fu ≤ 50) :
    Calls Try.prog 40 #[.pointer (some ⟨f, 0, none⟩), .pointer (some ⟨q, 0, none⟩)] w fun e w' => e = .returned (.tuple #[]) ∧ (Kd.int .u8).R 5 w' w0.heap.size (fun _ => True) (.slice (some ⟨go, 0, none⟩) n c) (added D (bitsL fu tw n (hs ++ le4 i))) ∧ Below w0.heap.size w0 w' ∧ KeepBut w w' go none := by
  have HF := Aside0.mk hF
  have HD := Aside0.mk hD
  have HB := Aside0.mk hB
  have HL := Aside0.mk hl
  have HR := Aside0.mk hr
  have HQ := Aside0.mk hq
  have HI := Aside0.mk hi
  clear hF hD hB hl hr hq hi
  go_enter Try.func40, Try.ntmps40
  go_wp2
  have HB0 := Aside0.mk (below_alloc (Below.refl w.heap.size w) zeroes36)
  obtain ⟨g, hg⟩ : ∃ g, g = w.heap.size := ⟨_, rfl⟩
  have HGE := Aside0.mk hg
  have HG0 : Aside0 ((w.alloc zeroes36).heap[g]? = some (.cells (List.replicate 36 (Value.int .u8 0)).toArray 79 (0, 0))) := ⟨by rw [hg]; exact box_new _ _⟩
  change Code.wp _ _ _ _ (w.alloc zeroes36)
  rw [← hg]
  clear hg
  revert HB0 HG0
  generalize w.alloc zeroes36 = W
  intro HB0 HG0
  obtain ⟨X, hX⟩ : ∃ X, X = hs.map (Value.int .u8) := ⟨_, rfl⟩
  have HXL : Aside0 (X.length = 32) := ⟨by rw [hX, List.length_map, HL.out]⟩
  have HX1 : Aside0 (∀ v ∈ X, v.oneCell' = true) := ⟨by rw [hX]; exact ints_one _ _⟩
  have HXC : Aside0 (∀ j v, X[j]? = some v → W.cell? ((⟨q, 0, none⟩ : Addr).add j) = some v) := ⟨by
    obtain ⟨ad, e, h⟩ := C_cells (Kd.C_below HQ.out HB0.out) (by rw [HL.out]; omega)
    injection e with e
    subst e
    rw [hX]
    exact h⟩
  have HX := Aside0.mk hX
  clear hX
  go_region_law (refine step_copy_splice rfl (.tmp 5) (.tmp 9) 23 23 rfl 5 Try.underlying23 one5 (some ⟨g, 0, none⟩) (some ⟨q, 0, none⟩) 36 36 32 32 (by simp [Act.eval, Act.put]) (by simp [Act.eval, Act.put]) g 0 (List.replicate 36 (.int .u8 0)) 79 HG0.out X (by rw [HXL.out]; rfl) (fun _ => ⟨rfl, _, rfl, HXC.out⟩) (by rw [HXL.out]; simp) HX1.out w.heap.size w (below_drew HB0.out) (Nat.le_of_eq HGE.out.symm) ?_; intro w2 hg2 hb2)
  have HG2 : Aside0 (w2.heap[g]? = some (.cells (hx (hs ++ [0, 0, 0, 0])) 79 (0, 0))) := ⟨by
    have h := hg2.out
    rw [HX.out, splice36 hs HL.out] at h
    exact h⟩
  have HB2 := Aside0.mk hb2
  have k0 := pw_cell_below hb2 HI.out
  clear hg2 hb2
  go_wp2
  go_region_held3 (fun w' => w'.cell? ⟨q, 32, none⟩ = some (.int .u32 i))
    (first | (with_reducible exact pw_cell_below HB3.out HI.out) | go_keep)
    (first | (go_at_call 45; refine (put_calls g hs 0 0 0 0 i w2.drew HL.out h0 h1 HG2.out).mono ?_; rintro e w3 ⟨rfl, hg3, hb3⟩; have HG3 := Aside0.mk hg3; have HB3 := Aside0.mk ((below_drew HB2.out).trans (hb3 w.heap.size (Nat.le_of_eq HGE.out.symm) HB2.out.size)); clear hg3 hb3))
  have HA : Aside0 (Calls Try.prog 37 #[.pointer (some ⟨f, 0, none⟩), .slice (some ⟨g, 0, none⟩) 36 36] w3 fun e w' => e = .returned (.tuple #[]) ∧ (Kd.int .u8).R 5 w' w0.heap.size (fun _ => True) (.slice (some ⟨go, 0, none⟩) n c) (added D (bitsL fu tw n (hs ++ le4 i))) ∧ Below w0.heap.size w0 w' ∧ KeepBut w3 w' go none) := ⟨by
    have hlen := len36 hs i HL.out
    have h := add_calls f m c fu go D n tw fl (some ⟨g, 0, none⟩) 36 (hs ++ le4 i) w0 w3 (below_then HB.out HB.out.size HB3.out) (HF.out.below HB3.out) (Kd.R_below HD.out HB3.out) (fun W hk => C_of_block (hk.blk HG3.out (by have := ((Kd.R_bound HD.out).1 go rfl).2.2.1; have := HGE.out; omega) (by simp)) (by rw [hlen]; decide)) (by omega) (by omega) (le4_range HR.out h0 h1) hn0 hn hf
    rw [hlen] at h
    exact h⟩
  clear k0
  go_wp2_with (first | (go_at_call 37; refine HA.out.mono ?_; rintro e w4 ⟨rfl, q1, q2, q3⟩; have Q1 := Aside0.mk q1; have Q2 := Aside0.mk q2; have Q3 := Aside0.mk ((KeepBut.of_below HB3.out go none).trans q3 (.inl rfl)); clear q1 q2 q3) | fail)
  go_end0
  exact ⟨rfl, Q1.out, Q2.out, Q3.out⟩

theorem AddOut_calls (f m c fu go q : Nat) (D : List Int) (n : Nat) (tw fl : Int) (hs : List Int) (i : Int) (w0 w : World) (hB : Below w0.heap.size w0 w) (hF : FB w f m (some ⟨go, 0, none⟩) n c fu tw fl) (hD : (Kd.int .u8).R 5 w w0.heap.size (fun _ => True) (.slice (some ⟨go, 0, none⟩) n c) D)
    (hl : hs.length = 32) (h0 : 0 ≤ i) (h1 : i < 4294967296) (hr : ∀ x ∈ hs, 0 ≤ x ∧ x < 256) (hq : Kd.C (Kd.int .u8) w (some ⟨q, 0, none⟩) hs.length hs) (hi : w.cell? ⟨q, 32, none⟩ = some (.int .u32 i)) (hn0 : 0 < n) (hn : n ≤ 2000) (hf : fu ≤ 50) :
    Calls Try.prog 32 #[.pointer (some ⟨f, 0, none⟩), .pointer (some ⟨q, 0, none⟩)] w fun e w' => e = .returned (.tuple #[]) ∧ (Kd.int .u8).R 5 w' w0.heap.size (fun _ => True) (.slice (some ⟨go, 0, none⟩) n c) (added D (bitsL fu tw n (hs ++ le4 i))) ∧ Below w0.heap.size w0 w' ∧ KeepBut w w' go none := by
  have HM := Aside0.mk (addOut_calls f m c fu go q D n tw fl hs i w0 w hB hF hD hl h0 h1 hr hq hi hn0 hn hf)
  clear hF hD hr hq hi
  go_enter Try.func32, Try.ntmps32
  go_wp2_with (first | (go_at_call 40; refine HM.out.mono ?_; rintro e w1 ⟨rfl, h1, h2, h3⟩) | fail)
  go_end0
  exact ⟨rfl, h1, h2, h3⟩

set_option maxHeartbeats 4000000 in
theorem matchOut_calls (f m fu q : Nat) (A : Option Addr) (c : Nat) (D : List Int) (n : Nat) (tw fl : Int) (hs : List Int) (i : Int) (w : World) (hF : FB w f m A n c fu tw fl) (hD : Kd.C (Kd.int .u8) w A n D) (hDr : ∀ x ∈ D, 0 ≤ x ∧ x < 256)
    (hl : hs.length = 32) (h0 : 0 ≤ i) (h1 : i < 4294967296) (hr : ∀ x ∈ hs, 0 ≤ x ∧ x < 256) (hq : Kd.C (Kd.int .u8) w (some ⟨q, 0, none⟩) hs.length hs) (hi : w.cell? ⟨q, 32, none⟩ = some (.int .u32 i)) (hn0 : 0 < n) (hn : n ≤ 2000) (hf : fu ≤ 50) :
    Calls Try.prog 41 #[.pointer (some ⟨f, 0, none⟩), .pointer (some ⟨q, 0, none⟩)] w fun e w' => e = .returned (.bool (might D (bitsL fu tw n (hs ++ le4 i)))) ∧ Below w.heap.size w w' := by
  have HF := Aside0.mk hF
  have HD := Aside0.mk hD
  have HDr := Aside0.mk hDr
  have HL := Aside0.mk hl
  have HR := Aside0.mk hr
  have HQ := Aside0.mk hq
  have HI := Aside0.mk hi
  obtain ⟨B, hB⟩ : ∃ B, B = might D (bitsL fu tw n (hs ++ le4 i)) := ⟨_, rfl⟩
  rw [← hB]
  have HBB := Aside0.mk hB
  clear hF hD hDr hl hr hq hi hB
  go_enter Try.func41, Try.ntmps41
  go_wp2
  have HB0 := Aside0.mk (below_alloc (Below.refl w.heap.size w) zeroes36)
  obtain ⟨g, hg⟩ : ∃ g, g = w.heap.size := ⟨_, rfl⟩
  have HGE := Aside0.mk hg
  have HG0 : Aside0 ((w.alloc zeroes36).heap[g]? = some (.cells (List.replicate 36 (Value.int .u8 0)).toArray 79 (0, 0))) := ⟨by rw [hg]; exact box_new _ _⟩
  change Code.wp _ _ _ _ (w.alloc zeroes36)
  rw [← hg]
  clear hg
  revert HB0 HG0
  generalize w.alloc zeroes36 = W
  intro HB0 HG0
  obtain ⟨X, hX⟩ : ∃ X, X = hs.map (Value.int .u8) := ⟨_, rfl⟩
  have HXL : Aside0 (X.length = 32) := ⟨by rw [hX, List.length_map, HL.out]⟩
  have HX1 : Aside0 (∀ v ∈ X, v.oneCell' = true) := ⟨by rw [hX]; exact ints_one _ _⟩
  have HXC : Aside0 (∀ j v, X[j]? = some v → W.cell? ((⟨q, 0, none⟩ : Addr).add j) = some v) := ⟨by
    obtain ⟨ad, e, h⟩ := C_cells (Kd.C_below HQ.out HB0.out) (by rw [HL.out]; omega)
    injection e with e
    subst e
    rw [hX]
    exact h⟩
  have HX := Aside0.mk hX
  clear hX
  go_region_law (refine step_copy_splice rfl (.tmp 6) (.tmp 10) 23 23 rfl 5 Try.underlying23 one5 (some ⟨g, 0, none⟩) (some ⟨q, 0, none⟩) 36 36 32 32 (by simp [Act.eval, Act.put]) (by simp [Act.eval, Act.put]) g 0 (List.replicate 36 (.int .u8 0)) 79 HG0.out X (by rw [HXL.out]; rfl) (fun _ => ⟨rfl, _, rfl, HXC.out⟩) (by rw [HXL.out]; simp) HX1.out w.heap.size w (below_drew HB0.out) (Nat.le_of_eq HGE.out.symm) ?_; intro w2 hg2 hb2)
  have HG2 : Aside0 (w2.heap[g]? = some (.cells (hx (hs ++ [0, 0, 0, 0])) 79 (0, 0))) := ⟨by
    have h := hg2.out
    rw [HX.out, splice36 hs HL.out] at h
    exact h⟩
  have HB2 := Aside0.mk hb2
  have k0 := pw_cell_below hb2 HI.out
  clear hg2 hb2
  go_wp2
  go_region_held3 (fun w' => w'.cell? ⟨q, 32, none⟩ = some (.int .u32 i))
    (first | (with_reducible exact pw_cell_below HB3.out HI.out) | go_keep)
    (first | (go_at_call 45; refine (put_calls g hs 0 0 0 0 i w2.drew HL.out h0 h1 HG2.out).mono ?_; rintro e w3 ⟨rfl, hg3, hb3⟩; have HG3 := Aside0.mk hg3; have HB3 := Aside0.mk ((below_drew HB2.out).trans (hb3 w.heap.size (Nat.le_of_eq HGE.out.symm) HB2.out.size)); clear hg3 hb3))
  have HA : Aside0 (Calls Try.prog 39 #[.pointer (some ⟨f, 0, none⟩), .slice (some ⟨g, 0, none⟩) 36 36] w3 fun e w' => e = .returned (.bool B) ∧ Below w3.heap.size w3 w') := ⟨by
    have hlen := len36 hs i HL.out
    have h := match_calls f m c fu A D n tw fl (some ⟨g, 0, none⟩) 36 (hs ++ le4 i) w3 (HF.out.below HB3.out) (Kd.C_below HD.out HB3.out) HDr.out (C_of_block HG3.out (by rw [hlen]; decide)) (by omega) (by omega) (le4_range HR.out h0 h1) hn0 hn hf
    rw [hlen, ← HBB.out] at h
    exact h⟩
  clear k0
  go_wp2_with (first | (go_at_call 39; refine HA.out.mono ?_; rintro e w4 ⟨rfl, q1⟩; have Q1 := Aside0.mk (below_step HB3.out q1); clear q1) | fail)
  go_ret
  exact ⟨rfl, Q1.out⟩

theorem MatchOut_calls (f m fu q : Nat) (A : Option Addr) (c : Nat) (D : List Int) (n : Nat) (tw fl : Int) (hs : List Int) (i : Int) (w : World) (hF : FB w f m A n c fu tw fl) (hD : Kd.C (Kd.int .u8) w A n D) (hDr : ∀ x ∈ D, 0 ≤ x ∧ x < 256)
    (hl : hs.length = 32) (h0 : 0 ≤ i) (h1 : i < 4294967296) (hr : ∀ x ∈ hs, 0 ≤ x ∧ x < 256) (hq : Kd.C (Kd.int .u8) w (some ⟨q, 0, none⟩) hs.length hs) (hi : w.cell? ⟨q, 32, none⟩ = some (.int .u32 i)) (hn0 : 0 < n) (hn : n ≤ 2000) (hf : fu ≤ 50) :
    Calls Try.prog 33 #[.pointer (some ⟨f, 0, none⟩), .pointer (some ⟨q, 0, none⟩)] w fun e w' => e = .returned (.bool (might D (bitsL fu tw n (hs ++ le4 i)))) ∧ Below w.heap.size w w' := by
  have HM := Aside0.mk (matchOut_calls f m fu q A c D n tw fl hs i w hF hD hDr hl h0 h1 hr hq hi hn0 hn hf)
  generalize might D (bitsL fu tw n (hs ++ le4 i)) = B at HM ⊢
  clear hF hD hDr hr hq hi
  go_enter Try.func33, Try.ntmps33
  go_wp2_with (first | (go_at_call 41; refine HM.out.mono ?_; rintro e w1 ⟨rfl, hb1⟩) | fail)
  go_ret
  exact ⟨rfl, hb1⟩
end Go.Proofs.Ythmfbkmdhnfbnaa.BloomW
