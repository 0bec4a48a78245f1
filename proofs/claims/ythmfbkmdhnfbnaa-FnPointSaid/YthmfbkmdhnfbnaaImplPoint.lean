/-
  impl.AddPoint, impl.MatchesPoint.
-/
import Derived.Test.YthmfbkmdhnfbnaaOutWalk
namespace Go.Proofs.Ythmfbkmdhnfbnaa.BloomW
open Go.RowKit Go.Proofs.Ythmfbkmdhnfbnaa.Hand Go.Proofs.YthmfbkmdhnfbnaaW.PrintWords Go.Proofs.YthmfbkmdhnfbnaaW.PrintLast Go.Proofs.YthmfbkmdhnfbnaaW.PrintMore Mur Blo

theorem size40 : (Try.prog.info? 40).map (·.size) = some 32 := by kernel_rfl

/-- An output's cells, as the struct is built. -/
abbrev outA (X : Array Value) (i : Int) : Array Value :=
  (Array.foldl (fun cs x => cs.setIfInBounds x.2 x.1)
    #[.int .u8 0, .int .u8 0, .int .u8 0, .int .u8 0, .int .u8 0, .int .u8 0, .int .u8 0, .int .u8 0, .int .u8 0, .int .u8 0, .int .u8 0, .int .u8 0, .int .u8 0, .int .u8 0, .int .u8 0, .int .u8 0,
      .int .u8 0, .int .u8 0, .int .u8 0, .int .u8 0, .int .u8 0, .int .u8 0, .int .u8 0, .int .u8 0, .int .u8 0, .int .u8 0, .int .u8 0, .int .u8 0, .int .u8 0, .int .u8 0, .int .u8 0, .int .u8 0, .int .u32 0]
    X.zipIdx 0 32).setIfInBounds 32 (.int .u32 i)
theorem fold_arr (X Z : Array Value) (n : Nat) (hn : X.size = n) : Array.foldl (fun cs x => cs.setIfInBounds x.2 x.1) Z X.zipIdx 0 n = X.toList.zipIdx.foldl (fun cs x => cs.setIfInBounds x.2 x.1) Z := by
  subst hn
  have e : X.size = X.zipIdx.size := by simp
  rw [e, ← Array.foldl_toList]
  simp
theorem fold_set (xs : List Value) : ∀ (k : Nat) (Z : Array Value), k + xs.length ≤ Z.size → ((xs.zipIdx k).foldl (fun cs x => cs.setIfInBounds x.2 x.1) Z).toList = Z.toList.take k ++ (xs ++ Z.toList.drop (k + xs.length)) := by
  induction xs with
  | nil => intro k Z h; simp
  | cons x xs ih =>
    intro k Z h
    rw [List.length_cons] at h
    rw [List.zipIdx_cons, List.foldl_cons, ih (k + 1) _ (by simp; omega)]
    simp only [Array.toList_setIfInBounds, List.length_cons]
    have hk : k < Z.toList.length := by simp; omega
    rw [List.take_succ_eq_append_getElem (by simpa using hk), List.take_set_of_le (Nat.le_refl _), List.getElem_set_self, List.drop_set_of_lt (by omega)]
    simp [Nat.add_comm, Nat.add_left_comm]
theorem outA_is (hs : List Int) (i : Int) (hl : hs.length = 32) : outA (hx hs) i = (hx hs).push (.int .u32 i) := by
  have hz : (hx hs).size = 32 := by simp [hx, hl]
  unfold outA
  rw [fold_arr _ _ 32 hz]
  apply Array.ext'
  rw [Array.toList_setIfInBounds, fold_set _ 0 _ (by simp [hz])]
  have e : (hx hs).toList.length = 32 := by simpa using hz
  simp only [List.take_zero, List.nil_append, Nat.zero_add, Array.toList_push, e]
  rw [List.set_append_right _ _ (by omega), e]
  rfl
theorem out_size (X : Array Value) (hX : X.size = 32) (Z : Array Value) : (Array.foldl (fun cs x => cs.setIfInBounds x.2 x.1) Z X.zipIdx 0 32).size = Z.size := by
  rw [fold_arr _ _ 32 hX]
  generalize X.toList.zipIdx = l
  induction l generalizing Z with
  | nil => rfl
  | cons x l ih => rw [List.foldl_cons, ih]; simp
theorem out_box (w : World) (hs : List Int) (i : Int) (hl : hs.length = 32) :
    Kd.C (Kd.int .u8) (w.alloc (.cells (outA (hx hs) i) 63 (0, 0))) (some ⟨w.heap.size, 0, none⟩) hs.length hs ∧ (w.alloc (.cells (outA (hx hs) i) 63 (0, 0))).cell? ⟨w.heap.size, 32, none⟩ = some (.int .u32 i) := by
  rw [outA_is hs i hl]
  have hb := box_new w (.cells ((hx hs).push (.int .u32 i)) 63 (0, 0))
  have hz : (hx hs).size = 32 := by simp [hx, hl]
  refine ⟨⟨rfl, by rw [hl]; decide, fun _ => ⟨⟨w.heap.size, 0, none⟩, rfl, fun j p hj => ⟨[.int .u8 p], rfl, rfl, fun k u hu => ?_⟩⟩⟩, ?_⟩
  · match k, hu with
    | 0, hu =>
      simp only [List.getElem?_cons_zero, Option.some.injEq] at hu
      subst hu
      have e1 : (Kd.int .u8).sz = 1 := rfl
      have hjl := (List.getElem?_eq_some_iff.1 hj).1
      rw [e1, add_plain, blk_cell hb, Array.getElem?_push, if_neg (by rw [hz]; omega)]
      simp [hx, hj]
  · rw [blk_cell hb, Array.getElem?_push, if_pos hz.symm]

set_option maxHeartbeats 8000000 in
theorem implAddPoint_calls (A : Option Addr) (c : Nat) (D : List Int) (fu : Nat) (tw fl : Int) (hs : List Int) (i : Int) (w : World) (hD : Kd.C (Kd.int .u8) w A D.length D)
    (hl : hs.length = 32) (h0 : 0 ≤ i) (h1 : i < 4294967296) (hr : ∀ x ∈ hs, 0 ≤ x ∧ x < 256)
    (hn0 : 0 < D.length) (hn : D.length ≤ 2000) (hf : fu ≤ 50) (hfl0 : 0 ≤ fl) (hfl1 : fl ≤ 255) :
    Calls Try.prog 19 #[.agg #[.slice A D.length c, .int .u32 fu, .int .u32 tw, .int .i64 fl], .agg (hx hs), .int .u32 i] w fun e w' => ∃ v, e = .returned (.tuple #[.agg #[v, .int .u32 fu, .int .u32 tw, .int .i64 fl], .bool true]) ∧ Kd.R (Kd.int .u8) 5 w' w.heap.size (fun _ => True) v (added D (bitsL fu tw D.length (hs ++ le4 i))) ∧ Below w.heap.size w w' := by
  have HD := Aside0.mk hD
  have HL := Aside0.mk hl
  have HR := Aside0.mk hr
  obtain ⟨n, hnn⟩ : ∃ n, n = D.length := ⟨_, rfl⟩
  have HDL := Aside0.mk hnn
  obtain ⟨X, hX⟩ : ∃ X, X = hx hs := ⟨_, rfl⟩
  have HX := Aside0.mk hX
  rw [← hX]
  have hxs : X.size = 32 := by rw [hX]; simp [hx, hl]
  have hfz := out_size X hxs #[.int .u8 0, .int .u8 0, .int .u8 0, .int .u8 0, .int .u8 0, .int .u8 0, .int .u8 0, .int .u8 0, .int .u8 0, .int .u8 0, .int .u8 0, .int .u8 0, .int .u8 0, .int .u8 0, .int .u8 0, .int .u8 0, .int .u8 0, .int .u8 0, .int .u8 0, .int .u8 0, .int .u8 0, .int .u8 0, .int .u8 0, .int .u8 0, .int .u8 0, .int .u8 0, .int .u8 0, .int .u8 0, .int .u8 0, .int .u8 0, .int .u8 0, .int .u8 0, .int .u32 0]
  simp only [List.size_toArray, List.length_cons, List.length_nil, Nat.reduceAdd] at hfz
  have HXS : Aside0 ((Try.prog.info? 40).map (·.size) = some X.size) := ⟨by rw [size40, hX]; simp [hx, hl]⟩
  have HLD : Aside0 (∀ w2, Below w.heap.size w w2 → Calls Try.prog 28 #[.agg #[.slice A n c, .int .u32 fu, .int .u32 tw, .int .i64 fl]] w2 fun e w' => ∃ f m go c1, e = .returned (.pointer (some ⟨f, 0, none⟩)) ∧ FB w' f m (some ⟨go, 0, none⟩) n c1 fu tw fl ∧ (Kd.int .u8).R 5 w' w2.heap.size (fun _ => True) (.slice (some ⟨go, 0, none⟩) n c1) D ∧ Below w2.heap.size w2 w') := ⟨fun w2 h2 => by
    rw [hnn]; exact loaded_calls A c D fu tw fl w2 (Kd.C_below hD h2) hn0 hn hf hfl0 hfl1⟩
  rw [← hnn] at hn0 hn ⊢
  obtain ⟨R, hR⟩ : ∃ R, R = added D (bitsL fu tw n (hs ++ le4 i)) := ⟨_, rfl⟩
  rw [← hR]
  have HRL : Aside0 (R.length = n) := ⟨by rw [hR, added_length, ← HDL.out]⟩
  have HAO : Aside0 (∀ (w1 : World) f m go c1, FB w1 f m (some ⟨go, 0, none⟩) n c1 fu tw fl → (Kd.int .u8).R 5 w1 (((w.alloc (boxO A n c fu tw fl)).alloc (.cells X 40 (0, 0))).alloc zeroO).heap.size (fun _ => True) (.slice (some ⟨go, 0, none⟩) n c1) D → Below w.heap.size w w1 →
      Calls Try.prog 32 #[.pointer (some ⟨f, 0, none⟩), .pointer (some ⟨w1.heap.size, 0, none⟩)] (w1.alloc (.cells (outA X i) 63 (0, 0))) fun e w' => e = .returned (.tuple #[]) ∧ (Kd.int .u8).R 5 w' w.heap.size (fun _ => True) (.slice (some ⟨go, 0, none⟩) n c1) R ∧ Below w.heap.size w w' ∧ KeepBut (w1.alloc (.cells (outA X i) 63 (0, 0))) w' go none) := ⟨fun w1 f m go c1 hF hR1 hb => by
    obtain ⟨hq, hi⟩ := out_box w1 hs i hl
    rw [← hX] at hq hi
    rw [hR]
    exact AddOut_calls f m c1 fu go w1.heap.size D n tw fl hs i w _ (below_alloc hb _) (hF.below (below_alloc (Below.refl _ _) _)) (Kd.R_lower (Kd.R_below hR1 (below_alloc (Below.refl _ _) _)) (by simp; omega)) hl h0 h1 hr hq hi hn0 hn hf⟩
  clear hD hnn hl hr hX hR
  go_enter Try.func19, Try.ntmps19
  have HB0 := Aside0.mk (below_alloc (below_alloc (below_alloc (Below.refl w.heap.size w) (boxO A n c fu tw fl)) (.cells X 40 (0, 0))) zeroO)
  have HZ : Aside0 ((((w.alloc (boxO A n c fu tw fl)).alloc (.cells X 40 (0, 0))).alloc zeroO).heap[w.heap.size + 2]? = some zeroO) := ⟨by
    have := box_new ((w.alloc (boxO A n c fu tw fl)).alloc (.cells X 40 (0, 0))) zeroO
    simpa using this⟩
  have HXB : Aside0 ((((w.alloc (boxO A n c fu tw fl)).alloc (.cells X 40 (0, 0))).alloc zeroO).heap[w.heap.size + 1]? = some (.cells X 40 (0, 0))) := ⟨by
    have := blk_below (box_new (w.alloc (boxO A n c fu tw fl)) (.cells X 40 (0, 0))) (below_alloc (Below.refl _ _) zeroO)
    simpa using this⟩
  go_wp2_with (first
    | (go_at_call 28; refine (HLD.out _ HB0.out).mono ?_; rintro e w1 ⟨f, m, go, c1, rfl, hF, hR, hb⟩; have HF1 := Aside0.mk hF; have HR1 := Aside0.mk hR; have HB1 := Aside0.mk (below_step HB0.out hb); have HZ1 := Aside0.mk (blk_below HZ.out hb); have HXB1 := Aside0.mk (blk_below HXB.out hb); clear hF hR hb)
    | ((with_reducible show wpList _ _ _ _ _ _); (with_reducible refine wpList_load_row (o := ⟨some 15, _, _, _, _, _⟩) rfl 40 (.tmp 4) rfl (w.heap.size + 1) rfl 40 X (0, 0) _ HXB1.out Try.underlying40 rfl HXS.out ?_))
    | (go_at_call 32; refine (HAO.out w1 f m go c1 HF1.out HR1.out HB1.out).mono ?_; rintro e w4 ⟨rfl, q1, q2, q3⟩; have HS4 := Aside0.mk q1; have HB4 := Aside0.mk q2; have HGB : Aside0 (w.heap.size + 2 < go) := ⟨by
        have h1 := ((Kd.R_bound HR1.out).1 go rfl).2.1
        simp at h1
        omega⟩; have HNE : Aside0 (f ≠ go ∧ m ≠ go) := ⟨by
        obtain ⟨cs, hgo⟩ := own_typed (Kd.own_of_R HR1.out) go rfl
        exact ⟨fun e => by have h := HF1.out.hF; rw [e, hgo] at h; simp at h, fun e => by have h := HF1.out.hM; rw [e, hgo] at h; simp at h⟩⟩; have HZ4 := Aside0.mk (q3.blk (blk_below HZ1.out (below_alloc (Below.refl _ _) _)) (by have := HGB.out; omega) (by simp)); have HF4 : Aside0 (FB w4 f m (some ⟨go, 0, none⟩) n c1 fu tw fl) := ⟨q3.blk (blk_below HF1.out.hF (below_alloc (Below.refl _ _) _)) HNE.out.1 (by simp), q3.blk (blk_below HF1.out.hM (below_alloc (Below.refl _ _) _)) HNE.out.2 (by simp)⟩; have HT4 := Aside0.mk (PFnNew.told_calls f m (some ⟨go, 0, none⟩) c1 R fu tw fl w4 hfl0 hfl1 (by rw [HRL.out]; exact HF4.out.filt) (by have h := (Kd.R_reads' HS4.out).2.2; rw [← (Kd.R_reads' HS4.out).1] at h ⊢; exact h) (by have := HRL.out; omega)); clear q1 q2 q3)
    | (go_at_call 30; refine HT4.out.mono ?_; rintro e w5 ⟨v5, rfl, hR5, hb5⟩; obtain ⟨A5, c5, rfl⟩ := Kd.R_slice hR5; obtain ⟨HX5, q0, q1, q2, q3, f0, f1, f2, f3⟩ := PFnNew.res_facts HZ4.out hb5; obtain ⟨r0, r1, r2, r3⟩ := PFnNew.res_cells HX5.out (.slice A5 R.length c5) (.int .u32 fu) (.int .u32 tw) (.int .i64 fl); have HR5 := Aside0.mk hR5; have HB5 := Aside0.mk (below_step HB4.out hb5); have HWR := Aside0.mk (blk_lt HZ4.out); clear hR5 hb5)
    | fail)
  refine bodyPost_ret (v := .tuple #[.agg #[.slice A5 R.length c5, .int .u32 fu, .int .u32 tw, .int .i64 fl], .bool true]) (by simp [results, Try.results19, go_sem, r0, r1, r2, r3]) rfl ⟨.slice A5 R.length c5, rfl, ?_, ?_⟩
  · have hok : (Kd.int .u8).R 5 w5 w4.heap.size (fun k => k ≠ w.heap.size + 2) (.slice A5 R.length c5) R := Kd.R_mono (Kd.R_bound HR5.out) (fun k hk e => by have := hk.2.1; have := HWR.out; omega)
    have h2 := Kd.R_far (Kd.R_far (Kd.R_far (Kd.R_far (p := ⟨w.heap.size + 2, 0, none⟩) hok (fun _ h => h) (.slice A5 R.length c5)) (p := ⟨w.heap.size + 2, 1, none⟩) (fun _ h => h) (.int .u32 fu)) (p := ⟨w.heap.size + 2, 2, none⟩) (fun _ h => h) (.int .u32 tw)) (p := ⟨w.heap.size + 2, 3, none⟩) (fun _ h => h) (.int .i64 fl)
    exact Kd.R_mono (Kd.R_lower h2 HB4.out.size) (fun _ _ => trivial)
  · have hle : w.heap.size ≤ w.heap.size + 2 := by omega
    exact ((((HB5.out).setCell hle _).setCell hle _).setCell hle _).setCell hle _

set_option maxHeartbeats 8000000 in
theorem implMatchPoint_calls (A : Option Addr) (c : Nat) (D : List Int) (fu : Nat) (tw fl : Int) (hs : List Int) (i : Int) (w : World) (hD : Kd.C (Kd.int .u8) w A D.length D) (hDr : ∀ x ∈ D, 0 ≤ x ∧ x < 256)
    (hl : hs.length = 32) (h0 : 0 ≤ i) (h1 : i < 4294967296) (hr : ∀ x ∈ hs, 0 ≤ x ∧ x < 256)
    (hn0 : 0 < D.length) (hn : D.length ≤ 2000) (hf : fu ≤ 50) (hfl0 : 0 ≤ fl) (hfl1 : fl ≤ 255) :
    Calls Try.prog 20 #[.agg #[.slice A D.length c, .int .u32 fu, .int .u32 tw, .int .i64 fl], .agg (hx hs), .int .u32 i] w fun e w' => e = .returned (.tuple #[.bool (might D (bitsL fu tw D.length (hs ++ le4 i))), .bool true]) ∧ Below w.heap.size w w' := by
  have HD := Aside0.mk hD
  have HL := Aside0.mk hl
  have HR := Aside0.mk hr
  have HDr := Aside0.mk hDr
  obtain ⟨n, hnn⟩ : ∃ n, n = D.length := ⟨_, rfl⟩
  have HDL := Aside0.mk hnn
  obtain ⟨X, hX⟩ : ∃ X, X = hx hs := ⟨_, rfl⟩
  have HX := Aside0.mk hX
  rw [← hX]
  have hxs : X.size = 32 := by rw [hX]; simp [hx, hl]
  have hfz := out_size X hxs #[.int .u8 0, .int .u8 0, .int .u8 0, .int .u8 0, .int .u8 0, .int .u8 0, .int .u8 0, .int .u8 0, .int .u8 0, .int .u8 0, .int .u8 0, .int .u8 0, .int .u8 0, .int .u8 0, .int .u8 0, .int .u8 0, .int .u8 0, .int .u8 0, .int .u8 0, .int .u8 0, .int .u8 0, .int .u8 0, .int .u8 0, .int .u8 0, .int .u8 0, .int .u8 0, .int .u8 0, .int .u8 0, .int .u8 0, .int .u8 0, .int .u8 0, .int .u8 0, .int .u32 0]
  simp only [List.size_toArray, List.length_cons, List.length_nil, Nat.reduceAdd] at hfz
  have HXS : Aside0 ((Try.prog.info? 40).map (·.size) = some X.size) := ⟨by rw [size40, hX]; simp [hx, hl]⟩
  have HLD : Aside0 (∀ w2, Below w.heap.size w w2 → Calls Try.prog 28 #[.agg #[.slice A n c, .int .u32 fu, .int .u32 tw, .int .i64 fl]] w2 fun e w' => ∃ f m go c1, e = .returned (.pointer (some ⟨f, 0, none⟩)) ∧ FB w' f m (some ⟨go, 0, none⟩) n c1 fu tw fl ∧ (Kd.int .u8).R 5 w' w2.heap.size (fun _ => True) (.slice (some ⟨go, 0, none⟩) n c1) D ∧ Below w2.heap.size w2 w') := ⟨fun w2 h2 => by
    rw [hnn]; exact loaded_calls A c D fu tw fl w2 (Kd.C_below hD h2) hn0 hn hf hfl0 hfl1⟩
  rw [← hnn] at hn0 hn ⊢
  obtain ⟨B, hB⟩ : ∃ B, B = might D (bitsL fu tw n (hs ++ le4 i)) := ⟨_, rfl⟩
  rw [← hB]
  have HAO : Aside0 (∀ (w1 : World) f m go c1, FB w1 f m (some ⟨go, 0, none⟩) n c1 fu tw fl → Kd.C (Kd.int .u8) w1 (some ⟨go, 0, none⟩) n D →
      Calls Try.prog 33 #[.pointer (some ⟨f, 0, none⟩), .pointer (some ⟨w1.heap.size, 0, none⟩)] (w1.alloc (.cells (outA X i) 63 (0, 0))) fun e w' => e = .returned (.bool B) ∧ Below w1.heap.size w1 w') := ⟨fun w1 f m go c1 hF hC => by
    obtain ⟨hq, hi⟩ := out_box w1 hs i hl
    rw [← hX] at hq hi
    rw [hB]
    exact (MatchOut_calls f m fu w1.heap.size _ c1 D n tw fl hs i _ (hF.below (below_alloc (Below.refl _ _) _)) (Kd.C_below hC (below_alloc (Below.refl _ _) _)) hDr hl h0 h1 hr hq hi hn0 hn hf).mono fun e w' ⟨a, b⟩ => ⟨a, below_step (below_alloc (Below.refl _ _) _) b⟩⟩
  clear hD hDr hnn hl hr hX hB
  go_enter Try.func20, Try.ntmps20
  have HB0 := Aside0.mk (below_alloc (below_alloc (Below.refl w.heap.size w) (boxO A n c fu tw fl)) (.cells X 40 (0, 0)))
  have HXB : Aside0 (((w.alloc (boxO A n c fu tw fl)).alloc (.cells X 40 (0, 0))).heap[w.heap.size + 1]? = some (.cells X 40 (0, 0))) := ⟨by
    have := box_new (w.alloc (boxO A n c fu tw fl)) (.cells X 40 (0, 0))
    simpa using this⟩
  go_wp2_with (first
    | (go_at_call 28; refine (HLD.out _ HB0.out).mono ?_; rintro e w1 ⟨f, m, go, c1, rfl, hF, hR, hb⟩; have HF1 := Aside0.mk hF; have HR1 : Aside0 (Kd.C (Kd.int .u8) w1 (some ⟨go, 0, none⟩) n D) := ⟨by have h := (Kd.R_reads' hR).2.2; rw [← (Kd.R_reads' hR).1] at h; exact h⟩; have HB1 := Aside0.mk (below_step HB0.out hb); have HXB1 := Aside0.mk (blk_below HXB.out hb); clear hF hR hb)
    | ((with_reducible show wpList _ _ _ _ _ _); (with_reducible refine wpList_load_row (o := ⟨some 14, _, _, _, _, _⟩) rfl 40 (.tmp 4) rfl (w.heap.size + 1) rfl 40 X (0, 0) _ HXB1.out Try.underlying40 rfl HXS.out ?_))
    | (go_at_call 33; refine (HAO.out w1 f m go c1 HF1.out HR1.out).mono ?_; rintro e w4 ⟨rfl, q1⟩; have HB4 := Aside0.mk (below_step HB1.out q1); clear q1)
    | fail)
  go_ret2
  exact ⟨rfl, HB4.out⟩
end Go.Proofs.Ythmfbkmdhnfbnaa.BloomW
