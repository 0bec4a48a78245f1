/-
  impl.Add: a filter with items added.
-/
import Derived.Test.YthmfbkmdhnfbnaaLoadWalk
import Derived.Test.YthmfbkmdhnfbnaaPFnAddedx1
namespace Go.Proofs.Ythmfbkmdhnfbnaa.BloomW
open Go.RowKit Go.Proofs.Ythmfbkmdhnfbnaa.Hand Go.Proofs.YthmfbkmdhnfbnaaW.PrintWords Go.Proofs.YthmfbkmdhnfbnaaW.PrintLast Go.Proofs.YthmfbkmdhnfbnaaW.PrintMore Mur Blo

/-- A filter's bytes with items added, one behind the other. -/
def addAll (fu : Nat) (tw : Int) (n : Nat) (D : List Int) (xs : List (List Int)) : List Int := xs.foldl (fun D x => added D (bitsL fu tw n x)) D
theorem addAll_length (fu : Nat) (tw : Int) (n : Nat) (xs : List (List Int)) : ∀ D, (addAll fu tw n D xs).length = D.length := by
  induction xs with
  | nil => intro D; rfl
  | cons x xs ih => intro D; show (addAll fu tw n (added D (bitsL fu tw n x)) xs).length = _; rw [ih, added_length]
theorem addAll_range (fu : Nat) (tw : Int) (n : Nat) (xs : List (List Int)) : ∀ {D}, (∀ x ∈ D, 0 ≤ x ∧ x < 256) → ∀ x ∈ addAll fu tw n D xs, 0 ≤ x ∧ x < 256 := by
  induction xs with
  | nil => intro D h; exact h
  | cons x xs ih => intro D h; exact ih (added_range _ h)
theorem addAll_more (fu : Nat) (tw : Int) (n : Nat) (D : List Int) (xs : List (List Int)) (i : Nat) (h : i < xs.length) : addAll fu tw n D (xs.take (i + 1)) = added (addAll fu tw n D (xs.take i)) (bitsL fu tw n (xs.getD i [])) := by
  unfold addAll
  rw [List.take_succ_eq_append_getElem h, List.getD_eq_getElem?_getD, List.getElem?_eq_getElem h, List.foldl_append]
  rfl

/-- One item of a row of items, as it is read. -/
theorem item_at {w : World} {A : Option Addr} {n : Nat} {xs : List (List Int)} (h : Kd.C (Kd.slice 5 (Kd.int .u8)) w A n xs) (i : Nat) (hi : i < n) :
    ∃ ad Ai ci, A = some ad ∧ w.cell? (ad.add i) = some (.slice Ai (xs.getD i []).length ci) ∧ (xs.getD i []).length ≤ ci ∧ Kd.C (Kd.int .u8) w Ai (xs.getD i []).length (xs.getD i []) := by
  obtain ⟨ad, c, e, hs, ⟨Ai, ci, rfl, hl, hC⟩, hcell⟩ := Kd.C_get h [] (i : Int) (by omega) (by omega)
  have h0 := hcell 0 _ rfl
  have e1 : (Kd.slice 5 (Kd.int .u8)).sz = 1 := rfl
  rw [e1, Nat.mul_one, Nat.add_zero, Int.toNat_natCast] at h0
  rw [Int.toNat_natCast] at hl hC
  exact ⟨ad, Ai, ci, e, h0, hl, hC⟩

/-- What is new is not the block g. -/
theorem keep_new {w1 : World} {base g n c : Nat} {A : Option Addr} {l : List Int} (h : (Kd.int .u8).R 5 w1 base (fun _ => True) (.slice A n c) l) (hg : g < base) : ∀ W, KeepBut w1 W g none → Kd.C (Kd.int .u8) W A n l := fun W hk => by
  have h1 := Kd.R_keep (Kd.R_mono (Kd.R_bound h) (ok' := fun k => k ≠ g) (fun k hk e => by have := hk.2.1; omega)) hk (fun _ h => h)
  have h2 := Kd.R_reads' h1
  rw [h2.1]
  exact h2.2.2

abbrev zeroO : Obj := .cells #[.slice none 0 0, .int .u32 0, .int .u32 0, .int .i64 0] 28 (0, 0)

set_option maxHeartbeats 8000000 in
theorem implAdd_calls (A : Option Addr) (c : Nat) (D : List Int) (fu : Nat) (tw fl : Int) (AI : Option Addr) (cI : Nat) (xs : List (List Int)) (w : World) (hD : Kd.C (Kd.int .u8) w A D.length D) (hI : Kd.C (Kd.slice 5 (Kd.int .u8)) w AI xs.length xs) (hIc : xs.length ≤ cI)
    (kf : Nat) (hfit : PFnAdded.impl_fits.f kf xs = some true) (hx1 : ∀ x ∈ xs, x.length ≤ 60) (hx2 : ∀ x ∈ xs, ∀ y ∈ x, 0 ≤ y ∧ y < 256) (hxl : xs.length ≤ 20)
    (hn0 : 0 < D.length) (hn : D.length ≤ 2000) (hf : fu ≤ 50) (hfl0 : 0 ≤ fl) (hfl1 : fl ≤ 255) :
    Calls Try.prog 14 #[.agg #[.slice A D.length c, .int .u32 fu, .int .u32 tw, .int .i64 fl], .slice AI xs.length cI] w fun e w' => ∃ v, e = .returned (.tuple #[.agg #[v, .int .u32 fu, .int .u32 tw, .int .i64 fl], .bool true]) ∧ Kd.R (Kd.int .u8) 5 w' w.heap.size (fun _ => True) v (addAll fu tw D.length D xs) ∧ Below w.heap.size w w' := by
  have HD := Aside0.mk hD
  have HI := Aside0.mk hI
  have HX1 := Aside0.mk hx1
  have HX2 := Aside0.mk hx2
  have HFIT := Aside0.mk hfit
  have HIc := Aside0.mk hIc
  obtain ⟨n, hnn⟩ : ∃ n, n = D.length := ⟨_, rfl⟩
  have HDL := Aside0.mk hnn
  have HLD : Aside0 (∀ w2, Below w.heap.size w w2 → Calls Try.prog 28 #[.agg #[.slice A n c, .int .u32 fu, .int .u32 tw, .int .i64 fl]] w2 fun e w' => ∃ f m go c1, e = .returned (.pointer (some ⟨f, 0, none⟩)) ∧ FB w' f m (some ⟨go, 0, none⟩) n c1 fu tw fl ∧ (Kd.int .u8).R 5 w' w2.heap.size (fun _ => True) (.slice (some ⟨go, 0, none⟩) n c1) D ∧ Below w2.heap.size w2 w') := ⟨fun w2 h2 => by
    rw [hnn]; exact loaded_calls A c D fu tw fl w2 (Kd.C_below hD h2) hn0 hn hf hfl0 hfl1⟩
  rw [← hnn] at hn0 hn ⊢
  clear hD hI hx1 hx2 hfit hIc hnn
  go_enter Try.func14, Try.ntmps14
  have HB0 := Aside0.mk (below_alloc (below_alloc (Below.refl w.heap.size w) (boxO A n c fu tw fl)) zeroO)
  have HZ : Aside0 (((w.alloc (boxO A n c fu tw fl)).alloc zeroO).heap[w.heap.size + 1]? = some zeroO) := ⟨by
    have := box_new (w.alloc (boxO A n c fu tw fl)) zeroO
    simpa using this⟩
  go_wp2_with (first
    | (go_at_call 28; refine (HLD.out _ HB0.out).mono ?_; rintro e w1 ⟨f, m, go, c1, rfl, hF, hR, hb⟩; have HF1 := Aside0.mk hF; have HR1 := Aside0.mk hR; have HB1 := Aside0.mk (below_step HB0.out hb); have HZ1 := Aside0.mk (blk_below HZ.out hb); clear hF hR hb)
    | (go_at_call 22; refine (PFnAdded.impl_fits.calls kf AI cI xs true _ (Kd.C_below HI.out HB1.out) HIc.out HFIT.out).mono ?_; rintro e w2 ⟨rfl, d2⟩; have hb2 := d2.below; have HB2 := Aside0.mk (below_step HB1.out hb2); have HF2 := Aside0.mk (HF1.out.below hb2); have HR2 := Aside0.mk (Kd.R_below HR1.out hb2); have HZ2 := Aside0.mk (blk_below HZ1.out hb2); clear hb2 d2)
    | fail)
  have HGB : Aside0 (w.heap.size + 1 < go) := ⟨by
    have h1 := ((Kd.R_bound HR1.out).1 go rfl).2.1
    simp at h1
    omega⟩
  have HNE : Aside0 (f ≠ go ∧ m ≠ go) := ⟨by
    obtain ⟨cs, hgo⟩ := own_typed (Kd.own_of_R HR1.out) go rfl
    exact ⟨fun e => by have h := HF1.out.hF; rw [e, hgo] at h; simp at h, fun e => by have h := HF1.out.hM; rw [e, hgo] at h; simp at h⟩⟩
  have HIx : Aside0 (∀ i, i < xs.length → (xs.getD i []).length ≤ 60 ∧ ∀ y ∈ xs.getD i [], 0 ≤ y ∧ y < 256) := ⟨fun i hi => by
    rw [List.getD_eq_getElem?_getD, List.getElem?_eq_getElem hi]
    exact ⟨HX1.out _ (List.getElem_mem hi), HX2.out _ (List.getElem_mem hi)⟩⟩
  have HRb := Aside0.mk (Kd.R_lower (base' := w.heap.size) HR2.out (by simp; omega))
  clear HR1 HR2 HB1 HF1 HZ1 HZ HB0
  go_loopw [21] (fun v21 wr => ∃ i : Nat, v21 = .int .i64 i ∧ i ≤ xs.length ∧ Aside0 ((Kd.int .u8).R 5 wr w.heap.size (fun _ => True) (.slice (some ⟨go, 0, none⟩) n c1) (addAll fu tw n D (xs.take i))) ∧ Aside0 (FB wr f m (some ⟨go, 0, none⟩) n c1 fu tw fl) ∧ Aside0 (wr.heap[w.heap.size + 1]? = some zeroO) ∧ Aside0 (Below w.heap.size w wr)) (fun v21 _ => xs.length - (intOf v21).toNat)
  case atStart => exact ⟨0, rfl, Nat.zero_le _, HRb, HF2, HZ2, HB2⟩
  case round =>
    obtain ⟨i, rfl, hi, HS, HF, HZ, HB⟩ := hrel
    clear HRb HF2 HZ2 HB2
    by_cases hlt : i < xs.length
    · obtain ⟨ad, Ai, ci, rfl, kc, hci, hCi⟩ := item_at (Kd.C_below HI.out HB.out) i hlt
      obtain ⟨hl60, hr60⟩ := HIx.out i hlt
      have HMO := Aside0.mk (addAll_more fu tw n D xs i hlt)
      obtain ⟨l, hl⟩ : ∃ l, l = xs.getD i [] := ⟨_, rfl⟩
      rw [← hl] at kc hci hCi hl60 hr60 HMO
      have HCi := Aside0.mk hCi
      have HR60 := Aside0.mk hr60
      clear hl hCi hr60 hci
      go_wp2_with (first
        | (go_at_call 24; refine (PFnNew.clone_calls Ai ci l wr HCi.out (by omega)).mono ?_; rintro e w3 ⟨v3, rfl, hR3, hb3⟩; obtain ⟨A3, c3, rfl⟩ := Kd.R_slice hR3; have HR3 := Aside0.mk hR3; have HB3 := Aside0.mk hb3; clear hR3 hb3)
        | (go_at_call 29; refine (Add_calls f m c1 fu go (addAll fu tw n D (xs.take i)) n tw fl A3 c3 l w w3 (below_then HB.out HB.out.size HB3.out) (HF.out.below HB3.out) (Kd.R_below HS.out HB3.out) (keep_new HR3.out (by have := ((Kd.R_bound HS.out).1 go rfl).2.2.1; omega)) (Kd.R_reads' HR3.out).2.1 (by omega) HR60.out hn0 hn hf).mono ?_; rintro e w4 ⟨rfl, hS4, hb4, hk4⟩; have HS4 := Aside0.mk hS4; have HB4 := Aside0.mk hb4; have HK4 := Aside0.mk hk4; clear hS4 hb4 hk4)
        | fail)
      go_roundw
      case rel => exact ⟨i + 1, by go_num, by omega, ⟨by rw [HMO.out]; exact HS4.out⟩, ⟨HK4.out.blk (blk_below HF.out.hF HB3.out) HNE.out.1 (by simp), HK4.out.blk (blk_below HF.out.hM HB3.out) HNE.out.2 (by simp)⟩, ⟨HK4.out.blk (blk_below HZ.out HB3.out) (by have := HGB.out; omega) (by simp)⟩, HB4⟩
      case measure => simp [intOf]; omega
    · obtain rfl : i = xs.length := by omega
      have hcur : addAll fu tw n D (xs.take xs.length) = addAll fu tw n D xs := by rw [List.take_length]
      rw [hcur] at HS
      obtain ⟨R, hR⟩ : ∃ R, R = addAll fu tw n D xs := ⟨_, rfl⟩
      rw [← hR] at HS
      have HRR := Aside0.mk hR
      have hRl : R.length = n := by rw [hR, addAll_length, ← HDL.out]
      have T := PFnNew.told_calls f m (some ⟨go, 0, none⟩) c1 R fu tw fl wr hfl0 hfl1 (by rw [hRl]; exact HF.out.filt) (by have := (Kd.R_reads' HS.out).2.2; rw [← (Kd.R_reads' HS.out).1] at this ⊢; exact this) (by omega)
      have TT := Aside0.mk T
      clear hcur hR hRl T hlt hi
      go_wp2_with (first
        | (go_at_call 30; refine TT.out.mono ?_; rintro e w5 ⟨v5, rfl, hR5, hb5⟩; obtain ⟨A5, c5, rfl⟩ := Kd.R_slice hR5; obtain ⟨HX, q0, q1, q2, q3, f0, f1, f2, f3⟩ := PFnNew.res_facts HZ.out hb5; obtain ⟨r0, r1, r2, r3⟩ := PFnNew.res_cells HX.out (.slice A5 R.length c5) (.int .u32 fu) (.int .u32 tw) (.int .i64 fl); have HR5 := Aside0.mk hR5; have HB5 := Aside0.mk (below_step HB.out hb5); have HWR := Aside0.mk (blk_lt HZ.out); clear hR5 hb5)
        | fail)
      refine bodyPost_ret (v := .tuple #[.agg #[.slice A5 R.length c5, .int .u32 fu, .int .u32 tw, .int .i64 fl], .bool true]) (by simp [results, Try.results14, go_sem, r0, r1, r2, r3]) rfl ⟨.slice A5 R.length c5, rfl, ?_, ?_⟩
      · rw [← HRR.out]
        have hok : (Kd.int .u8).R 5 w5 wr.heap.size (fun k => k ≠ w.heap.size + 1) (.slice A5 R.length c5) R := Kd.R_mono (Kd.R_bound HR5.out) (fun k hk e => by have := hk.2.1; have := HWR.out; omega)
        have h2 := Kd.R_far (Kd.R_far (Kd.R_far (Kd.R_far (p := ⟨w.heap.size + 1, 0, none⟩) hok (fun _ h => h) (.slice A5 R.length c5)) (p := ⟨w.heap.size + 1, 1, none⟩) (fun _ h => h) (.int .u32 fu)) (p := ⟨w.heap.size + 1, 2, none⟩) (fun _ h => h) (.int .u32 tw)) (p := ⟨w.heap.size + 1, 3, none⟩) (fun _ h => h) (.int .i64 fl)
        exact Kd.R_mono (Kd.R_lower h2 HB.out.size) (fun _ _ => trivial)
      · have hle : w.heap.size ≤ w.heap.size + 1 := by omega
        exact ((((HB5.out).setCell hle _).setCell hle _).setCell hle _).setCell hle _
end Go.Proofs.Ythmfbkmdhnfbnaa.BloomW
