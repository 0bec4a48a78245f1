/-
  The law FnAdded, walked where no guard lets the input pass.
-/
import Derived.Test.YthmfbkmdhnfbnaaAddedLaw
namespace Go.Proofs.Ythmfbkmdhnfbnaa.BloomW
open Go.RowKit Go.Proofs.Ythmfbkmdhnfbnaa.Hand Go.Proofs.YthmfbkmdhnfbnaaW.PrintWords Go.Proofs.YthmfbkmdhnfbnaaW.PrintLast Go.Proofs.YthmfbkmdhnfbnaaW.PrintMore Mur Blo

set_option maxHeartbeats 16000000 in
theorem law_main (A : Option Addr) (c : Nat) (D : List Int) (fu : Nat) (tw fl : Int) (AI : Option Addr) (cI : Nat) (xs : List (List Int)) (Ao : Option Addr) (co : Nat) (lo : List Int) (w : World)
    (hD : Kd.C (Kd.int .u8) w A D.length D) (hDc : D.length ≤ c) (hI : Kd.C (Kd.slice 5 (Kd.int .u8)) w AI xs.length xs) (hIc : xs.length ≤ cI) (hO : Kd.C (Kd.int .u8) w Ao lo.length lo) (hOc : lo.length ≤ co)
    (hDr : ∀ x ∈ D, 0 ≤ x ∧ x < 256) (hx2 : ∀ x ∈ xs, ∀ y ∈ x, 0 ≤ y ∧ y < 256) (hor : ∀ y ∈ lo, 0 ≤ y ∧ y < 256)
    (hn1 : 1 ≤ D.length) (hn2 : D.length ≤ 200) (hf : fu ≤ 50) (hfl0 : 0 ≤ fl) (hfl1 : fl ≤ 2) (hx1 : ∀ x ∈ xs, x.length ≤ 60) (hxl : xs.length ≤ 20) (hol : lo.length ≤ 60) (kf : Nat) (hfit : PFnAdded.impl_fits.f kf xs = some true)
    (H1 : ∀ w1, Below w.heap.size w w1 → Calls Try.prog 10 #[.agg #[.slice A D.length c, .int .u32 fu, .int .u32 tw, .int .i64 fl]] w1 fun e w' => e = .returned (.bool true) ∧ Below w1.heap.size w1 w')
    (H2 : ∀ w1, Below w.heap.size w w1 → Calls Try.prog 11 #[.slice AI xs.length cI] w1 fun e w' => e = .returned (.bool true) ∧ Below w1.heap.size w1 w')
    (H4 : ∀ w1, Below w.heap.size w w1 → Calls Try.prog 12 #[.agg #[.slice A D.length c, .int .u32 fu, .int .u32 tw, .int .i64 fl]] w1 fun e w' => e = .returned (.bool true) ∧ Below w1.heap.size w1 w')
    (H5 : ∀ w1, Below w.heap.size w w1 → Calls Try.prog 7 #[.slice AI xs.length cI] w1 fun e w' => e = .returned (.bool true) ∧ Below w1.heap.size w1 w')
    (H6 : ∀ w1 : World, Below w.heap.size w w1 → Calls Try.prog 7 #[.slice (some ⟨w1.heap.size, 0, none⟩) 1 1] (w1.alloc (.cells #[.slice Ao lo.length co] 23)) fun e w' => e = .returned (.bool true) ∧ Below w1.heap.size w1 w') :
    Calls Try.prog 4 #[.agg #[.slice A D.length c, .int .u32 fu, .int .u32 tw, .int .i64 fl], .slice AI xs.length cI, .slice Ao lo.length co] w fun e w' => e = .returned (.bool true) ∧ Below w.heap.size w w' := by
  have H1 := Aside0.mk H1
  have H2 := Aside0.mk H2
  have H4 := Aside0.mk H4
  have H5 := Aside0.mk H5
  have H6 := Aside0.mk H6
  have HD := Aside0.mk hD
  have HI := Aside0.mk hI
  have HO := Aside0.mk hO
  have HDr := Aside0.mk hDr
  have HX2 := Aside0.mk hx2
  have HX1 := Aside0.mk hx1
  have HOR := Aside0.mk hor
  have HFIT := Aside0.mk hfit
  have HC3 := Aside0.mk (show D.length ≤ c ∧ xs.length ≤ cI ∧ lo.length ≤ co from ⟨hDc, hIc, hOc⟩)
  have h3 : (lo.length : Int) ≤ 2147483647 := by omega
  obtain ⟨n, hnn⟩ : ∃ n, n = D.length := ⟨_, rfl⟩
  have HDL := Aside0.mk hnn
  rw [← hnn] at hn1 hn2 H1 H4 HD ⊢
  clear hD hI hO hDr hx2 hx1 hor hfit hDc hIc hOc hnn
  go_enter Try.func4, Try.ntmps4
  have HB0 := Aside0.mk (below_alloc (Below.refl w.heap.size w) (boxO A n c fu tw fl))
  go_wp2_with fail
  refine (H1.out _ HB0.out).mono ?_
  rintro e w1 ⟨rfl, hb1⟩
  have HB1 := Aside0.mk (below_step HB0.out hb1)
  have HG1 := Aside0.mk (blk_below (box_new w (boxO A n c fu tw fl)) hb1)
  clear hb1
  go_wp2_with fail
  refine (H2.out _ HB1.out).mono ?_
  rintro e w2 ⟨rfl, hb2⟩
  have HB2 := Aside0.mk (below_step HB1.out hb2)
  have HG2 := Aside0.mk (blk_below HG1.out hb2)
  clear hb2
  obtain ⟨k0, k1, k2, k3⟩ := box_cells HG2.out
  go_wp2_with fail
  refine (H4.out _ HB2.out).mono ?_
  rintro e w4 ⟨rfl, hb4⟩
  have HB4 := Aside0.mk (below_step HB2.out hb4)
  have HG4 := Aside0.mk (blk_below HG2.out hb4)
  clear hb4 k0 k1 k2 k3
  go_wp2_with fail
  refine (H5.out _ HB4.out).mono ?_
  rintro e w5 ⟨rfl, hb5⟩
  have HB5 := Aside0.mk (below_step HB4.out hb5)
  have HG5 := Aside0.mk (blk_below HG4.out hb5)
  clear hb5
  go_wp2_with fail
  refine (H6.out _ HB5.out).mono ?_
  rintro e w6 ⟨rfl, hb6⟩
  have HB6 := Aside0.mk (below_step HB5.out hb6)
  have HG6 := Aside0.mk (blk_below HG5.out hb6)
  clear hb6
  obtain ⟨k0, k1, k2, k3⟩ := box_cells HG6.out
  go_wp2_with fail
  clear k0 k1 k2 k3 HB0 HB1 HB2 HB4 HB5 HG1 HG2 HG4 HG5 H1 H2 H4 H5 H6
  obtain ⟨gw, hgw⟩ : ∃ gw, gw = w6.heap.size := ⟨_, rfl⟩
  have HGW : Aside0 (w.heap.size < gw) := ⟨by rw [hgw]; exact blk_lt HG6.out⟩
  rw [← hgw]
  have HW0 : Aside0 ((w6.alloc (boxO A n c fu tw fl)).heap[gw]? = some (boxO A n c fu tw fl)) := ⟨by rw [hgw]; exact box_new _ _⟩
  have HB7 := Aside0.mk (below_alloc HB6.out (boxO A n c fu tw fl))
  have HG7 := Aside0.mk (blk_below HG6.out (below_alloc (Below.refl _ _) (boxO A n c fu tw fl)))
  have HCW := Aside0.mk (Kd.C_below HD.out HB7.out)
  have HIx : Aside0 (∀ i, i < xs.length → (xs.getD i []).length ≤ 60 ∧ ∀ y ∈ xs.getD i [], 0 ≤ y ∧ y < 256) := ⟨fun i hi => by
    rw [List.getD_eq_getElem?_getD, List.getElem?_eq_getElem hi]
    exact ⟨HX1.out _ (List.getElem_mem hi), HX2.out _ (List.getElem_mem hi)⟩⟩
  clear hgw
  change Code.wp _ _ _ _ (w6.alloc (boxO A n c fu tw fl))
  revert HB7 HG7 HCW HW0
  generalize w6.alloc (boxO A n c fu tw fl) = w7
  intro HW0 HB7 HG7 HCW
  go_loopw [46] (fun v46 wr => ∃ (i : Nat) (A' : Option Addr) (c' : Nat), v46 = .int .i64 i ∧ i ≤ xs.length ∧ Aside0 (wr.heap[gw]? = some (boxO A' n c' fu tw fl)) ∧ Aside0 (Kd.C (Kd.int .u8) wr A' n (addAll fu tw n D (xs.take i))) ∧ Aside0 (n ≤ c') ∧ Aside0 (wr.heap[w.heap.size]? = some (boxO A n c fu tw fl)) ∧ Aside0 (Below w.heap.size w wr)) (fun v46 _ => xs.length - (intOf v46).toNat)
  case atStart => exact ⟨0, A, c, rfl, Nat.zero_le _, HW0, HCW, ⟨by rw [HDL.out]; exact HC3.out.1⟩, HG7, HB7⟩
  case round =>
    obtain ⟨i, A', c', rfl, hi, HW, HCu, HCc, HG, HB⟩ := hrel
    clear HB7 HG7 HCW HW0
    by_cases hlt : i < xs.length
    · obtain ⟨ad, Ai, ci, rfl, kc, hci, hCi⟩ := item_at (Kd.C_below HI.out HB.out) i hlt
      obtain ⟨hl60, hr60⟩ := HIx.out i hlt
      have HMO := Aside0.mk (addAll_more fu tw n D xs i hlt)
      obtain ⟨l, hl⟩ : ∃ l, l = xs.getD i [] := ⟨_, rfl⟩
      rw [← hl] at kc hci hCi hl60 hr60 HMO
      obtain ⟨cur, hcur⟩ : ∃ cur, cur = addAll fu tw n D (xs.take i) := ⟨_, rfl⟩
      rw [← hcur] at HCu HMO
      have hcl : cur.length = n := by rw [hcur, addAll_length, ← HDL.out]
      have HAD : Aside0 (Calls Try.prog 13 #[.agg #[.slice A' n c', .int .u32 fu, .int .u32 tw, .int .i64 fl], .slice Ai l.length ci] wr fun e w' => ∃ v, e = .returned v ∧ Kd.R (Kd.int .u8) 5 w' wr.heap.size (fun _ => True) v (added cur (bitsL fu tw n l)) ∧ Below wr.heap.size wr w') := ⟨by
        have h := added_calls A' c' cur fu tw fl Ai ci l wr (by rw [hcl]; exact HCu.out) hCi hci (by omega) hr60 (by omega) (by omega) hf
        rw [hcl] at h
        exact h⟩
      have HNL : Aside0 ((added cur (bitsL fu tw n l)).length = n) := ⟨by rw [added_length, hcl]⟩
      obtain ⟨k0, k1, k2, k3⟩ := box_cells HW.out
      clear hl hCi hr60 hci hcur hcl
      go_wp2_with fail
      refine HAD.out.mono ?_
      rintro e w8 ⟨v8, rfl, hR8, hb8⟩
      obtain ⟨A8, c8, e8⟩ := Kd.R_slice hR8
      rw [HNL.out] at e8
      subst e8
      have HW8 := blk_below HW.out hb8
      have hws := want_step HW8 hR8 (blk_lt HW.out)
      have HWS := Aside0.mk hws
      have HG8 := Aside0.mk (blk_below HG.out hb8)
      have HB8 := Aside0.mk (below_then HB.out HB.out.size hb8)
      obtain ⟨q0, _, _, _⟩ := box_cells HW8
      have q0f := blk_frozen HW8 0
      clear hR8 hb8 hws HW8 k0 k1 k2 k3
      go_wp2_with fail
      go_roundw
      case rel => exact ⟨i + 1, A8, c8, by go_num, by omega, ⟨HWS.out.1⟩, ⟨by rw [HMO.out]; exact HWS.out.2.1⟩, ⟨HWS.out.2.2⟩, ⟨blk_far HG8.out (by have := HGW.out; show w.heap.size ≠ gw; omega) _⟩, ⟨HB8.out.setCell (Nat.le_of_lt HGW.out) _⟩⟩
      case measure => simp [intOf]; omega
    · obtain rfl : i = xs.length := by omega
      have hcur : addAll fu tw n D (xs.take xs.length) = addAll fu tw n D xs := by rw [List.take_length]
      rw [hcur] at HCu
      clear hcur hlt hi
      obtain ⟨R, hR⟩ : ∃ R, R = addAll fu tw n D xs := ⟨_, rfl⟩
      rw [← hR] at HCu
      have HRl : Aside0 (R.length = n) := ⟨by rw [hR, addAll_length, ← HDL.out]⟩
      have HRr : Aside0 (∀ x ∈ R, 0 ≤ x ∧ x < 256) := ⟨by rw [hR]; exact addAll_range _ _ _ _ HDr.out⟩
      have HAD : Aside0 (Calls Try.prog 14 #[.agg #[.slice A n c, .int .u32 fu, .int .u32 tw, .int .i64 fl], .slice AI xs.length cI] wr fun e w' => ∃ v, e = .returned (.tuple #[.agg #[v, .int .u32 fu, .int .u32 tw, .int .i64 fl], .bool true]) ∧ Kd.R (Kd.int .u8) 5 w' wr.heap.size (fun _ => True) v R ∧ Below wr.heap.size wr w') := ⟨by
        have h := implAdd_calls A c D fu tw fl AI cI xs wr (Kd.C_below (by rw [← HDL.out]; exact HD.out) HB.out) (Kd.C_below HI.out HB.out) HC3.out.2.1 kf HFIT.out HX1.out HX2.out hxl (by have := HDL.out; omega) (by have := HDL.out; omega) hf hfl0 (by omega)
        rw [← HDL.out, ← hR] at h
        exact h⟩
      obtain ⟨k0, k1, k2, k3⟩ := box_cells HG.out
      go_wp2_with fail
      refine HAD.out.mono ?_
      rintro e w8 ⟨v8, rfl, hR8, hb8⟩
      obtain ⟨A8, c8, e8⟩ := Kd.R_slice hR8
      rw [HRl.out] at e8
      subst e8
      have HB8 := Aside0.mk (below_step HB.out hb8)
      have HW8 := Aside0.mk (blk_below HW.out hb8)
      have HG8 := Aside0.mk (blk_below HG.out hb8)
      have h8 := Kd.R_reads' hR8
      have HC8 : Aside0 (Kd.C (Kd.int .u8) w8 A8 n R) := ⟨by have g := h8.2.2; rw [HRl.out] at g; exact g⟩
      have HC8c := Aside0.mk h8.2.1
      have HCu8 := Aside0.mk (Kd.C_below HCu.out hb8)
      clear hR8 hb8 h8 k0 k1 k2 k3
      obtain ⟨k0, k1, k2, k3⟩ := box_cells (blk_below HG8.out (below_alloc (Below.refl _ _) (boxO A8 n c8 fu tw fl)))
      obtain ⟨q0, q1, q2, q3⟩ := box_cells (blk_below HW8.out (below_alloc (Below.refl _ _) (boxO A8 n c8 fu tw fl)))
      have HSM : Aside0 (∀ W, Below w8.heap.size w8 W → Calls Try.prog 15 #[.slice A8 n c8, .slice A' n c'] W fun e w' => e = .returned (.bool true) ∧ Below W.heap.size W w') := ⟨fun W hW => by
        have h := PFnAdded.laws_same.calls A8 c8 R A' c' R true W (by rw [HRl.out]; exact Kd.C_below HC8.out hW) (by rw [HRl.out]; exact HC8c.out) (by rw [HRl.out]; exact Kd.C_below HCu8.out hW) (by rw [HRl.out]; exact HCc.out) (by simp [PFnAdded.laws_same.f])
        rw [HRl.out] at h
        exact h.mono fun e w' ⟨a, b⟩ => ⟨a, b.below⟩⟩
      go_wp2_with fail
      refine (HSM.out _ (below_alloc (Below.refl _ _) _)).mono ?_
      rintro e w9 ⟨rfl, hb9⟩
      have hb89 := below_step (below_alloc (Below.refl w8.heap.size w8) (boxO A8 n c8 fu tw fl)) hb9
      have HB9 := Aside0.mk (below_step HB8.out hb89)
      have HW9 := Aside0.mk (blk_below HW8.out hb89)
      have HG9 := Aside0.mk (blk_below HG8.out hb89)
      have HT9 : Aside0 (w9.heap[w8.heap.size]? = some (boxO A8 n c8 fu tw fl)) := ⟨blk_below (box_new _ _) hb9⟩
      have HC9 := Aside0.mk (Kd.C_below HC8.out hb89)
      have HCu9 := Aside0.mk (Kd.C_below HCu8.out hb89)
      clear hb9 hb89 k0 k1 k2 k3 q0 q1 q2 q3 HSM HC8 HCu8 HW8 HG8
      obtain ⟨k0, k1, k2, k3⟩ := box_cells HG9.out
      obtain ⟨q0, q1, q2, q3⟩ := box_cells HW9.out
      obtain ⟨p0, p1, p2, p3⟩ := box_cells HT9.out
      obtain ⟨hs, hsl, hsC, hsI⟩ := hdrs HI.out
      have HSC := Aside0.mk hsC
      have HSL := Aside0.mk hsl
      have HSI := Aside0.mk hsI
      clear hsC hsl hsI
      have HE0 : Aside0 (kH.R 23 (w9.alloc (.cells #[] 23)) w9.heap.size (fun _ => True) (.slice (some ⟨w9.heap.size, 0, none⟩) 0 0) []) := ⟨by
        have h := own_lit w9 w9.heap.size 23 .i64 [] (Nat.le_refl _) (by simp)
        exact Kd.R_of_own (enc := hdrV) (h1 := fun _ => rfl) (xs := []) h (fun _ _ => trivial)⟩
      go_wp2_with (first
        | ((with_reducible refine gate_builtin (b := .append) (xs := #[.tmp 92, .tmp 93]) rfl ?_); refine Kd.R_append_row (h1 := fun _ => rfl) (w0 := w9) hdrV ((none, 0, 0) : Hdr) w9.heap.size rfl _ _ 29 23 (.slice none 0 0) 24 rfl Try.underlying29 info23 rfl (by decide) (.slice (some ⟨w9.heap.size, 0, none⟩) 0 0) [] hs AI xs.length cI (fun _ => True) rfl rfl (fun _ _ => trivial) HE0.out (Kd.C_below HSC.out (below_alloc HB9.out _)) (below_alloc (Below.refl _ _) _) (below_alloc (Below.refl _ _) _).size (by simp; omega) ?_; intro v10 w10 hR10 hb10 _ _; rw [List.nil_append] at hR10; have HR10 := Aside0.mk hR10; have HB10 := Aside0.mk hb10; clear hR10 hb10)
        | ((with_reducible refine gate_builtin (b := .append) (xs := #[.tmp 94, .tmp 96]) rfl ?_); at_builtin; refine Kd.R_append kH (w0 := w9) w9.heap.size rfl (.tmp 94) (.tmp 96) 29 23 (.slice none 0 0) 24 rfl Try.underlying29 info23 rfl (by decide) (by decide) _ hs (Ao, lo.length, co) [.slice Ao lo.length co] (fun _ => True) (fun _ => False) rfl rfl rfl (fun _ hk => hk.elim) (fun _ _ => trivial) HR10.out HB10.out HB10.out.size (by rw [HSL.out]; omega) ?_; intro v11 w11 hR11 hb11 _ _; obtain ⟨A11, c11, e11⟩ := Kd.R_slice hR11; have HR11 := Aside0.mk hR11; have HB11 := Aside0.mk hb11; rw [List.length_append, HSL.out, List.length_singleton] at e11; subst e11; clear hR11 hb11)
        | fail)
      have HT := Aside0.mk (blk_below HT9.out HB11.out)
      have HWW := Aside0.mk (blk_below HW9.out HB11.out)
      have HCa := Aside0.mk (Kd.C_below HC9.out HB11.out)
      have HCb := Aside0.mk (Kd.C_below HCu9.out HB11.out)
      have HBw := Aside0.mk (below_step HB9.out HB11.out)
      have HRow : Aside0 (kH.C w11 A11 (xs.length + 1) (hs ++ [((Ao, lo.length, co) : Hdr)])) := ⟨by
        have g := (Kd.R_reads' HR11.out).2.2
        rw [List.length_append, HSL.out] at g
        exact g⟩
      have HALL : Aside0 (∀ k, k < xs.length + 1 → ∃ (Ak : Option Addr) (ck : Nat) (l : List Int), (hs ++ [((Ao, lo.length, co) : Hdr)])[k]? = some (Ak, l.length, ck) ∧ l.length ≤ ck ∧ Kd.C (Kd.int .u8) w Ak l.length l ∧ l.length ≤ 60 ∧ ∀ y ∈ l, 0 ≤ y ∧ y < 256) := ⟨fun k hk => by
        by_cases hlt : k < xs.length
        · obtain ⟨g1, g2, g3⟩ := HSI.out k hlt
          obtain ⟨g4, g5⟩ := HIx.out k hlt
          obtain ⟨p, hp⟩ : ∃ p, p = hs.getD k (none, 0, 0) := ⟨_, rfl⟩
          rw [← hp] at g1 g2 g3
          refine ⟨p.1, p.2.2, xs.getD k [], ?_, g2, g3, g4, g5⟩
          rw [List.getElem?_append_left (by rw [HSL.out]; exact hlt), ← g1, hp, List.getD_eq_getElem?_getD, List.getElem?_eq_getElem (by rw [HSL.out]; exact hlt)]
          rfl
        · obtain rfl : k = xs.length := by omega
          refine ⟨Ao, co, lo, ?_, HC3.out.2.2, HO.out, hol, HOR.out⟩
          rw [List.getElem?_append_right (by rw [HSL.out]; omega), HSL.out]
          simp⟩
      clear k0 k1 k2 k3 q0 q1 q2 q3 p0 p1 p2 p3
      go_loopw [99] (fun v99 wr => ∃ k : Nat, v99 = .int .i64 k ∧ k ≤ xs.length + 1 ∧ Aside0 (Below w11.heap.size w11 wr)) (fun v99 _ => xs.length + 1 - (intOf v99).toNat)
      case atStart => exact ⟨0, rfl, Nat.zero_le _, ⟨Below.refl _ _⟩⟩
      case round =>
        obtain ⟨k, rfl, hk, HBr⟩ := hrel
        by_cases hlt : k < xs.length + 1
        · obtain ⟨Ak, ck, l, hp, hck, hCk, hl60, hr60⟩ := HALL.out k hlt
          obtain ⟨ad, ea, hcell⟩ := (Kd.C_below HRow.out HBr.out).2.2 (by omega)
          subst ea
          obtain ⟨cc, e1, e2, e3⟩ := hcell k _ hp
          have e2' : cc = [hdrV (Ak, l.length, ck)] := e2
          subst e2'
          have kc : wr.cell? (ad.add k) = some (Value.slice Ak l.length ck) := by
            have := e3 0 _ rfl
            have e1 : kH.sz = 1 := rfl
            rw [e1, Nat.mul_one, Nat.add_zero] at this
            exact this
          have hb0 := below_step HBw.out HBr.out
          obtain ⟨B, hB⟩ : ∃ B, B = might R (bitsL fu tw n l) := ⟨_, rfl⟩
          have HM1 : Aside0 (Calls Try.prog 16 #[.agg #[.slice A8 n c8, .int .u32 fu, .int .u32 tw, .int .i64 fl], .slice Ak l.length ck] wr fun e w' => e = .returned (.tuple #[.bool B, .bool true]) ∧ Below wr.heap.size wr w') := ⟨by
            have h := implMatch_calls A8 c8 R fu tw fl Ak ck l wr (by rw [HRl.out]; exact Kd.C_below HCa.out HBr.out) HRr.out (Kd.C_below hCk hb0) hck hl60 hr60 (by rw [HRl.out]; omega) (by rw [HRl.out]; omega) hf hfl0 (by omega)
            rw [HRl.out, ← hB] at h
            exact h⟩
          have HM2 : Aside0 (∀ W, Below wr.heap.size wr W → Calls Try.prog 17 #[.agg #[.slice A' n c', .int .u32 fu, .int .u32 tw, .int .i64 fl], .slice Ak l.length ck] W fun e w' => e = .returned (.bool B) ∧ Below W.heap.size W w') := ⟨fun W hW => by
            have h := might_calls A' c' R fu tw fl Ak ck l W (by rw [HRl.out]; exact Kd.C_below (Kd.C_below HCb.out HBr.out) hW) (Kd.C_below (Kd.C_below hCk hb0) hW) hck (by omega) hr60 (by rw [HRl.out]; omega) (by rw [HRl.out]; omega) hf
            rw [HRl.out, ← hB] at h
            exact h⟩
          obtain ⟨p0, p1, p2, p3⟩ := box_cells (blk_below HT.out HBr.out)
          have HWr := Aside0.mk (blk_below HWW.out HBr.out)
          clear hp hcell e1 e2 e3 hCk hr60 hck hb0 hB
          go_wp2_with fail
          refine HM1.out.mono ?_
          rintro e w12 ⟨rfl, hb12⟩
          have HB12 := Aside0.mk hb12
          obtain ⟨q0, q1, q2, q3⟩ := box_cells (blk_below HWr.out hb12)
          clear hb12 p0 p1 p2 p3
          go_wp2_with fail
          refine (HM2.out _ HB12.out).mono ?_
          rintro e w13 ⟨rfl, hb13⟩
          have HB13 := Aside0.mk (below_step HBr.out (below_step HB12.out hb13))
          clear hb13 q0 q1 q2 q3
          go_wp2
          go_roundw
          case rel => exact ⟨k + 1, by go_num, by omega, HB13⟩
          case measure => simp [intOf]; omega
        · obtain rfl : k = xs.length + 1 := by omega
          go_wp2
          go_ret
          exact ⟨rfl, below_step HBw.out HBr.out⟩
end Go.Proofs.Ythmfbkmdhnfbnaa.BloomW
