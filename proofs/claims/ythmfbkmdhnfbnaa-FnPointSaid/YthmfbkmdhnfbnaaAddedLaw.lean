/-
  The law FnAdded, walked.
-/
import Derived.Test.YthmfbkmdhnfbnaaImplMatch
namespace Go.Proofs.Ythmfbkmdhnfbnaa.BloomW
open Go.RowKit Go.Proofs.Ythmfbkmdhnfbnaa.Hand Go.Proofs.YthmfbkmdhnfbnaaW.PrintWords Go.Proofs.YthmfbkmdhnfbnaaW.PrintLast Go.Proofs.YthmfbkmdhnfbnaaW.PrintMore Mur Blo

theorem zz1_f (D : List Int) (a b c : Int) : PFnAdded.laws_zzFits1.f D a b c = some (decide (D.length ≤ 2147483647)) := by
  unfold PFnAdded.laws_zzFits1.f
  by_cases h : D.length ≤ 2147483647
  · rw [if_neg (by omega), decide_eq_true h]
  · rw [if_pos (by omega), decide_eq_false h]
def isB (n : Nat) (fu fl : Int) : Bool := decide (1 ≤ n ∧ n ≤ 200 ∧ 1 ≤ fu ∧ fu ≤ 50 ∧ 0 ≤ fl ∧ fl ≤ 2)
theorem isB_f (D : List Int) (fu tw fl : Int) : PFnAdded.spec_IsBloom.f D fu tw fl = some (isB D.length fu fl) := by
  unfold PFnAdded.spec_IsBloom.f isB
  by_cases h1 : 1 ≤ D.length
  · rw [if_pos (by omega)]
    by_cases h2 : D.length ≤ 200
    · rw [if_pos (by omega)]
      by_cases h3 : 1 ≤ fu
      · rw [if_pos (by omega)]
        by_cases h4 : fu ≤ 50
        · rw [if_pos (by omega)]
          by_cases h5 : 0 ≤ fl
          · rw [if_pos (by omega)]; simp [h1, h2, h3, h4, h5]
          · rw [if_neg (by omega)]; simp [h5]
        · rw [if_neg (by omega)]; simp [h4]
      · rw [if_neg (by omega)]; simp [h3]
    · rw [if_neg (by omega)]; simp [h2]
  · rw [if_neg (by omega)]; simp [h1]

/-- The guards of the law, where one of them lets the input pass. -/
theorem law_stop (A : Option Addr) (c : Nat) (D : List Int) (fu tw fl : Int) (AI : Option Addr) (cI : Nat) (xs : List (List Int)) (Ao : Option Addr) (co : Nat) (lo : List Int) (w : World) (b1 b2 b4 b5 b6 : Bool)
    (H1 : ∀ w1, Below w.heap.size w w1 → Calls Try.prog 10 #[.agg #[.slice A D.length c, .int .u32 fu, .int .u32 tw, .int .i64 fl]] w1 fun e w' => e = .returned (.bool b1) ∧ Below w1.heap.size w1 w')
    (H2 : ∀ w1, Below w.heap.size w w1 → Calls Try.prog 11 #[.slice AI xs.length cI] w1 fun e w' => e = .returned (.bool b2) ∧ Below w1.heap.size w1 w')
    (H4 : ∀ w1, Below w.heap.size w w1 → Calls Try.prog 12 #[.agg #[.slice A D.length c, .int .u32 fu, .int .u32 tw, .int .i64 fl]] w1 fun e w' => e = .returned (.bool b4) ∧ Below w1.heap.size w1 w')
    (H5 : ∀ w1, Below w.heap.size w w1 → Calls Try.prog 7 #[.slice AI xs.length cI] w1 fun e w' => e = .returned (.bool b5) ∧ Below w1.heap.size w1 w')
    (H6 : ∀ w1 : World, Below w.heap.size w w1 → Calls Try.prog 7 #[.slice (some ⟨w1.heap.size, 0, none⟩) 1 1] (w1.alloc (.cells #[.slice Ao lo.length co] 23)) fun e w' => e = .returned (.bool b6) ∧ Below w1.heap.size w1 w')
    (hstop : ¬ (b1 = true ∧ b2 = true ∧ lo.length ≤ 2147483647 ∧ b4 = true ∧ b5 = true ∧ b6 = true)) :
    Calls Try.prog 4 #[.agg #[.slice A D.length c, .int .u32 fu, .int .u32 tw, .int .i64 fl], .slice AI xs.length cI, .slice Ao lo.length co] w fun e w' => e = .returned (.bool true) ∧ Below w.heap.size w w' := by
  have H1 := Aside0.mk H1
  have H2 := Aside0.mk H2
  have H4 := Aside0.mk H4
  have H5 := Aside0.mk H5
  have H6 := Aside0.mk H6
  have hs := Aside0.mk hstop
  clear hstop
  go_enter Try.func4, Try.ntmps4
  have HB0 := Aside0.mk (below_alloc (Below.refl w.heap.size w) (boxO A D.length c fu tw fl))
  go_wp2_with fail
  refine (H1.out _ HB0.out).mono ?_
  rintro e w1 ⟨rfl, hb1⟩
  have HB1 := Aside0.mk (below_step HB0.out hb1)
  have HG1 := Aside0.mk (blk_below (box_new w (boxO A D.length c fu tw fl)) hb1)
  clear hb1
  cases b1
  · go_wp2
    all_goals (go_ret; exact ⟨rfl, HB1.out⟩)
  go_wp2_with fail
  refine (H2.out _ HB1.out).mono ?_
  rintro e w2 ⟨rfl, hb2⟩
  have HB2 := Aside0.mk (below_step HB1.out hb2)
  have HG2 := Aside0.mk (blk_below HG1.out hb2)
  clear hb2
  cases b2
  · go_wp2
    all_goals (go_ret; exact ⟨rfl, HB2.out⟩)
  by_cases h3 : (2147483647 : Int) < (lo.length : Int)
  · go_wp2
    all_goals first | (exfalso; omega) | (go_ret; exact ⟨rfl, HB2.out⟩)
  obtain ⟨k0, k1, k2, k3⟩ := box_cells HG2.out
  go_wp2_with fail
  refine (H4.out _ HB2.out).mono ?_
  rintro e w4 ⟨rfl, hb4⟩
  have HB4 := Aside0.mk (below_step HB2.out hb4)
  have HG4 := Aside0.mk (blk_below HG2.out hb4)
  clear hb4 k0 k1 k2 k3
  cases b4
  · go_wp2
    all_goals (go_ret; exact ⟨rfl, HB4.out⟩)
  go_wp2_with fail
  refine (H5.out _ HB4.out).mono ?_
  rintro e w5 ⟨rfl, hb5⟩
  have HB5 := Aside0.mk (below_step HB4.out hb5)
  have HG5 := Aside0.mk (blk_below HG4.out hb5)
  clear hb5
  cases b5
  · go_wp2
    all_goals (go_ret; exact ⟨rfl, HB5.out⟩)
  go_wp2_with fail
  refine (H6.out _ HB5.out).mono ?_
  rintro e w6 ⟨rfl, hb6⟩
  have HB6 := Aside0.mk (below_step HB5.out hb6)
  have HG6 := Aside0.mk (blk_below HG5.out hb6)
  clear hb6
  cases b6
  · go_wp2
    all_goals (go_ret; exact ⟨rfl, HB6.out⟩)
  exact (hs.out (by simp; omega)).elim

/-! ### Rows of slices, as their heads -/
abbrev Hdr := Option Addr × Nat × Nat
def hdrV (p : Hdr) : Value := .slice p.1 p.2.1 p.2.2
abbrev kH : Kd Hdr := Kd.scalar hdrV (fun _ => rfl)
theorem info23 : (Try.prog.info? 23).map (fun i => (i.zero, i.size, i.bytes)) = some (some (.slice none 0 0), 1, 24) := by kernel_rfl

theorem hdrs {w : World} {A : Option Addr} {n : Nat} {xs : List (List Int)} (h : Kd.C (Kd.slice 5 (Kd.int .u8)) w A n xs) :
    ∃ hs : List Hdr, hs.length = n ∧ kH.C w A n hs ∧ ∀ i, i < n → (hs.getD i (none, 0, 0)).2.1 = (xs.getD i []).length ∧ (xs.getD i []).length ≤ (hs.getD i (none, 0, 0)).2.2 ∧ Kd.C (Kd.int .u8) w (hs.getD i (none, 0, 0)).1 (xs.getD i []).length (xs.getD i []) := by
  have hx := fun i hi => item_at h i hi
  have key : ∃ F : Nat → Hdr, ∀ i, i < n → ∃ ad, A = some ad ∧ w.cell? (ad.add i) = some (hdrV (F i)) ∧ (F i).2.1 = (xs.getD i []).length ∧ (xs.getD i []).length ≤ (F i).2.2 ∧ Kd.C (Kd.int .u8) w (F i).1 (xs.getD i []).length (xs.getD i []) := by
    refine ⟨fun i => if hi : i < n then ((hx i hi).choose_spec.choose, (xs.getD i []).length, (hx i hi).choose_spec.choose_spec.choose) else (none, 0, 0), fun i hi => ?_⟩
    dsimp only
    rw [dif_pos hi]
    have h1 := (hx i hi).choose_spec.choose_spec.choose_spec
    exact ⟨(hx i hi).choose, h1.1, h1.2.1, rfl, h1.2.2.1, h1.2.2.2⟩
  obtain ⟨F, hF⟩ := key
  have hget : ∀ i, i < n → ((List.range n).map F).getD i (none, 0, 0) = F i := fun i hi => by
    rw [List.getD_eq_getElem?_getD, List.getElem?_map, List.getElem?_range hi]; rfl
  refine ⟨(List.range n).map F, by simp, ⟨by simp, h.2.1, fun hp => ?_⟩, fun i hi => ?_⟩
  · obtain ⟨ad, e, _⟩ := hF 0 hp
    refine ⟨ad, e, fun j p hj => ?_⟩
    have hj' : j < n := by
      have := (List.getElem?_eq_some_iff.1 hj).1
      simpa using this
    rw [List.getElem?_map, List.getElem?_range hj'] at hj
    injection hj with hj
    subst hj
    obtain ⟨ad2, e2, hc, _⟩ := hF j hj'
    rw [e] at e2
    injection e2 with e2
    subst e2
    refine ⟨[hdrV (F j)], rfl, rfl, fun i u hu => ?_⟩
    match i, hu with
    | 0, hu =>
      simp only [List.getElem?_cons_zero, Option.some.injEq] at hu
      subst hu
      have e1 : kH.sz = 1 := rfl
      rw [e1, Nat.mul_one, Nat.add_zero]
      exact hc
  · rw [hget i hi]
    obtain ⟨_, _, _, h2, h3, h4⟩ := hF i hi
    exact ⟨h2, h3, h4⟩

/-- The wanted filter's box, where its bytes are put anew. -/
theorem want_step {w' : World} {gw base n c c2 : Nat} {A A2 : Option Addr} {fu tw fl : Int} {cur : List Int} (hb : w'.heap[gw]? = some (boxO A n c fu tw fl)) (hR : (Kd.int .u8).R 5 w' base (fun _ => True) (.slice A2 n c2) cur) (hgb : gw < base) :
    (w'.setCell ⟨gw, 0, none⟩ (.slice A2 n c2)).heap[gw]? = some (boxO A2 n c2 fu tw fl) ∧ Kd.C (Kd.int .u8) (w'.setCell ⟨gw, 0, none⟩ (.slice A2 n c2)) A2 n cur ∧ n ≤ c2 := by
  have h1 := Kd.R_far (p := ⟨gw, 0, none⟩) (Kd.R_mono (Kd.R_bound hR) (ok' := fun k => k ≠ gw) (fun k hk e => by have := hk.2.1; omega)) (fun _ h => h) (.slice A2 n c2)
  have h2 := Kd.R_reads' h1
  refine ⟨by rw [blk_set hb]; rfl, ?_, h2.2.1⟩
  have e := h2.1
  subst e
  exact h2.2.2
end Go.Proofs.Ythmfbkmdhnfbnaa.BloomW
