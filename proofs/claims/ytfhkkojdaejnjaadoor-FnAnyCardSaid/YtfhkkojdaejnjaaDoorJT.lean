/-
  laws.FnBuilt, behind its guards.
  The law FnBuilt, at all inputs.
-/
import Derived.Test.YtfhkkojdaejnjaaDoorJS
import Derived.Test.YtfhkkojdaejnjaaDoorJE
import Derived.Deep.RegionHeld
import Derived.Deep.WholeRow
set_option linter.unusedVariables false
namespace Go.Proofs.YtfhkkojdaejnjaaDoor.Gcs
open Go.RowKit Go.Proofs.YtfhkkojdaejnjaaDoor.Hand Go.Proofs.YtfhkkojdaejnjaaDoor.Buf Go.Proofs.YtfhkkojdaejnjaaDoor.PFnForms Go.Proofs.YtfhkkojdaejnjaaDoorW.PrintWords Go.Proofs.YtfhkkojdaejnjaaDoorW.PrintLast Go.Proofs.YtfhkkojdaejnjaaDoorW.PrintMore

/-- One item, as a list of items. -/
theorem C_one {w : World} {g c0 : Nat} {A0 : Option Addr} {b : List Int} {T : TypeId} (h : w.heap[g]? = some (.cells #[.slice A0 b.length c0] T (0, 0))) (hC : Kd.C (Kd.int .u8) w A0 b.length b) (hc : b.length ≤ c0) : Kd.C (Kd.slice 5 (Kd.int .u8)) w (some ⟨g, 0, none⟩) 1 [b] := by
  refine ⟨rfl, by decide, fun _ => ⟨⟨g, 0, none⟩, rfl, fun j p hj => ⟨[.slice A0 p.length c0], ?_⟩⟩⟩
  match j, hj with
  | 0, hj =>
    simp only [List.getElem?_cons_zero, Option.some.injEq] at hj
    subst hj
    refine ⟨rfl, ⟨A0, c0, rfl, hc, hC⟩, fun i u hu => ?_⟩
    match i, hu with
    | 0, hu =>
      simp only [List.getElem?_cons_zero, Option.some.injEq] at hu
      subst hu
      rw [show (0 * (Kd.slice 5 (Kd.int .u8)).sz + 0) = 0 by omega, add_plain, blk_cell h]
      rfl
theorem vals_has (ks : List Int) (f : Int) (hf : 0 < f) (items : List (List Int)) (k : Nat) (hk : k < items.length) : ∃ j, j < items.length ∧ (valsI ks f items).getD j 0 = valI ks f (items.getD k []) := by
  rw [valsI_eq ks f hf]
  have h := srtI_has (items.map (valI ks f)) (valI ks f (items.getD k [])) (List.mem_map_of_mem (by rw [List.getD_eq_getElem?_getD, List.getElem?_eq_getElem hk]; exact List.getElem_mem _))
  rwa [List.length_map] at h
set_option maxRecDepth 100000 in
set_option maxHeartbeats 16000000 in
theorem built_main (ad : Addr) (q : Nat) (m : Int) (ks : List Int) (A : Option Addr) (n c : Nat) (items : List (List Int)) (w : World) (hE : Eof w ad) (hk : ks.length = 16) (hkb : Bytes ks) (hC : Kd.C (Kd.slice 5 (Kd.int .u8)) w A n items) (hn : items.length = n) (hc : n ≤ c) (h1 : 1 ≤ n) (h20 : n ≤ 20) (h60 : ∀ x ∈ items, x.length ≤ 60 ∧ Bytes x)
    (hp1 : 1 ≤ q) (hp24 : q ≤ 24) (hm1 : 1 ≤ m) (hm : m ≤ 16 * 2 ^ q) (hcd : impl_coded.f (q : Int) m = some true)
    (H1 : ∀ w1, Below w.heap.size w w1 → Calls Tryd.prog 6 #[.slice A n c] w1 fun e w' => e = .returned (.bool true) ∧ Below w1.heap.size w1 w')
    (H2 : ∀ w1, Below w.heap.size w w1 → Calls Tryd.prog 7 #[.int .u8 (q : Int), .int .u64 m] w1 fun e w' => e = .returned (.bool true) ∧ Below w1.heap.size w1 w')
    (H3 : ∀ w1, Below w.heap.size w w1 → Calls Tryd.prog 8 #[.slice A n c] w1 fun e w' => e = .returned (.bool true) ∧ Below w1.heap.size w1 w') :
    Calls Tryd.prog 3 #[.int .u8 (q : Int), .int .u64 m, .agg (ks.map (Value.int .u8)).toArray, .slice A n c] w fun e w' => e = .returned (.bool true) ∧ Below w.heap.size w w' := by
  obtain ⟨g1, g2, g3⟩ := f_facts hp24 hm1 hm h1 h20
  have hp2 : (2 : Int) ^ q ≤ 16777216 := by
    have h : (2 : Nat) ^ q ≤ 16777216 := Nat.le_trans (Nat.pow_le_pow_right (by decide) hp24) (by decide)
    have h2 := Int.ofNat_le.2 h
    rw [Int.natCast_pow] at h2
    exact h2
  have hmd2 : (n : Int) * m ≤ 5368709120 := by omega
  obtain ⟨v1, v2, v3⟩ := valsI_facts ks ((n : Int) * m) g2 items
  obtain ⟨D, hD⟩ : ∃ D, D = datS q (valsI ks ((n : Int) * m) items) n := ⟨_, rfl⟩
  have hd2 : D.length ≤ 870 := by rw [hD]; exact (dataI_length (ks := ks) (items := items) hp24 g3 g2 h1 h20).2
  have HCO : Aside0 (∀ W, Below w.heap.size w W → Calls Tryd.prog 11 #[.int .u8 (q : Int), .int .u64 m, .agg (ks.map (Value.int .u8)).toArray, .slice A n c] W (IsBytes W D)) := ⟨fun W hb => by rw [hD]; exact coded_calls q m _ ks A n c items W hk (Kd.C_below hC hb) hn hc h1 h20 (fun x hx => (h60 x hx).1) hp1 hp24 g1 g2 g3⟩
  have HBI : Aside0 (∀ W, Below w.heap.size w W → Calls Tryd.prog 9 #[.int .u8 (q : Int), .int .u64 m, .agg (ks.map (Value.int .u8)).toArray, .slice A n c] W (IsBuilt W n q m D)) := ⟨fun W hb => by rw [hD]; exact implBuild_calls q m _ ks A n c items W hk hkb (Kd.C_below hC hb) hn hc h1 h20 h60 hp1 hp24 g1 g2 g3 hcd⟩
  have HHA : Aside0 (∀ (how k : Nat) AD cD A2 W, how < 4 → k < n → Below w.heap.size w W → Kd.C (Kd.int .u8) W AD D.length D → D.length ≤ cD → Kd.C (Kd.slice 5 (Kd.int .u8)) W A2 1 [items.getD k []] → Calls Tryd.prog 12 #[.int .i64 how, .agg #[.int .u32 (n : Int), .int .u8 (q : Int), .int .u64 m, .slice AD D.length cD], .agg (ks.map (Value.int .u8)).toArray, .slice A2 1 1] W (IsHas W)) := ⟨fun how k AD cD A2 W hh hkn hb hCD hcD hCk => by
    obtain ⟨i0, hi0, hi1⟩ := vals_has ks ((n : Int) * m) g2 items k (by omega)
    have hmem : items.getD k [] ∈ items := by rw [List.getD_eq_getElem?_getD, List.getElem?_eq_getElem (by omega)]; exact List.getElem_mem _
    rw [hD] at hCD hcD hd2 ⊢
    exact has_calls how ad q n m _ AD cD _ ks A2 1 1 [items.getD k []] W i0 0 hh (fun _ => rfl) hCD hcD (by rw [v2, hn]) v1 v3 h20 hp24 g1 hmd2 (by omega) hcd (hE.below hb) hk hkb hCk rfl (by decide) (fun x hx => by rw [List.mem_singleton.1 hx]; exact h60 _ hmem) (by omega) (by decide) (by rw [hi1]; rfl)⟩
  have e32 : (n : Int) % 4294967296 = n := by omega
  have hn1 : ¬ (n : Int) < 1 := by omega
  obtain ⟨cs, hX⟩ : ∃ cs, cs = ks.map (Value.int .u8) := ⟨_, rfl⟩
  rw [← hX] at HCO HBI HHA ⊢
  have HXS : Aside0 ((Tryd.prog.info? 23).map (·.size) = some cs.toArray.size) := ⟨by rw [show (Tryd.prog.info? 23).map (·.size) = some 16 by kernel_rfl, hX]; simp [hk]⟩
  obtain ⟨l, hl⟩ : ∃ l, l = D.length := ⟨_, rfl⟩
  have HL := Aside0.mk hl
  rw [← hl] at HHA
  have HS : Aside0 (∀ (A0 : Option Addr) (c0 : Nat) (A1 : Option Addr) (c1 : Nat) (w : World), Kd.C (Kd.int .u8) w A0 l D → Kd.C (Kd.int .u8) w A1 l D → Calls Tryd.prog 10 #[.slice A0 l c0, .slice A1 l c1] w fun e w' => e = .returned (.bool true) ∧ Below w.heap.size w w') := ⟨fun A0 c0 A1 c1 w h0 h1 => same_any D l A0 c0 A1 c1 w h0 h1⟩
  have HB := Aside0.mk (Below.refl w.heap.size w)
  have H1 := Aside0.mk H1
  have H2 := Aside0.mk H2
  have H3 := Aside0.mk H3
  have HC := Aside0.mk hC
  have HN := Aside0.mk hn
  clear hX hE hk hkb hC hn hc h60 hp1 hp24 hm1 hm hcd g1 g2 g3 hD hd2 hl v1 v2 v3 hmd2 hp2
  go_enter Tryd.func3, Tryd.ntmps3
  go_wp2_with (first
    | ((with_reducible refine gate_dst (N := 6) rfl ?_); refine box_event ?hg (N := 6) ?hd (cs := cs.toArray) (t := 23) ?hr ?_; (case hd => rfl); (case hg => rfl); (case hr => first | (go_simp; done) | (go_simp; rfl)); intro gk hg w1 hbox hb1; have HK1 := Aside0.mk hbox; have HB1 := Aside0.mk (below_step HB.out hb1); clear hg hbox hb1)
    | (go_at_call 6; refine (H1.out _ HB1.out).mono ?_; rintro e2 w2 ⟨rfl, hb2⟩; have HK2 := Aside0.mk (blk_below HK1.out hb2); have HB2 := Aside0.mk (below_step HB1.out hb2); clear hb2)
    | (go_at_call 7; refine (H2.out _ HB2.out).mono ?_; rintro e3 w3 ⟨rfl, hb3⟩; have HK3 := Aside0.mk (blk_below HK2.out hb3); have HB3 := Aside0.mk (below_step HB2.out hb3); clear hb3)
    | (go_at_call 8; refine (H3.out _ HB3.out).mono ?_; rintro e4 w4 ⟨rfl, hb4⟩; have HK4 := Aside0.mk (blk_below HK3.out hb4); have HB4 := Aside0.mk (below_step HB3.out hb4); clear hb4)
    | ((with_reducible show wpList _ _ _ _ _ _); (with_reducible refine wpList_load_row (o := ⟨some 36, _, _, _, _, _⟩) rfl 23 (.tmp 6) rfl gk rfl 23 cs.toArray (0, 0) _ HK4.out Tryd.underlying23 rfl HXS.out ?_))
    | (go_at_call 9; refine (HBI.out _ HB4.out).mono ?_; intro e5 w5 hq; unfold IsBuilt at hq; obtain ⟨AD, cD, rfl, hcD, hC5, hb5⟩ := hq; rw [← HL.out] at hC5 hcD ⊢; have HK5 := Aside0.mk (blk_below HK4.out hb5); have HC5 := Aside0.mk hC5; have HCD := Aside0.mk hcD; have HB5 := Aside0.mk (below_step HB4.out hb5); clear hC5 hb5 hcD)
    | ((with_reducible refine gate_dst (N := 9) rfl ?_); refine box_event ?hg (N := 9) ?hd (cs := #[.int .u32 0, .int .u8 0, .int .u64 0, .slice none 0 0]) (t := 31) ?hr ?_; (case hd => rfl); (case hg => rfl); (case hr => first | (go_simp; done) | (go_simp; rfl)); intro g hg w9 hbox hb9; have HG9 := Aside0.mk hbox; have HGE : Aside0 (w5.heap.size ≤ g) := ⟨by rw [hg]; exact Nat.le_refl _⟩; have HW9 := Aside0.mk hb9; clear hg hbox hb9)
    | ((with_reducible refine gate_store (t := 31) (p := 9) rfl ?_); refine blk_store31 rfl rfl rfl HG9.out HW9.out HGE.out rfl rfl ?_; intro wa hG hB; have HG := Aside0.mk hG; have HBa := Aside0.mk (below_step HB5.out hB); have HKa := Aside0.mk (blk_below HK5.out hB); have HDa := Aside0.mk (Kd.C_below HC5.out hB); clear hG hB)
    | fail)
  have HSAT : Aside0 (∀ W, Below wa.heap.size wa W → W.cell? ⟨g, 0, none⟩ = some (.int .u32 n) ∧ W.cell? ⟨g, 1, none⟩ = some (.int .u8 q) ∧ W.cell? ⟨g, 2, none⟩ = some (.int .u64 m) ∧ W.cell? ⟨g, 3, none⟩ = some (.slice AD l cD) ∧ W.rangeAt gk 0 cs) := ⟨fun W hb => ⟨(cell_of_blk (blk_below HG.out hb) (i := 0) rfl).1, (cell_of_blk (blk_below HG.out hb) (i := 1) rfl).1, (cell_of_blk (blk_below HG.out hb) (i := 2) rfl).1, (cell_of_blk (blk_below HG.out hb) (i := 3) rfl).1, fun j v hv => by
    have h := (cell_of_blk (blk_below HKa.out hb) (i := j) (z := v) (by rw [List.getElem?_toArray]; exact hv)).1
    rwa [Nat.zero_add]⟩⟩
  have hri : (Tryd.prog.info? 23).map (·.size) = some cs.length := by have h := HXS.out; rwa [List.size_toArray] at h
  have hru := Tryd.underlying23
  have hwr : IntKind.i64.wrap (n : Int) = n := IntWalk.i64_in _ ⟨by omega, by omega⟩
  have HBD : Aside0 (Below w.heap.size w wa.drew) := ⟨below_drew HBa.out⟩
  have HBD2 : Aside0 (Below wa.heap.size wa wa.drew) := ⟨below_drew (Below.refl _ _)⟩
  go_cut [73] from 41 (fun s73 wx => s73 = .bool false ∧ Aside0 (Below wa.heap.size wa wx))
  case first =>
    go_region_held (fun W => W.cell? ⟨g, 0, none⟩ = some (.int .u32 n) ∧ W.cell? ⟨g, 1, none⟩ = some (.int .u8 q) ∧ W.cell? ⟨g, 2, none⟩ = some (.int .u64 m) ∧ W.cell? ⟨g, 3, none⟩ = some (.slice AD l cD) ∧ W.rangeAt gk 0 cs) (first | exact HSAT.out _ HB7.out | exact HSAT.out _ HB6.out | exact HSAT.out _ HBD2.out) (first
      | (go_at_call 11; (with_reducible refine (HCO.out _ HBD.out).mono ?_); intro e6 w6 hq; unfold IsBytes at hq; obtain ⟨AE, cE, rfl, _, hC6, hb6⟩ := hq; rw [← HL.out] at hC6 ⊢; have HC6 := Aside0.mk hC6; have HB6 := Aside0.mk (below_step HBD2.out hb6); clear hC6 hb6)
      | (go_at_call 10; (with_reducible refine (HS.out AD cD AE cE _ (Kd.C_below HDa.out HB6.out) HC6.out).mono ?_); rintro e7 w7 ⟨rfl, hb7⟩; have HB7 := Aside0.mk (below_step HB6.out hb7); clear hb7))
    all_goals (go_wp2_with fail; go_meet; exact ⟨rfl, HB7⟩)
  obtain ⟨rfl, HBc⟩ := hcut
  clear hwr HSAT hri hru HBD HBD2 HB1 HB2 HB3 HB4 HK1 HK2 HK3 HK4 HK5 HW9 HG9 HBI HCO HS H1 H2 H3 HB
  go_wp2_with fail
  have HB0 := HBc
  go_loopw [76] (fun v76 wr => ∃ k : Nat, v76 = .int .i64 k ∧ k ≤ n ∧ Aside0 (Below wa.heap.size wa wr)) (fun v76 _ => n - (intOf v76).toNat)
  case atStart => exact ⟨0, rfl, Nat.zero_le _, HB0⟩
  case round =>
    obtain ⟨k, rfl, hk, HBr⟩ := hrel
    clear HB0 HBc
    by_cases hkn : k < n
    · obtain ⟨ad2, A0, c0, rfl, kd, hc0, hCb⟩ := at_L1 (Kd.C_below HC.out (below_step HBa.out HBr.out)) (k : Int) (by omega) (by omega)
      have hrd : rd_L1 items (k : Int) = items.getD k [] := by unfold rd_L1; rw [Int.toNat_natCast]
      rw [hrd] at kd hc0 hCb
      rw [Int.toNat_natCast] at kd
      have HCb := Aside0.mk hCb
      have HH := HHA
      have HHK : Aside0 (∀ (how : Nat) A2 W, how < 4 → Below wr.heap.size wr W → Kd.C (Kd.slice 5 (Kd.int .u8)) W A2 1 [items.getD k []] → Calls Tryd.prog 12 #[.int .i64 how, .agg #[.int .u32 (n : Int), .int .u8 (q : Int), .int .u64 m, .slice AD l cD], .agg cs.toArray, .slice A2 1 1] W (IsHas W)) := ⟨fun how A2 W hh hb hCk => HHA.out how k AD cD A2 W hh hkn (below_step (below_step HBa.out HBr.out) hb) (Kd.C_below (Kd.C_below HDa.out HBr.out) hb) HCD.out hCk⟩
      have HGr := Aside0.mk (blk_below HG.out HBr.out)
      have HKr := Aside0.mk (blk_below HKa.out HBr.out)
      clear hrd hCb HH
      generalize items.getD k [] = b at kd hc0 HCb HHK
      go_wp2_with fail
      have HB20 := Aside0.mk (Below.refl wr.heap.size wr)
      obtain ⟨wq, hwq⟩ : ∃ wq, wq = wr := ⟨_, rfl⟩
      subst hwq
      go_loopw [13] (fun v13 wr2 => ∃ how : Nat, v13 = .int .i64 how ∧ how ≤ 4 ∧ Aside0 (Below wq.heap.size wq wr2)) (fun v13 _ => 4 - (intOf v13).toNat)
      case atStart => exact ⟨0, rfl, Nat.zero_le _, HB20⟩
      case round =>
        obtain ⟨how, rfl, hh4, HB2r⟩ := hrel
        clear HB20
        by_cases hh : how < 4
        · have HG2 := Aside0.mk (blk_below HGr.out HB2r.out)
          have HK2 := Aside0.mk (blk_below HKr.out HB2r.out)
          obtain ⟨k0, -⟩ := cell_of_blk HG2.out (i := 0) rfl
          obtain ⟨k1, -⟩ := cell_of_blk HG2.out (i := 1) rfl
          obtain ⟨k2, -⟩ := cell_of_blk HG2.out (i := 2) rfl
          obtain ⟨k3, -⟩ := cell_of_blk HG2.out (i := 3) rfl
          go_wp2_with (first
            | ((with_reducible show wpList _ _ _ _ _ _); (with_reducible refine wpList_load_row (o := ⟨some 87, _, _, _, _, _⟩) rfl 23 (.tmp 6) rfl gk rfl 23 cs.toArray (0, 0) _ HK2.out Tryd.underlying23 rfl HXS.out ?_))
            | (go_at_call 12; (with_reducible refine (HHK.out how _ _ hh (below_alloc HB2r.out _) (C_one (heap_alloc_last _ _) (Kd.C_below HCb.out (below_alloc HB2r.out _)) hc0)).mono ?_); intro e8 w8 hq; unfold IsHas at hq; obtain ⟨rfl, hb8⟩ := hq; have HB8 := Aside0.mk (below_step (below_alloc HB2r.out _) hb8); clear hb8)
            | fail)
          go_roundw
          case rel => exact ⟨how + 1, by go_num, by omega, ⟨HB8.out⟩⟩
          case measure => first | (simp [intOf]; done) | (simp [intOf]; omega)
        · obtain rfl : how = 4 := by omega
          go_wp2_with fail
          go_roundw
          case rel => exact ⟨k + 1, by go_num, by omega, ⟨below_step HBr.out HB2r.out⟩⟩
          case measure => first | (simp [intOf]; done) | (simp [intOf]; omega)
    · go_wp2_with fail
      exact bodyPost_ret (results_tmp rfl _ _ _) rfl ⟨rfl, below_step HBa.out HBr.out⟩
end Go.Proofs.YtfhkkojdaejnjaaDoor.Gcs
namespace Go.Proofs.YtfhkkojdaejnjaaDoor.Gcs
open Go.RowKit Go.Proofs.YtfhkkojdaejnjaaDoor.Hand Go.Proofs.YtfhkkojdaejnjaaDoor.Buf Go.Proofs.YtfhkkojdaejnjaaDoor.PFnForms Go.Proofs.YtfhkkojdaejnjaaDoorW.PrintWords Go.Proofs.YtfhkkojdaejnjaaDoorW.PrintLast Go.Proofs.YtfhkkojdaejnjaaDoorW.PrintMore

theorem built_law (ad : Addr) (p m : Int) (ks : List Int) (A : Option Addr) (c : Nat) (items : List (List Int)) (w : World) (hE : w.cell? ⟨2, 0, none⟩ = some (.iface 113 (.pointer (some ad)))) (hk : ks.length = 16) (hkb : ∀ x ∈ ks, 0 ≤ x ∧ x < 256) (hC : Kd.C (Kd.slice 5 (Kd.int .u8)) w A items.length items) (hc : items.length ≤ c) (hib : ∀ x ∈ items, ∀ y ∈ x, 0 ≤ y ∧ y < 256) :
    Calls Tryd.prog 3 #[.int .u8 p, .int .u64 m, .agg (ks.map (Value.int .u8)).toArray, .slice A items.length c] w fun e w' => e = .returned (.bool true) ∧ Below w.heap.size w w' := by
  have hxl : items.length ≤ 9223372036854775807 := hC.2.1
  obtain ⟨k1, b1, e1, _⟩ := zz_is items hxl
  obtain ⟨b2, e2, g2⟩ := coded_is p m
  obtain ⟨k3, e3⟩ := small_is items hxl
  have H1 : ∀ w1, Below w.heap.size w w1 → Calls Tryd.prog 6 #[.slice A items.length c] w1 fun e w' => e = .returned (.bool b1) ∧ Below w1.heap.size w1 w' := fun w1 hw => (laws_zzFits2.calls k1 A c items b1 w1 (Kd.C_below hC hw) hc e1).mono fun e w' ⟨a, b⟩ => ⟨a, b.below⟩
  have H2 : ∀ w1, Below w.heap.size w w1 → Calls Tryd.prog 7 #[.int .u8 p, .int .u64 m] w1 fun e w' => e = .returned (.bool b2) ∧ Below w1.heap.size w1 w' := fun w1 _ => (laws_isCoded.calls p m b2 w1 e2).mono fun e w' ⟨a, b⟩ => ⟨a, b.below⟩
  have H3 : ∀ w1, Below w.heap.size w w1 → Calls Tryd.prog 8 #[.slice A items.length c] w1 fun e w' => e = .returned (.bool (allTo 60 items && decide (items.length ≤ 20))) ∧ Below w1.heap.size w1 w' := fun w1 hw => (spec_IsSmall.calls k3 A c items _ w1 (Kd.C_below hC hw) hc e3).mono fun e w' ⟨a, b⟩ => ⟨a, b.below⟩
  by_cases hall : b1 = true ∧ b2 = true ∧ 1 ≤ items.length ∧ (allTo 60 items && decide (items.length ≤ 20)) = true
  · obtain ⟨a1, a2, a3, a4⟩ := hall
    rw [a1] at H1
    rw [a2] at H2
    rw [a4] at H3
    rw [Bool.and_eq_true] at a4
    have h60 : ∀ x ∈ items, x.length ≤ 60 ∧ Bytes x := fun x hx => ⟨of_decide_eq_true (List.all_eq_true.1 a4.1 x hx), hib x hx⟩
    obtain ⟨p1, p2, m1, m2, hcd⟩ := g2 a2
    obtain ⟨q, rfl⟩ := Int.eq_ofNat_of_zero_le (show 0 ≤ p by omega)
    exact built_main ad q m ks A items.length c items w ⟨hE⟩ hk hkb hC rfl hc a3 (of_decide_eq_true a4.2) h60 (by omega) (by omega) m1 m2 hcd H1 H2 H3
  · exact built_stop p m _ A items.length c w b1 b2 _ H1 H2 H3 hall
end Go.Proofs.YtfhkkojdaejnjaaDoor.Gcs
