/-
  impl.fits, impl.Build.
  impl.Has: each road finds what was built in.
  laws.FnBuilt, its guards.
-/
import Derived.Test.YtfhkkojdaejnjaaDoorJP
import Derived.Test.YtfhkkojdaejnjaaDoorJQ
import Derived.Test.YtfhkkojdaejnjaaDoorJD
import Derived.Test.YtfhkkojdaejnjaaDoorJR
import Derived.Test.YtfhkkojdaejnjaaDoorJC
set_option linter.unusedVariables false
namespace Go.Proofs.YtfhkkojdaejnjaaDoor.Gcs
open Go.RowKit Go.Proofs.YtfhkkojdaejnjaaDoor.Hand Go.Proofs.YtfhkkojdaejnjaaDoor.Buf Go.Proofs.YtfhkkojdaejnjaaDoor.PFnForms Go.Proofs.YtfhkkojdaejnjaaDoorW.PrintWords Go.Proofs.YtfhkkojdaejnjaaDoorW.PrintLast Go.Proofs.YtfhkkojdaejnjaaDoorW.PrintMore

set_option maxRecDepth 100000 in
theorem fits_calls (A : Option Addr) (n c : Nat) (items : List (List Int)) (w : World) (hC : Kd.C (Kd.slice 5 (Kd.int .u8)) w A n items) (hn : items.length = n) (h60 : n ≤ 60) (h100 : ∀ x ∈ items, x.length ≤ 100) :
    Calls Tryd.prog 16 #[.slice A n c] w fun e w' => e = .returned (.bool true) ∧ w' = w := by
  have HC := Aside0.mk hC
  have HN := Aside0.mk hn
  have H100 := Aside0.mk h100
  have hn6 : ¬ (60 : Int) < (n : Int) := by omega
  clear hC hn h100
  go_enter Tryd.func16, Tryd.ntmps16
  go_wp2_with fail
  go_loopw [10] (fun v10 wr => ∃ k : Nat, v10 = .int .i64 k ∧ k ≤ n ∧ wr = w) (fun v10 _ => n - (intOf v10).toNat)
  case atStart => exact ⟨0, rfl, Nat.zero_le _, rfl⟩
  case round =>
    obtain ⟨k, rfl, hk, rfl⟩ := hrel
    by_cases hkn : k < n
    · obtain ⟨ad, A0, c0, rfl, kd, hc0, _⟩ := at_L1 HC.out (k : Int) (by omega) (by omega)
      have hbl := H100.out (rd_L1 items (k : Int)) (by unfold rd_L1; rw [Int.toNat_natCast, List.getD_eq_getElem?_getD, List.getElem?_eq_getElem (by rw [HN.out]; exact hkn)]; exact List.getElem_mem _)
      rw [Int.toNat_natCast] at kd
      generalize (rd_L1 items (k : Int)).length = bl at kd hbl
      have hb1 : ¬ (100 : Int) < (bl : Int) := by omega
      clear hc0
      go_wp2_with fail
      go_roundw
      case rel => exact ⟨k + 1, by go_num, by omega, trivial⟩
      case measure => first | (simp [intOf]; done) | (simp [intOf]; omega)
    · go_wp2_with fail
      exact bodyPost_ret (results_tmp rfl _ _ _) rfl ⟨rfl, rfl⟩
/-- What was built, told. -/
def IsBuilt (w : World) (n p m : Int) (D : List Int) (e : Ending) (w' : World) : Prop :=
  ∃ A c, e = .returned (.tuple #[.agg #[.int .u32 n, .int .u8 p, .int .u64 m, .slice A D.length c], .bool true]) ∧ D.length ≤ c ∧ Kd.C (Kd.int .u8) w' A D.length D ∧ Below w.heap.size w w'
set_option maxRecDepth 100000 in
set_option maxHeartbeats 16000000 in
theorem implBuild_calls (p : Nat) (m f : Int) (ks : List Int) (A : Option Addr) (n c : Nat) (items : List (List Int)) (w : World) (hk : ks.length = 16) (hkb : Bytes ks) (hC : Kd.C (Kd.slice 5 (Kd.int .u8)) w A n items) (hn : items.length = n) (hc : n ≤ c) (h1 : 1 ≤ n) (h20 : n ≤ 20) (h60 : ∀ x ∈ items, x.length ≤ 60 ∧ Bytes x)
    (hp1 : 1 ≤ p) (hp24 : p ≤ 24) (hf : IntKind.u64.wrap ((n : Int) * m) = f) (hf0 : 0 < f) (hf1 : f ≤ 320 * 2 ^ p) (hcd : impl_coded.f (p : Int) m = some true) :
    Calls Tryd.prog 9 #[.int .u8 p, .int .u64 m, .agg (ks.map (Value.int .u8)).toArray, .slice A n c] w (IsBuilt w n p m (datS p (valsI ks f items) n)) := by
  have HBC : Aside0 (∀ W, Below w.heap.size w W → Calls Tryd.prog 17 #[.int .u8 p, .int .u64 m, .agg (ks.map (Value.int .u8)).toArray, .slice A n c] W (IsFlt W n p f (datS p (valsI ks f items) n))) := ⟨fun W hb => build_calls p m f ks A n c items W hk hkb (Kd.C_below hC hb) hn hc h1 h20 h60 hp1 hp24 hf hf0 hf1⟩
  have HFT : Aside0 (∀ W, Below w.heap.size w W → Calls Tryd.prog 16 #[.slice A n c] W fun e w' => e = .returned (.bool true) ∧ w' = W) := ⟨fun W hb => fits_calls A n c items W (Kd.C_below hC hb) hn (by omega) (fun x hx => Nat.le_trans (h60 x hx).1 (by decide))⟩
  have HCD : Aside0 (∀ W, Calls Tryd.prog 15 #[.int .u8 p, .int .u64 m] W fun e w' => e = .returned (.bool true) ∧ Below W.heap.size W w') := ⟨fun W => (impl_coded.calls p m true W hcd).mono fun e w' ⟨a, b⟩ => ⟨a, b.below⟩⟩
  have hdl : (datS p (valsI ks f items) n).length ≤ 2000 := Nat.le_trans (dataI_length (ks := ks) (items := items) hp24 hf1 hf0 h1 h20).2 (by decide)
  obtain ⟨D, hD⟩ : ∃ D, D = datS p (valsI ks f items) n := ⟨_, rfl⟩
  rw [← hD] at HBC hdl ⊢
  have H1 : Aside0 (∀ g A1 c1 W, Flt W g n p f A1 c1 D → Calls Tryd.prog 18 #[.pointer (some ⟨g, 0, none⟩)] W (IsCopy W D)) := ⟨fun g A1 c1 W h => bytes_calls g n p f A1 c1 D W h (by omega)⟩
  obtain ⟨X, hX⟩ : ∃ X, X = (ks.map (Value.int .u8)).toArray := ⟨_, rfl⟩
  rw [← hX] at HBC ⊢
  have HXS : Aside0 ((Tryd.prog.info? 23).map (·.size) = some X.size) := ⟨by rw [hX]; simp only [List.size_toArray, List.length_map, hk]; kernel_rfl⟩
  have HDL := Aside0.mk hdl
  have HB := Aside0.mk (Below.refl w.heap.size w)
  clear hX hD hk hkb hC hn hc h1 h20 h60 hp1 hp24 hf hf0 hf1 hcd hdl
  go_enter Tryd.func9, Tryd.ntmps9
  go_wp2_with (first
    | ((with_reducible refine gate_dst (N := 6) rfl ?_); refine box_event ?hg (N := 6) ?hd (cs := X) (t := 23) ?hr ?_; (case hd => rfl); (case hg => rfl); (case hr => first | (go_simp; done) | (go_simp; rfl)); intro gk hg w1 hbox hb1; have HKB := Aside0.mk hbox; have HB1 := Aside0.mk (below_step HB.out hb1); clear hg hbox hb1)
    | ((with_reducible refine gate_dst (N := 8) rfl ?_); refine box_event ?hg (N := 8) ?hd (cs := #[.int .u32 0, .int .u8 0, .int .u64 0, .slice none 0 0]) (t := 31) ?hr ?_; (case hd => rfl); (case hg => rfl); (case hr => first | (go_simp; done) | (go_simp; rfl)); intro g8 hg w2 hbox hb2; have HG8 := Aside0.mk hbox; have HG8E : Aside0 (w.heap.size ≤ g8) := ⟨by rw [hg]; exact HB1.out.size⟩; have HB2 := Aside0.mk (below_step HB1.out hb2); have HK2 := Aside0.mk ((hb2.block gk (blk_lt HKB.out)).trans HKB.out); clear hg hbox hb2)
    | (go_at_call 15; (with_reducible refine (HCD.out _).mono ?_); rintro e3 w3 ⟨rfl, hb3⟩; have HB3 := Aside0.mk (below_step HB2.out hb3); have HK3 := Aside0.mk ((hb3.block gk (blk_lt HK2.out)).trans HK2.out); have HG83 := Aside0.mk ((hb3.block g8 (blk_lt HG8.out)).trans HG8.out); clear hb3)
    | (go_at_call 16; (with_reducible refine (HFT.out _ HB3.out).mono ?_); rintro e4 w4 ⟨rfl, hw4⟩; obtain rfl : w4 = w3 := hw4)
    | ((with_reducible show wpList _ _ _ _ _ _); (with_reducible refine wpList_load_row (o := ⟨some 26, _, _, _, _, _⟩) rfl 23 (.tmp 6) rfl gk rfl 23 X (0, 0) _ HK3.out Tryd.underlying23 rfl HXS.out ?_))
    | (go_at_call 17; (with_reducible refine (HBC.out _ HB3.out).mono ?_); intro e5 w5 hq; unfold IsFlt at hq; obtain ⟨gf, A5, c5, rfl, hF, hf, hb5⟩ := hq; have HF := Aside0.mk hF; have HB5 := Aside0.mk (below_step HB3.out hb5); have HG85 := Aside0.mk ((hb5.block g8 (blk_lt HG83.out)).trans HG83.out); clear hF hf hb5)
    | (go_at_call 18; (with_reducible refine (H1.out gf A5 c5 _ HF.out).mono ?_); intro e6 w6 hq; unfold IsCopy at hq; obtain ⟨g1, rfl, hg1, hge, hb6⟩ := hq; have HC1 := Aside0.mk hg1; have HF6 := Aside0.mk (HF.out.below hb6); have HG1 : Aside0 (g1 ≠ g8) := ⟨by have := blk_lt HG85.out; omega⟩; have HB6 := Aside0.mk (below_step HB5.out hb6); have HW := Aside0.mk ((hb6.block g8 (blk_lt HG85.out)).trans HG85.out); clear hg1 hge hb6)
    | fail)
  obtain ⟨q0, q1, q2, q3, f0, f1, f2, f3⟩ := (res_facts HW.out (Below.refl _ _)).2
  have HN : Aside0 (∀ W, Below w6.heap.size w6 W → Calls Tryd.prog 19 #[.pointer (some ⟨gf, 0, none⟩)] W fun e w' => e = .returned (.int .u32 n) ∧ w' = W) := ⟨fun W hb => N_calls gf n p f A5 c5 D W (HF6.out.below hb)⟩
  have HP : Aside0 (∀ W, Below w6.heap.size w6 W → Calls Tryd.prog 20 #[.pointer (some ⟨gf, 0, none⟩)] W fun e w' => e = .returned (.int .u8 p) ∧ w' = W) := ⟨fun W hb => P_calls gf n p f A5 c5 D W (HF6.out.below hb)⟩
  have HBW : Aside0 (Below w.heap.size w w6.drew) := ⟨below_drew HB6.out⟩
  go_region_with (first
    | (go_at_call 19; refine (HN.out _ (by repeat (first | (with_reducible exact Below.refl _ _) | apply below_drew1 | apply pw_below_drewN))).mono ?_; rintro e5 w5 ⟨rfl, rfl⟩)
    | (go_at_call 20; refine (HP.out _ (by repeat (first | (with_reducible exact Below.refl _ _) | apply below_drew1 | apply pw_below_drewN))).mono ?_; rintro e5 w5 ⟨rfl, rfl⟩))
  all_goals
    obtain ⟨r0, r1, r2, r3⟩ := res_cells_drew HW.out (.int .u32 n) (.int .u8 p) (.int .u64 m) (.slice (some ⟨g1, 0, none⟩) D.length D.length)
    go_wp2
    refine bodyPost_ret (v := .tuple #[.agg #[.int .u32 n, .int .u8 p, .int .u64 m, .slice (some ⟨g1, 0, none⟩) D.length D.length], .bool true]) (by simp [results, Tryd.results9, go_sem, r0, r1, r2, r3]) rfl ⟨_, _, rfl, Nat.le_refl _, ?_, ?_⟩
    · exact C_by8 (far_blk HC1.out HG1.out _ _ _ _) (by have := HDL.out; omega)
    · exact ((((HBW.out).setCell HG8E.out _).setCell HG8E.out _).setCell HG8E.out _).setCell HG8E.out _
end Go.Proofs.YtfhkkojdaejnjaaDoor.Gcs
namespace Go.Proofs.YtfhkkojdaejnjaaDoor.Gcs
open Go.RowKit Go.Proofs.YtfhkkojdaejnjaaDoor.Hand Go.Proofs.YtfhkkojdaejnjaaDoor.Buf Go.Proofs.YtfhkkojdaejnjaaDoor.PFnForms Go.Proofs.YtfhkkojdaejnjaaDoorW.PrintWords Go.Proofs.YtfhkkojdaejnjaaDoorW.PrintLast Go.Proofs.YtfhkkojdaejnjaaDoorW.PrintMore

def IsHas (w : World) (e : Ending) (w' : World) : Prop := e = .returned (.tuple #[.bool true, .int .i64 0]) ∧ Below w.heap.size w w'
set_option maxRecDepth 100000 in
set_option maxHeartbeats 16000000 in
theorem has_calls (how : Nat) (ad : Addr) (p n : Nat) (m md : Int) (A : Option Addr) (c : Nat) (S ks : List Int) (A2 : Option Addr) (na c2 : Nat) (asked : List (List Int)) (w : World) (i0 j0 : Nat) (hhow : how < 4) (h0 : how = 0 → na = 1)
    (hCD : Kd.C (Kd.int .u8) w A (datS p S n).length (datS p S n)) (hcD : (datS p S n).length ≤ c) (hlen : S.length = n) (hsrt : Srt S) (hrng : ∀ x ∈ S, 0 ≤ x ∧ x < md) (hn20 : n ≤ 20) (hp : p ≤ 24) (hmd : IntKind.u64.wrap ((n : Int) * m) = md) (hmd2 : md ≤ 5368709120) (hdl : (datS p S n).length ≤ 2000) (hcd : impl_coded.f (p : Int) m = some true)
    (hE : Eof w ad) (hk : ks.length = 16) (hkb : Bytes ks)
    (hC : Kd.C (Kd.slice 5 (Kd.int .u8)) w A2 na asked) (hna : asked.length = na) (hna20 : na ≤ 20) (h60 : ∀ x ∈ asked, x.length ≤ 60 ∧ Bytes x) (hi : i0 < n) (hj : j0 < na) (ht : S.getD i0 0 = valI ks md (asked.getD j0 [])) :
    Calls Tryd.prog 12 #[.int .i64 how, .agg #[.int .u32 n, .int .u8 p, .int .u64 m, .slice A (datS p S n).length c], .agg (ks.map (Value.int .u8)).toArray, .slice A2 na c2] w (IsHas w) := by
  have HFT : Aside0 (∀ W, Below w.heap.size w W → Calls Tryd.prog 16 #[.slice A2 na c2] W fun e w' => e = .returned (.bool true) ∧ w' = W) := ⟨fun W hb => fits_calls A2 na c2 asked W (Kd.C_below hC hb) hna (by omega) (fun x hx => Nat.le_trans (h60 x hx).1 (by decide))⟩
  have HST : Aside0 (∀ W, Below w.heap.size w W → Calls Tryd.prog 23 #[.agg #[.int .u32 n, .int .u8 p, .int .u64 m, .slice A (datS p S n).length c]] W (IsSet W n p md (datS p S n))) := ⟨fun W hb => set_calls p m md n A c (datS p S n) W (Kd.C_below hCD hb) hcD (by omega) (by omega) (by omega) hcd hmd hdl⟩
  have HCF : Aside0 (∀ W g A1 c1, Flt W g n p md A1 c1 (datS p S n) → CF W g p n md A1 c1 S) := ⟨fun W g A1 c1 h => ⟨h, hlen, hsrt, hrng, hn20, hp, hmd2, hdl⟩⟩
  obtain ⟨D, hD⟩ : ∃ D, D = datS p S n := ⟨_, rfl⟩
  obtain ⟨L, hL⟩ : ∃ L, L = (datS p S n).length := ⟨_, rfl⟩
  rw [← hL] at HST hcD hdl ⊢
  obtain ⟨X, hX⟩ : ∃ X, X = (ks.map (Value.int .u8)).toArray := ⟨_, rfl⟩
  have HXS : Aside0 ((Tryd.prog.info? 23).map (·.size) = some X.size) := ⟨by rw [hX]; simp only [List.size_toArray, List.length_map, hk]; kernel_rfl⟩
  have HMT : Aside0 (how = 0 → ∀ W g A1 c1 A0 c0, Below w.heap.size w W → Flt W g n p md A1 c1 (datS p S n) → Kd.C (Kd.int .u8) W A0 (asked.getD 0 []).length (asked.getD 0 []) → (asked.getD 0 []).length ≤ c0 → Calls Tryd.prog 24 #[.pointer (some ⟨g, 0, none⟩), .agg X, .slice A0 (asked.getD 0 []).length c0] W (IsYes W)) := ⟨fun e W g A1 c1 A0 c0 hb hF hC0 hc0 => by
    have hj0 : j0 = 0 := by have := h0 e; omega
    have hmem : asked.getD 0 [] ∈ asked := by rw [List.getD_eq_getElem?_getD, List.getElem?_eq_getElem (by omega)]; exact List.getElem_mem _
    rw [hX]
    exact match_calls ad g p n md A1 c1 S ks (asked.getD 0 []) A0 c0 W i0 (HCF.out W g A1 c1 hF) (hE.below hb) hk hkb hC0 hc0 (Nat.le_trans (h60 _ hmem).1 (by decide)) (h60 _ hmem).2 hi (by rw [ht, hj0])⟩
  have HZP : Aside0 (∀ W g A1 c1, Below w.heap.size w W → Flt W g n p md A1 c1 (datS p S n) → Calls Tryd.prog 25 #[.pointer (some ⟨g, 0, none⟩), .agg X, .slice A2 na c2] W (IsYes W)) := ⟨fun W g A1 c1 hb hF => by rw [hX]; exact zip_calls ad g p n md A1 c1 S ks A2 na c2 asked W i0 j0 (HCF.out W g A1 c1 hF) (hE.below hb) hk hkb (Kd.C_below hC hb) hna hna20 h60 hi hj ht⟩
  have HHS : Aside0 (∀ W g A1 c1, Below w.heap.size w W → Flt W g n p md A1 c1 (datS p S n) → Calls Tryd.prog 26 #[.pointer (some ⟨g, 0, none⟩), .agg X, .slice A2 na c2] W (IsYes W)) := ⟨fun W g A1 c1 hb hF => by rw [hX]; exact hash_calls ad g p n md A1 c1 S ks A2 na c2 asked W i0 j0 (HCF.out W g A1 c1 hF) (hE.below hb) hk hkb (Kd.C_below hC hb) hna hna20 h60 hi hj ht⟩
  have HAN : Aside0 (∀ W g A1 c1, Below w.heap.size w W → Flt W g n p md A1 c1 (datS p S n) → Calls Tryd.prog 27 #[.pointer (some ⟨g, 0, none⟩), .agg X, .slice A2 na c2] W (IsYes W)) := ⟨fun W g A1 c1 hb hF => by rw [hX]; exact any_calls ad g p n md A1 c1 S ks A2 na c2 asked W i0 j0 (HCF.out W g A1 c1 hF) (hE.below hb) hk hkb (Kd.C_below hC hb) hna hna20 h60 hi hj ht⟩
  have HIT : Aside0 (∀ W, Below w.heap.size w W → ∃ ad A0 c0, A2 = some ad ∧ W.cell? ad = some (.slice A0 (asked.getD 0 []).length c0) ∧ (asked.getD 0 []).length ≤ c0 ∧ Kd.C (Kd.int .u8) W A0 (asked.getD 0 []).length (asked.getD 0 [])) := ⟨fun W hb => by
    obtain ⟨ad1, A0, c0, e1, kd, hc0, hC0⟩ := at_L1 (Kd.C_below hC hb) 0 (by omega) (by omega)
    have e2 : rd_L1 asked 0 = asked.getD 0 [] := rfl
    rw [e2] at kd hc0 hC0
    refine ⟨ad1, A0, c0, e1, ?_, hc0, hC0⟩
    have e3 : ad1.add (0 : Int).toNat = ad1 := by obtain ⟨b, o, s⟩ := ad1; cases s <;> rfl
    rwa [e3] at kd⟩
  rw [← hX]
  have HB := Aside0.mk (Below.refl w.heap.size w)
  have H0 := Aside0.mk h0
  clear hX hD hL hk hkb hC hna h60 hlen hsrt hrng hcd hE ht hCD hcD hdl HCF h0 hmd
  have hh : how = 0 ∨ how = 1 ∨ how = 2 ∨ how = 3 := by omega
  rcases hh with rfl | rfl | rfl | rfl
  · obtain rfl : na = 1 := H0.out rfl
    go_enter Tryd.func12, Tryd.ntmps12
    go_wp2_with (first
      | ((with_reducible refine gate_dst (N := 5) rfl ?_); refine box_event ?hg (N := 5) ?hd (cs := #[.int .u32 n, .int .u8 p, .int .u64 m, .slice A L c]) (t := 31) ?hr ?_; (case hd => rfl); (case hg => rfl); (case hr => first | (go_simp; done) | (go_simp; rfl)); intro g5 hg w1 hbox hb1; have HG5 := Aside0.mk hbox; have HB1 := Aside0.mk (below_step HB.out hb1); clear hg hbox hb1)
      | ((with_reducible refine gate_dst (N := 6) rfl ?_); refine box_event ?hg (N := 6) ?hd (cs := X) (t := 23) ?hr ?_; (case hd => rfl); (case hg => rfl); (case hr => first | (go_simp; done) | (go_simp; rfl)); intro gk hg w2 hbox hb2; have HKB := Aside0.mk hbox; have HB2 := Aside0.mk (below_step HB1.out hb2); have HG52 := Aside0.mk ((hb2.block g5 (blk_lt HG5.out)).trans HG5.out); have k0 := (cell_of_blk HG52.out (i := 0) rfl).1; have k1 := (cell_of_blk HG52.out (i := 1) rfl).1; have k2 := (cell_of_blk HG52.out (i := 2) rfl).1; have k3 := (cell_of_blk HG52.out (i := 3) rfl).1; clear hg hbox hb2)
      | (go_at_call 23; (with_reducible refine (HST.out _ HB2.out).mono ?_); intro e3 w3 hq; unfold IsSet at hq; obtain ⟨gf, A3, c3, rfl, hF, _, hb3⟩ := hq; have HF := Aside0.mk hF; have HB3 := Aside0.mk (below_step HB2.out hb3); have HK3 := Aside0.mk ((hb3.block gk (blk_lt HKB.out)).trans HKB.out); clear hF hb3 k0 k1 k2 k3)
      | (go_at_call 16; (with_reducible refine (HFT.out _ HB3.out).mono ?_); rintro e4 w4 ⟨rfl, hw4⟩; obtain rfl : w4 = w3 := hw4)
      | fail)
    obtain ⟨ad2, A0, c0, rfl, kd, hc0, hC0⟩ := HIT.out w4 HB3.out
    have HMC : Aside0 (∀ W, Below w4.heap.size w4 W → Calls Tryd.prog 24 #[.pointer (some ⟨gf, 0, none⟩), .agg X, .slice A0 (asked.getD 0 []).length c0] W (IsYes W)) := ⟨fun W hb => HMT.out (by first | rfl | trivial) W gf A3 c3 A0 c0 (below_step HB3.out hb) (HF.out.below hb) (Kd.C_below hC0 hb) hc0⟩
    have hld : (Instr.loadAt 23 (.pointer (some ⟨gk, 0, none⟩))).run Tryd.prog w4.drew = .ok (.agg X) w4.drew := by
      simp only [Instr.loadAt, Instr.sureAddr, Sem.run_bind, Sem.run_pure, Result.andThen_ok, run_loadVar_row w4.drew gk 23 23 X (0, 0) _ HK3.out Tryd.underlying23 rfl HXS.out]
    simp [go_sem] at hld
    have kd1 : w4.drew.cell? ad2 = some (.slice A0 (asked.getD 0 []).length c0) := kd
    have kd2 : w4.drew.cell? (ad2.add 0) = some (.slice A0 (asked.getD 0 []).length c0) := by
      have e3 : ad2.add 0 = ad2 := by obtain ⟨b, o, s⟩ := ad2; cases s <;> rfl
      rw [e3]; exact kd
    have HBD := Aside0.mk (below_drew HB3.out)
    have HBD2 := Aside0.mk (below_drew (Below.refl w4.heap.size w4))
    clear hC0 hc0 HMT
    generalize (asked.getD 0 []).length = l0 at kd kd1 kd2 HMC
    go_region_with (go_at_call 24; (with_reducible refine (HMC.out _ HBD2.out).mono ?_); intro e5 w5 hq; unfold IsYes at hq; obtain ⟨rfl, hb5⟩ := hq; have HB5 := Aside0.mk (below_step HBD.out hb5); clear hb5)
    all_goals
      go_wp2_with fail
      exact bodyPost_ret (results_tmp2 rfl _ _ _) rfl ⟨rfl, HB5.out⟩
  · go_enter Tryd.func12, Tryd.ntmps12
    go_wp2_with (first
      | ((with_reducible refine gate_dst (N := 5) rfl ?_); refine box_event ?hg (N := 5) ?hd (cs := #[.int .u32 n, .int .u8 p, .int .u64 m, .slice A L c]) (t := 31) ?hr ?_; (case hd => rfl); (case hg => rfl); (case hr => first | (go_simp; done) | (go_simp; rfl)); intro g5 hg w1 hbox hb1; have HG5 := Aside0.mk hbox; have HB1 := Aside0.mk (below_step HB.out hb1); clear hg hbox hb1)
      | ((with_reducible refine gate_dst (N := 6) rfl ?_); refine box_event ?hg (N := 6) ?hd (cs := X) (t := 23) ?hr ?_; (case hd => rfl); (case hg => rfl); (case hr => first | (go_simp; done) | (go_simp; rfl)); intro gk hg w2 hbox hb2; have HKB := Aside0.mk hbox; have HB2 := Aside0.mk (below_step HB1.out hb2); have HG52 := Aside0.mk ((hb2.block g5 (blk_lt HG5.out)).trans HG5.out); have k0 := (cell_of_blk HG52.out (i := 0) rfl).1; have k1 := (cell_of_blk HG52.out (i := 1) rfl).1; have k2 := (cell_of_blk HG52.out (i := 2) rfl).1; have k3 := (cell_of_blk HG52.out (i := 3) rfl).1; clear hg hbox hb2)
      | (go_at_call 23; (with_reducible refine (HST.out _ HB2.out).mono ?_); intro e3 w3 hq; unfold IsSet at hq; obtain ⟨gf, A3, c3, rfl, hF, _, hb3⟩ := hq; have HF := Aside0.mk hF; have HB3 := Aside0.mk (below_step HB2.out hb3); have HK3 := Aside0.mk ((hb3.block gk (blk_lt HKB.out)).trans HKB.out); clear hF hb3 k0 k1 k2 k3)
      | (go_at_call 16; (with_reducible refine (HFT.out _ HB3.out).mono ?_); rintro e4 w4 ⟨rfl, hw4⟩; obtain rfl : w4 = w3 := hw4)
      | ((with_reducible show wpList _ _ _ _ _ _); (with_reducible refine wpList_load_row (o := ⟨some 55, _, _, _, _, _⟩) rfl 23 (.tmp 6) rfl gk rfl 23 X (0, 0) _ HK3.out Tryd.underlying23 rfl HXS.out ?_))
      | (go_at_call 25; (with_reducible refine (HZP.out _ gf A3 c3 HB3.out HF.out).mono ?_); intro e5 w5 hq; unfold IsYes at hq; obtain ⟨rfl, hb5⟩ := hq; have HB5 := Aside0.mk (below_step HB3.out hb5); clear hb5)
      | fail)
    exact bodyPost_ret (results_tmp2 rfl _ _ _) rfl ⟨rfl, HB5.out⟩
  · go_enter Tryd.func12, Tryd.ntmps12
    go_wp2_with (first
      | ((with_reducible refine gate_dst (N := 5) rfl ?_); refine box_event ?hg (N := 5) ?hd (cs := #[.int .u32 n, .int .u8 p, .int .u64 m, .slice A L c]) (t := 31) ?hr ?_; (case hd => rfl); (case hg => rfl); (case hr => first | (go_simp; done) | (go_simp; rfl)); intro g5 hg w1 hbox hb1; have HG5 := Aside0.mk hbox; have HB1 := Aside0.mk (below_step HB.out hb1); clear hg hbox hb1)
      | ((with_reducible refine gate_dst (N := 6) rfl ?_); refine box_event ?hg (N := 6) ?hd (cs := X) (t := 23) ?hr ?_; (case hd => rfl); (case hg => rfl); (case hr => first | (go_simp; done) | (go_simp; rfl)); intro gk hg w2 hbox hb2; have HKB := Aside0.mk hbox; have HB2 := Aside0.mk (below_step HB1.out hb2); have HG52 := Aside0.mk ((hb2.block g5 (blk_lt HG5.out)).trans HG5.out); have k0 := (cell_of_blk HG52.out (i := 0) rfl).1; have k1 := (cell_of_blk HG52.out (i := 1) rfl).1; have k2 := (cell_of_blk HG52.out (i := 2) rfl).1; have k3 := (cell_of_blk HG52.out (i := 3) rfl).1; clear hg hbox hb2)
      | (go_at_call 23; (with_reducible refine (HST.out _ HB2.out).mono ?_); intro e3 w3 hq; unfold IsSet at hq; obtain ⟨gf, A3, c3, rfl, hF, _, hb3⟩ := hq; have HF := Aside0.mk hF; have HB3 := Aside0.mk (below_step HB2.out hb3); have HK3 := Aside0.mk ((hb3.block gk (blk_lt HKB.out)).trans HKB.out); clear hF hb3 k0 k1 k2 k3)
      | (go_at_call 16; (with_reducible refine (HFT.out _ HB3.out).mono ?_); rintro e4 w4 ⟨rfl, hw4⟩; obtain rfl : w4 = w3 := hw4)
      | ((with_reducible show wpList _ _ _ _ _ _); (with_reducible refine wpList_load_row (o := ⟨some 64, _, _, _, _, _⟩) rfl 23 (.tmp 6) rfl gk rfl 23 X (0, 0) _ HK3.out Tryd.underlying23 rfl HXS.out ?_))
      | (go_at_call 26; (with_reducible refine (HHS.out _ gf A3 c3 HB3.out HF.out).mono ?_); intro e5 w5 hq; unfold IsYes at hq; obtain ⟨rfl, hb5⟩ := hq; have HB5 := Aside0.mk (below_step HB3.out hb5); clear hb5)
      | fail)
    exact bodyPost_ret (results_tmp2 rfl _ _ _) rfl ⟨rfl, HB5.out⟩
  · go_enter Tryd.func12, Tryd.ntmps12
    go_wp2_with (first
      | ((with_reducible refine gate_dst (N := 5) rfl ?_); refine box_event ?hg (N := 5) ?hd (cs := #[.int .u32 n, .int .u8 p, .int .u64 m, .slice A L c]) (t := 31) ?hr ?_; (case hd => rfl); (case hg => rfl); (case hr => first | (go_simp; done) | (go_simp; rfl)); intro g5 hg w1 hbox hb1; have HG5 := Aside0.mk hbox; have HB1 := Aside0.mk (below_step HB.out hb1); clear hg hbox hb1)
      | ((with_reducible refine gate_dst (N := 6) rfl ?_); refine box_event ?hg (N := 6) ?hd (cs := X) (t := 23) ?hr ?_; (case hd => rfl); (case hg => rfl); (case hr => first | (go_simp; done) | (go_simp; rfl)); intro gk hg w2 hbox hb2; have HKB := Aside0.mk hbox; have HB2 := Aside0.mk (below_step HB1.out hb2); have HG52 := Aside0.mk ((hb2.block g5 (blk_lt HG5.out)).trans HG5.out); have k0 := (cell_of_blk HG52.out (i := 0) rfl).1; have k1 := (cell_of_blk HG52.out (i := 1) rfl).1; have k2 := (cell_of_blk HG52.out (i := 2) rfl).1; have k3 := (cell_of_blk HG52.out (i := 3) rfl).1; clear hg hbox hb2)
      | (go_at_call 23; (with_reducible refine (HST.out _ HB2.out).mono ?_); intro e3 w3 hq; unfold IsSet at hq; obtain ⟨gf, A3, c3, rfl, hF, _, hb3⟩ := hq; have HF := Aside0.mk hF; have HB3 := Aside0.mk (below_step HB2.out hb3); have HK3 := Aside0.mk ((hb3.block gk (blk_lt HKB.out)).trans HKB.out); clear hF hb3 k0 k1 k2 k3)
      | (go_at_call 16; (with_reducible refine (HFT.out _ HB3.out).mono ?_); rintro e4 w4 ⟨rfl, hw4⟩; obtain rfl : w4 = w3 := hw4)
      | ((with_reducible show wpList _ _ _ _ _ _); (with_reducible refine wpList_load_row (o := ⟨some 73, _, _, _, _, _⟩) rfl 23 (.tmp 6) rfl gk rfl 23 X (0, 0) _ HK3.out Tryd.underlying23 rfl HXS.out ?_))
      | (go_at_call 27; (with_reducible refine (HAN.out _ gf A3 c3 HB3.out HF.out).mono ?_); intro e5 w5 hq; unfold IsYes at hq; obtain ⟨rfl, hb5⟩ := hq; have HB5 := Aside0.mk (below_step HB3.out hb5); clear hb5)
      | fail)
    exact bodyPost_ret (results_tmp2 rfl _ _ _) rfl ⟨rfl, HB5.out⟩
end Go.Proofs.YtfhkkojdaejnjaaDoor.Gcs
namespace Go.Proofs.YtfhkkojdaejnjaaDoor.Gcs
open Go.RowKit Go.Proofs.YtfhkkojdaejnjaaDoor.Hand Go.Proofs.YtfhkkojdaejnjaaDoor.Buf Go.Proofs.YtfhkkojdaejnjaaDoor.PFnForms Go.Proofs.YtfhkkojdaejnjaaDoorW.PrintWords Go.Proofs.YtfhkkojdaejnjaaDoorW.PrintLast Go.Proofs.YtfhkkojdaejnjaaDoorW.PrintMore

/-- The guards, where one of them lets the input pass. -/
theorem built_stop (p m : Int) (X : Array Value) (A : Option Addr) (n c : Nat) (w : World) (b1 b2 b3 : Bool)
    (H1 : ∀ w1, Below w.heap.size w w1 → Calls Tryd.prog 6 #[.slice A n c] w1 fun e w' => e = .returned (.bool b1) ∧ Below w1.heap.size w1 w')
    (H2 : ∀ w1, Below w.heap.size w w1 → Calls Tryd.prog 7 #[.int .u8 p, .int .u64 m] w1 fun e w' => e = .returned (.bool b2) ∧ Below w1.heap.size w1 w')
    (H3 : ∀ w1, Below w.heap.size w w1 → Calls Tryd.prog 8 #[.slice A n c] w1 fun e w' => e = .returned (.bool b3) ∧ Below w1.heap.size w1 w')
    (hstop : ¬ (b1 = true ∧ b2 = true ∧ 1 ≤ n ∧ b3 = true)) :
    Calls Tryd.prog 3 #[.int .u8 p, .int .u64 m, .agg X, .slice A n c] w fun e w' => e = .returned (.bool true) ∧ Below w.heap.size w w' := by
  have HB := Aside0.mk (Below.refl w.heap.size w)
  have H1 := Aside0.mk H1
  have H2 := Aside0.mk H2
  have H3 := Aside0.mk H3
  cases b1
  · clear hstop
    go_enter Tryd.func3, Tryd.ntmps3
    go_wp2_with (first
      | ((with_reducible refine gate_dst (N := 6) rfl ?_); refine box_event ?hg (N := 6) ?hd (cs := X) (t := 23) ?hr ?_; (case hd => rfl); (case hg => rfl); (case hr => first | (go_simp; done) | (go_simp; rfl)); intro gk hg w1 hbox hb1; have HB1 := Aside0.mk (below_step HB.out hb1); clear hg hbox hb1)
      | (go_at_call 6; refine (H1.out _ HB1.out).mono ?_; rintro e2 w2 ⟨rfl, hb2⟩; have HB2 := Aside0.mk (below_step HB1.out hb2); clear hb2)
      | (go_at_call 7; refine (H2.out _ HB2.out).mono ?_; rintro e3 w3 ⟨rfl, hb3⟩; have HB3 := Aside0.mk (below_step HB2.out hb3); clear hb3)
      | (go_at_call 8; refine (H3.out _ HB3.out).mono ?_; rintro e4 w4 ⟨rfl, hb4⟩; have HB4 := Aside0.mk (below_step HB3.out hb4); clear hb4)
      | fail)
    exact bodyPost_ret (results_tmp rfl _ _ _) rfl ⟨rfl, HB2.out⟩
  cases b2
  · clear hstop
    go_enter Tryd.func3, Tryd.ntmps3
    go_wp2_with (first
      | ((with_reducible refine gate_dst (N := 6) rfl ?_); refine box_event ?hg (N := 6) ?hd (cs := X) (t := 23) ?hr ?_; (case hd => rfl); (case hg => rfl); (case hr => first | (go_simp; done) | (go_simp; rfl)); intro gk hg w1 hbox hb1; have HB1 := Aside0.mk (below_step HB.out hb1); clear hg hbox hb1)
      | (go_at_call 6; refine (H1.out _ HB1.out).mono ?_; rintro e2 w2 ⟨rfl, hb2⟩; have HB2 := Aside0.mk (below_step HB1.out hb2); clear hb2)
      | (go_at_call 7; refine (H2.out _ HB2.out).mono ?_; rintro e3 w3 ⟨rfl, hb3⟩; have HB3 := Aside0.mk (below_step HB2.out hb3); clear hb3)
      | (go_at_call 8; refine (H3.out _ HB3.out).mono ?_; rintro e4 w4 ⟨rfl, hb4⟩; have HB4 := Aside0.mk (below_step HB3.out hb4); clear hb4)
      | fail)
    exact bodyPost_ret (results_tmp rfl _ _ _) rfl ⟨rfl, HB3.out⟩
  by_cases hn : n = 0
  · subst hn
    clear hstop
    go_enter Tryd.func3, Tryd.ntmps3
    go_wp2_with (first
      | ((with_reducible refine gate_dst (N := 6) rfl ?_); refine box_event ?hg (N := 6) ?hd (cs := X) (t := 23) ?hr ?_; (case hd => rfl); (case hg => rfl); (case hr => first | (go_simp; done) | (go_simp; rfl)); intro gk hg w1 hbox hb1; have HB1 := Aside0.mk (below_step HB.out hb1); clear hg hbox hb1)
      | (go_at_call 6; refine (H1.out _ HB1.out).mono ?_; rintro e2 w2 ⟨rfl, hb2⟩; have HB2 := Aside0.mk (below_step HB1.out hb2); clear hb2)
      | (go_at_call 7; refine (H2.out _ HB2.out).mono ?_; rintro e3 w3 ⟨rfl, hb3⟩; have HB3 := Aside0.mk (below_step HB2.out hb3); clear hb3)
      | (go_at_call 8; refine (H3.out _ HB3.out).mono ?_; rintro e4 w4 ⟨rfl, hb4⟩; have HB4 := Aside0.mk (below_step HB3.out hb4); clear hb4)
      | fail)
    exact bodyPost_ret (results_tmp rfl _ _ _) rfl ⟨rfl, HB3.out⟩
  cases b3
  · have hn1 : ¬ (n : Int) < 1 := by omega
    clear hstop
    go_enter Tryd.func3, Tryd.ntmps3
    go_wp2_with (first
      | ((with_reducible refine gate_dst (N := 6) rfl ?_); refine box_event ?hg (N := 6) ?hd (cs := X) (t := 23) ?hr ?_; (case hd => rfl); (case hg => rfl); (case hr => first | (go_simp; done) | (go_simp; rfl)); intro gk hg w1 hbox hb1; have HB1 := Aside0.mk (below_step HB.out hb1); clear hg hbox hb1)
      | (go_at_call 6; refine (H1.out _ HB1.out).mono ?_; rintro e2 w2 ⟨rfl, hb2⟩; have HB2 := Aside0.mk (below_step HB1.out hb2); clear hb2)
      | (go_at_call 7; refine (H2.out _ HB2.out).mono ?_; rintro e3 w3 ⟨rfl, hb3⟩; have HB3 := Aside0.mk (below_step HB2.out hb3); clear hb3)
      | (go_at_call 8; refine (H3.out _ HB3.out).mono ?_; rintro e4 w4 ⟨rfl, hb4⟩; have HB4 := Aside0.mk (below_step HB3.out hb4); clear hb4)
      | fail)
    exact bodyPost_ret (results_tmp rfl _ _ _) rfl ⟨rfl, HB4.out⟩
  exact absurd ⟨rfl, rfl, Nat.pos_of_ne_zero hn, rfl⟩ hstop
end Go.Proofs.YtfhkkojdaejnjaaDoor.Gcs
