/-
  Filter.ZipMatchAny finds one of the asked if one was built in.
  Filter.HashMatchAny finds one of the asked if one was built in.
  Filter.HashMatchAny, walked.
  Filter.MatchAny takes one road or the other.
-/
import Derived.Test.YtfhkkojdaejnjaaDoorJQ
import Derived.Test.YtfhkkojdaejnjaaDoorJM
import Derived.Maps.OwnSet
import Derived.Maps.OwnOps
import Derived.LaidEql
set_option linter.unusedVariables false
namespace Go.Proofs.YtfhkkojdaejnjaaDoor.Gcs
open Go.RowKit Go.Proofs.YtfhkkojdaejnjaaDoor.Hand Go.Proofs.YtfhkkojdaejnjaaDoor.Buf Go.Proofs.YtfhkkojdaejnjaaDoor.PFnForms Go.Proofs.YtfhkkojdaejnjaaDoorW.PrintWords Go.Proofs.YtfhkkojdaejnjaaDoorW.PrintLast Go.Proofs.YtfhkkojdaejnjaaDoorW.PrintMore

/-- What the roads that ask for any answer. -/
def IsYes (w : World) (e : Ending) (w' : World) : Prop := e = .returned (.tuple #[.bool true, .nilIface]) ∧ Below w.heap.size w w'
theorem srt_le {S : List Int} (h : Srt S) (i j : Nat) (hij : i ≤ j) (hj : j < S.length) : S.getD i 0 ≤ S.getD j 0 := by
  rw [getD_mem (by omega), getD_mem (by omega)]
  by_cases e : i = j
  · subst e; exact Int.le_refl _
  · exact List.pairwise_iff_getElem.1 h i j (by omega) (by omega) (by omega)
theorem srtI_has (l : List Int) (t : Int) (h : t ∈ l) : ∃ j, j < l.length ∧ (srtI l).getD j 0 = t := by
  obtain ⟨j, hj, e⟩ := List.getElem_of_mem ((srtI_perm l).mem_iff.2 h)
  exact ⟨j, by rw [← srtI_length]; exact hj, by rw [getD_mem hj]; exact e⟩
theorem below_lower {B B' : Nat} {w w' : World} (h : Below B w w') (hb : B' ≤ B) : Below B' w w' := ⟨h.os, h.tape, h.output, h.size, fun k hk => h.block k (Nat.lt_of_lt_of_le hk hb)⟩

set_option maxRecDepth 100000 in
set_option maxHeartbeats 16000000 in
theorem zip_calls (ad : Addr) (f p n : Nat) (md : Int) (A : Option Addr) (c : Nat) (S ks : List Int) (A2 : Option Addr) (na c2 : Nat) (asked : List (List Int)) (w : World) (i0 j0 : Nat) (hF : CF w f p n md A c S) (hE : Eof w ad) (hk : ks.length = 16) (hkb : Bytes ks)
    (hC : Kd.C (Kd.slice 5 (Kd.int .u8)) w A2 na asked) (hna : asked.length = na) (hn20 : na ≤ 20) (h60 : ∀ x ∈ asked, x.length ≤ 60 ∧ Bytes x) (hi : i0 < n) (hj : j0 < na) (ht : S.getD i0 0 = valI ks md (asked.getD j0 [])) :
    Calls Tryd.prog 25 #[.pointer (some ⟨f, 0, none⟩), .agg (ks.map (Value.int .u8)).toArray, .slice A2 na c2] w (IsYes w) := by
  obtain ⟨X, hX⟩ : ∃ X, X = (ks.map (Value.int .u8)).toArray := ⟨_, rfl⟩
  rw [← hX]
  have HX := Aside0.mk hX
  have HF := Aside0.mk hF
  have HE := Aside0.mk hE
  have HC := Aside0.mk hC
  have HNA := Aside0.mk hna
  have H60 := Aside0.mk h60
  have HK := Aside0.mk hk
  have HKY := Aside0.mk hkb
  have hnn := hF.hn
  have hmd := hF.hm
  have hmd0 : 0 ≤ md := by have := hF.val i0 hi; omega
  obtain ⟨j1, hj1, hjt⟩ := srtI_has (asked.map (valI ks md)) (S.getD i0 0) (by rw [ht]; exact List.mem_map_of_mem (by rw [List.getD_eq_getElem?_getD, List.getElem?_eq_getElem (by omega)]; exact List.getElem_mem _))
  rw [List.length_map, hna] at hj1
  have HJT := Aside0.mk hjt
  have HSQ := Aside0.mk (srtI_srt (asked.map (valI ks md)))
  have HLQ : Aside0 ((srtI (asked.map (valI ks md))).length = na) := ⟨by rw [srtI_length, List.length_map, hna]⟩
  obtain ⟨i9, hi9, hz0, hz1, hz2⟩ := info_parts info22
  have HII := Aside0.mk (And.intro hi9 (And.intro hz0 (And.intro hz1 hz2)))
  obtain ⟨D, hD⟩ : ∃ D, D = datS p S n := ⟨_, rfl⟩
  have HD := Aside0.mk hD
  have HBY := Aside0.mk (bytes_calls f n p md A c (datS p S n))
  rw [← hD] at HBY
  obtain ⟨L, hL⟩ : ∃ L, L = D.length := ⟨_, rfl⟩
  have HL := Aside0.mk hL
  have HFA : Aside0 (∀ (s : Int) (W : World), 0 ≤ s → s < 18446744073709551616 → Calls Tryd.prog 35 #[.int .u64 s, .int .u64 (md / 4294967296), .int .u64 (md % 4294967296)] W fun e w' => e = .returned (.int .u64 (s * md / 18446744073709551616)) ∧ w' = W) := ⟨fun s W h0 h1 => fast_calls s md W h0 h1 (by omega) (by omega)⟩
  have HB := Aside0.mk (Below.refl w.heap.size w)
  have hna0 : ((na : Int) == 0) = false := by simp; omega
  clear hX hF hE hC hna h60 ht hjt hk hkb hD hL hi9 hz0 hz1 hz2
  go_enter Tryd.func25, Tryd.ntmps25
  go_wp2_with (first
    | ((with_reducible refine gate_dst (N := 4) rfl ?_); refine box_event ?hg (N := 4) ?hd (cs := X) (t := 23) ?hr ?_; (case hd => rfl); (case hg => rfl); (case hr => first | (go_simp; done) | (go_simp; rfl)); intro gk hg w1 hbox hb1; have HKB := Aside0.mk hbox; have HB1 := Aside0.mk (below_step HB.out hb1); have HF1 := Aside0.mk (HF.out.below HB1.out); clear hg hbox hb1)
    | fail)
  go_step3
  go_wp2_with (first
    | (go_at_call 18; (with_reducible refine (HBY.out _ (by rw [HD.out]; exact HF1.out.flt) (by have := HF1.out.dlen; rw [HD.out]; omega)).mono ?_); intro e2 w2 hq; unfold IsCopy at hq; obtain ⟨gb, rfl, hby, _, hb2⟩ := hq; rw [← HL.out]; have HC2 := Aside0.mk (C_by8 hby (by have := HF1.out.dlen; rw [HD.out]; omega)); have HB2 := Aside0.mk (below_step HB1.out hb2); have HK2 := Aside0.mk ((hb2.block gk (blk_lt HKB.out)).trans HKB.out); clear hby hb2)
    | (go_at_call 43; (with_reducible refine (show Calls Tryd.prog 43 #[.slice (some ⟨gb, 0, none⟩) L L] w2 (IsRdr w2 (some ⟨gb, 0, none⟩) L D) by rw [HL.out]; exact reader_calls _ _ D w2 HC2.out).mono ?_); intro e3 w3 hq; unfold IsRdr at hq; obtain ⟨rfl, hR3, hb3⟩ := hq; have HR3 := Aside0.mk hR3; have HB3 := Aside0.mk (below_step HB2.out hb3); have HK3 := Aside0.mk ((hb3.block gk (blk_lt HK2.out)).trans HK2.out); clear hR3 hb3)
    | (at_make; refine wpList_make_own _ rfl _ _ 52 rfl w3.heap.size 22 i9 (.int .u64 0) 1 Tryd.underlying52 HII.out.1 HII.out.2.1 HII.out.2.2.1 .i64 .i64 _ na rfl rfl rfl (by rw [HII.out.2.2.2]; omega) (by unfold maxLen; omega) (Nat.le_refl _) ?_; intro w5 hown hgrow; have HV5 := Aside0.mk (Bw.of_own0 hown (Nat.le_refl _)); have hb5 : Below w3.heap.size w3 w5 := (Below.refl _ _).grown hgrow (Nat.le_refl _) (fun _ h => by cases h); have HB5 := Aside0.mk (below_step HB3.out hb5); have HR5 := Aside0.mk (HR3.out.below hb5); have HK5 := Aside0.mk ((hb5.block gk (blk_lt HK3.out)).trans HK3.out); have HKL := Aside0.mk (blk_lt HK3.out); have HRL := Aside0.mk (blk_lt HR3.out.blk); have k2 : w5.cell? ⟨f, 2, none⟩ = some (.int .u64 md) := (HF.out.below HB5.out).flt.cells.2.2.1; clear hown hgrow hb5)
    | fail)
  clear k2
  have HF2 := Aside0.mk (HF.out.below HB2.out)
  have HGR : Aside0 (w.heap.size ≤ w2.heap.size) := ⟨HB2.out.size⟩
  have HG3 := Aside0.mk HB3.out.size
  obtain ⟨gr, hgr⟩ : ∃ gr, gr = w2.heap.size := ⟨_, rfl⟩
  obtain ⟨gv, hgv⟩ : ∃ gv, gv = w3.heap.size := ⟨_, rfl⟩
  rw [← hgr] at HR5 HGR HRL ⊢
  rw [← hgv] at HV5 HKL HRL HG3 ⊢
  have HR50 : Aside0 (RdS w2 w5 gr (some ⟨gb, 0, none⟩) L (datS p S n) (posS p S 0)) := ⟨by rw [← HD.out]; exact HR5.out⟩
  have HV50 : Aside0 (Bw gv w5 (.slice (some ⟨gv, 0, none⟩) 0 na) ((asked.map (valI ks md)).take 0)) := ⟨HV5.out⟩
  have HBV0 := Aside0.mk (Below.refl gv w5)
  clear hgr hgv HR3 HR5 HV5 HB1 HB3 HF1 HC2 HK2 HK3 HKB HBY HII hna0
  go_loopw [11, 52] (fun v11 v52 wr => ∃ k : Nat, v52 = .int .i64 k ∧ k ≤ na ∧ v11 = .slice (some ⟨gv, 0, none⟩) k na ∧ Aside0 (Bw gv wr (.slice (some ⟨gv, 0, none⟩) k na) ((asked.map (valI ks md)).take k)) ∧ Aside0 (Below gv w5 wr)) (fun _ v52 _ => na - (intOf v52).toNat)
  case atStart => exact ⟨0, rfl, Nat.zero_le _, rfl, HV50, HBV0⟩
  case round =>
    obtain ⟨k, rfl, hk, rfl, HBW, HBr⟩ := hrel
    clear HV50 HBV0
    have HWr : Aside0 (Below w.heap.size w wr) := ⟨HB5.out.trans (below_lower HBr.out HG3.out)⟩
    by_cases hkn : k < na
    · obtain ⟨ad2, A0, c0, rfl, kd, hc0, hCb⟩ := at_L1 (Kd.C_below HC.out HWr.out) (k : Int) (by omega) (by omega)
      have hbm : rd_L1 asked (k : Int) ∈ asked := by unfold rd_L1; rw [Int.toNat_natCast, List.getD_eq_getElem?_getD, List.getElem?_eq_getElem (by rw [HNA.out]; exact hkn)]; exact List.getElem_mem _
      have hbl := H60.out _ hbm
      have HTK : Aside0 ((asked.map (valI ks md)).take (k + 1) = (asked.map (valI ks md)).take k ++ [valI ks md (rd_L1 asked (k : Int))]) := ⟨by
        rw [List.take_succ_eq_append_getElem (by rw [List.length_map, HNA.out]; exact hkn), List.getElem_map]
        unfold rd_L1
        rw [Int.toNat_natCast, List.getD_eq_getElem?_getD, List.getElem?_eq_getElem (by rw [HNA.out]; exact hkn)]
        rfl⟩
      have HTL : Aside0 (((asked.map (valI ks md)).take k).length = k) := ⟨by rw [List.length_take, List.length_map, HNA.out]; omega⟩
      clear hbm
      rw [Int.toNat_natCast] at kd
      generalize rd_L1 asked (k : Int) = b at kd hc0 hCb hbl HTK
      generalize (asked.map (valI ks md)).take k = T at HBW HTK HTL
      have hsl := sip_lo ks b
      have HSP : Aside0 (Calls Tryd.prog 34 #[.slice A0 b.length c0, .pointer (some ⟨gk, 0, none⟩)] wr (IsU64 wr (sipP ks b))) := ⟨zzsip_calls ks gk A0 b.length c0 b wr HK.out HKY.out (by
        have h := C_of_block (w := wr) (g := gk) (k := .u8) (xs := ks) (e := 23) (fr := (0, 0)) ((HBr.out.block gk HKL.out).trans (by rw [HK5.out, HX.out])) (by rw [HK.out]; omega)
        rwa [HK.out] at h) hCb rfl hc0 (by omega) hbl.2⟩
      have HSB : Aside0 (sipP ks b * md / 18446744073709551616 = valI ks md b) := ⟨rfl⟩
      clear hCb hbl
      go_wp2_with (first
        | (go_at_call 34; (with_reducible refine HSP.out.mono ?_); intro e2 w6 hq; unfold IsU64 at hq; obtain ⟨rfl, hb2⟩ := hq; have HBW2 := Aside0.mk (HBW.out.below hb2); have HB2x : Aside0 (Below gv w5 w6) := ⟨HBr.out.trans (below_lower hb2 (Nat.le_of_lt HBW.out.lt))⟩; clear hb2)
        | (go_at_call 35; (with_reducible refine (HFA.out (sipP ks b) _ hsl.1 hsl.2).mono ?_); rintro e3 w7 ⟨rfl, hw7⟩; have HW7 := Aside0.mk hw7; have HBW3 : Aside0 (Bw gv w7 (.slice (some ⟨gv, 0, none⟩) k na) T) := ⟨by rw [hw7]; exact HBW2.out⟩; have HB3x : Aside0 (Below gv w5 w7) := ⟨by rw [hw7]; exact HB2x.out⟩; clear hw7; rw [HSB.out])
        | (at_builtin; refine wpList_bw_room (w0 := w7) gv rfl (.tmp 62) (.tmp 64) 52 22 rfl Tryd.underlying52 info22 gv k na T (valI ks md b) rfl rfl HBW3.out HTL.out (Below.refl _ _) (Nat.le_of_lt HBW3.out.lt) (by omega) (by omega) ?_; intro w8 hB8 _ hg8; have HBW8 : Aside0 (Bw gv w8 (.slice (some ⟨gv, 0, none⟩) (k + 1) na) ((asked.map (valI ks md)).take (k + 1))) := ⟨by rw [HTK.out]; exact hB8⟩; have HB8 := Aside0.mk (HB3x.out.grown hg8 (Nat.le_of_lt HBW3.out.lt) (fun j e => by injection e with e; rw [← e]; exact Nat.le_refl _)); clear hB8 hg8)
        | fail)
      go_roundw
      case rel => exact ⟨k + 1, by go_num, by omega, rfl, HBW8, HB8⟩
      case measure => simp [intOf]; omega
    · obtain rfl : k = na := by omega
      rw [List.take_of_length_le (by rw [List.length_map, HNA.out]; exact Nat.le_refl _)] at HBW
      have HML : Aside0 ((asked.map (valI ks md)).length = k) := ⟨by rw [List.length_map, HNA.out]⟩
      go_wp2_with (first
        | (go_at_call 36; (with_reducible refine (sort_calls gv _ _ _ HBW.out (Nat.le_of_lt HBW.out.lt) (by rw [HML.out]; omega)).mono ?_); intro e9 w9 hq; unfold IsSorted at hq; obtain ⟨rfl, hB9, _, hg9⟩ := hq; replace hg9 : World.grownBy _ w9 (some gv) := hg9; have HBW9 := Aside0.mk hB9; have HB9 := Aside0.mk (HBr.out.grown hg9 (Nat.le_of_lt HBW.out.lt) (fun j e => by injection e with e; rw [← e]; exact Nat.le_refl _)); clear hB9 hg9)
        | fail)
      have HR9 : Aside0 (RdS w2 w9 gr (some ⟨gb, 0, none⟩) L (datS p S n) (posS p S 0)) := ⟨⟨HR50.out.hg, (HB9.out.block gr HRL.out).trans HR50.out.blk, HR50.out.C, HR50.out.bel.trans (below_lower HB9.out (Nat.le_of_lt (Nat.lt_of_le_of_lt HR50.out.hg HRL.out)))⟩⟩
      have HW9 : Aside0 (Below w.heap.size w w9) := ⟨HB5.out.trans (below_lower HB9.out HG3.out)⟩
      have HVR : Aside0 (gv ≠ gr) := ⟨Nat.ne_of_gt HRL.out⟩
      have HVL := Aside0.mk HBW9.out.lt
      generalize srtI (asked.map (valI ks md)) = T at HBW9 HJT HSQ HLQ
      have HO9 := Aside0.mk (Onl.refl gr w9)
      clear HBW HBr HWr HML HB9 HR50 HB5 HFA HK5 HKL HC HNA H60
      go_step3
      go_wp2_with fail
      go_loopw [18, 19, 20] (fun v18 v19 v20 wr => ∃ i q : Nat, v18 = .int .u64 (pv S i) ∧ v19 = .int .i64 q ∧ v20 = .int .u32 i ∧ i ≤ i0 ∧ q ≤ j1 ∧ Aside0 (RdS w2 wr gr (some ⟨gb, 0, none⟩) L (datS p S n) (posS p S i)) ∧ Aside0 (Onl gr w9 wr)) (fun _ _ v20 _ => n - (intOf v20).toNat)
      case atStart => exact ⟨0, 0, rfl, rfl, rfl, Nat.zero_le _, Nat.zero_le _, HR9, HO9⟩
      case round =>
        obtain ⟨i, q, rfl, rfl, rfl, hii, hqj, HR, HO⟩ := hrel
        clear HR9 HO9
        have hin : i < n := by omega
        have HNC := Aside0.mk (N_calls f n p md A c (datS p S n) wr (HF.out.below (HO.out.bel _ _ HGR.out HW9.out)).flt)
        have HNX := Aside0.mk (next_calls ad HF2.out gr i hin wr HR.out)
        have HPS : Aside0 (pv S (i + 1) = S.getD i 0) := ⟨by unfold pv; rw [if_neg (by omega)]; rfl⟩
        obtain ⟨hd0, hp0⟩ := HF2.out.dl0 i hin
        obtain ⟨hv0, hv1⟩ := HF2.out.val i hin
        have HLE := Aside0.mk (HF2.out.le i i0 hii hi)
        have hsum : pv S i + dl S i = S.getD i 0 := by rw [pv_next, HPS.out]
        generalize dl S i = d at HNX hd0 hsum
        generalize pv S i = a at hp0 hsum ⊢
        obtain ⟨v, hv⟩ : ∃ v, v = S.getD i 0 := ⟨_, rfl⟩
        rw [← hv] at hv0 hv1 hsum HLE HPS
        have HVE := Aside0.mk hv
        clear hv
        have hw : IntKind.u64.wrap (a + d) = v := by rw [IntKind.wrap_u64, hsum]; omega
        go_wp2_with (first
          | (go_at_call 19; (with_reducible refine HNC.out.mono ?_); rintro e6 w6 ⟨rfl, hw6⟩; have HW6 := Aside0.mk hw6; clear hw6)
          | (go_at_call 44; (with_reducible refine (show Calls Tryd.prog 44 _ w6 _ by rw [HW6.out]; exact HNX.out).mono ?_); intro e7 w7 hq; unfold IsRdA at hq; obtain ⟨rfl, hR7, hO7⟩ := hq; have HR7 := Aside0.mk hR7; have HO7 := Aside0.mk (HO.out.trans hO7); clear hR7 hO7)
          | fail)
        have HCV : Aside0 (∀ q, q < k → w7.cell? ⟨gv, q, none⟩ = some (.int .u64 (T.getD q 0))) := ⟨fun q hq => (cell_of_heap (p := ⟨gv, q, none⟩) (HO7.out.fr.blk gv HVL.out HVR.out)).trans (HBW9.out.at_ q (by rw [HLQ.out]; exact hq)).1⟩
        have HBZ : Aside0 (Below w.heap.size w w7) := ⟨HO7.out.bel _ _ HGR.out HW9.out⟩
        obtain ⟨wz, hwz⟩ : ∃ wz, wz = w7 := ⟨_, rfl⟩
        subst hwz
        go_loopw [19] (fun v19 w' => ∃ q : Nat, v19 = .int .i64 q ∧ q ≤ j1 ∧ w' = wz) (fun v19 _ => k - (intOf v19).toNat)
        case atStart => exact ⟨q, rfl, hqj, rfl⟩
        case round =>
          obtain ⟨q2, rfl, hq2, rfl⟩ := hrel
          have kq := HCV.out q2 (by omega)
          have hqk : ¬ (q2 : Int) = (k : Int) := by omega
          have hx1 := srt_le HSQ.out q2 j1 hq2 (by rw [HLQ.out]; exact hj1)
          have hle := HLE.out
          have hve := HVE.out
          have hjt := HJT.out
          have hxa : T.getD q2 0 > v → i < i0 := fun h => by
            by_cases e : i = i0
            · subst e; omega
            · omega
          have hxb : T.getD q2 0 < v → q2 + 1 ≤ j1 := fun h => by
            by_cases e : q2 = j1
            · subst e; omega
            · omega
          generalize T.getD q2 0 = x at kq hxa hxb
          clear hx1 hle hve hjt
          by_cases hxv : x = v
          · clear hxa hxb
            subst hxv
            go_wp2_with fail
            try rw [Exit.noGoto_ret]
            exact bodyPost_ret (results_tmp2 rfl _ _ _) rfl ⟨rfl, HBZ.out⟩
          · by_cases hgt : x > v
            · have hi1 := hxa hgt
              clear hxa hxb
              go_wp2_with fail
              exact ⟨⟨i + 1, q2, by rw [HPS.out], rfl, by go_num, by omega, hq2, HR7, HO7⟩, by simp [intOf]; omega⟩
            · have hq1 := hxb (by omega)
              clear hxa hxb
              go_wp2_with fail
              exact ⟨⟨q2 + 1, by go_num, hq1, trivial⟩, by simp [intOf]; omega⟩
end Go.Proofs.YtfhkkojdaejnjaaDoor.Gcs
namespace Go.Proofs.YtfhkkojdaejnjaaDoor.Gcs
open Go.Maps Go.RowKit Go.Proofs.YtfhkkojdaejnjaaDoor.Hand Go.Proofs.YtfhkkojdaejnjaaDoor.Buf Go.Proofs.YtfhkkojdaejnjaaDoor.PFnForms Go.Proofs.YtfhkkojdaejnjaaDoorW.PrintWords Go.Proofs.YtfhkkojdaejnjaaDoorW.PrintLast Go.Proofs.YtfhkkojdaejnjaaDoorW.PrintMore

theorem Onl.grown {g : Nat} {w w1 : World} (h : Onl g w w1) : w.grownBy w1 (some g) := by
  have b := h.bel 0 w (Nat.zero_le _) (Below.refl 0 w)
  exact ⟨b.os, b.tape, b.output, b.size, fun k hk hne => h.fr.blk k hk (fun e => hne (by rw [e]))⟩
theorem grown_of_below {w w1 : World} (h : Below w.heap.size w w1) : w.grownBy w1 none := ⟨h.os, h.tape, h.output, h.size, fun k hk _ => h.block k hk⟩
theorem RdS.grown {w0 w w1 : World} {g c n b : Nat} {A : Option Addr} {D : List Int} (h : RdS w0 w g A c D n) (hg : w.grownBy w1 (some b)) (hne : b ≠ g) (hb : w0.heap.size ≤ b) : RdS w0 w1 g A c D n :=
  ⟨h.hg, (hg.block g (blk_lt h.blk) (fun e => hne (by injection e with e; exact e.symm))).trans h.blk, h.C, h.bel.grown hg h.bel.size (fun k e => by injection e with e; omega)⟩
def posR (p : Nat) (S : List Int) (n r : Nat) : Nat := if r ≤ n then posS p S r else posS p S n + (r - n) * (1 + p)
theorem posR_lo {p : Nat} {S : List Int} {n r : Nat} (h : r ≤ n) : posR p S n r = posS p S r := if_pos h
theorem posR_hi {p : Nat} {S : List Int} {n r : Nat} (h : n ≤ r) : posR p S n r = posS p S n + (r - n) * (1 + p) := by
  unfold posR
  by_cases e : r ≤ n
  · obtain rfl : r = n := by omega
    rw [if_pos e, Nat.sub_self, Nat.zero_mul, Nat.add_zero]
  · rw [if_neg e]
theorem numP_zeros (D : List Int) (m : Nat) : ∀ k, (∀ i, i < k → bitAt D (m + i) = 0) → numP D m k = 0
  | 0, _ => rfl
  | k + 1, h => by
    show 2 * numP D m k + bitAt D (m + k) = 0
    rw [numP_zeros D m k (fun i hi => h i (by omega)), h k (by omega)]
    rfl
def pvm (S : List Int) (n r : Nat) : Int := pv S (min r n)
/-- A difference more, or the end. -/
theorem hash_step {w0 : World} (ad : Addr) {f p n c c1 : Nat} {md : Int} {A A1 : Option Addr} {S : List Int} (h : CF w0 f p n md A c S) (hE : Eof w0 ad) (g r : Nat) (hr : posR p S n r ≤ 8 * (datS p S n).length) :
    (r ≤ n + 6 ∧ posR p S n (r + 1) ≤ 8 * (datS p S n).length ∧ 0 ≤ pvm S n r ∧ 0 ≤ pvm S n (r + 1) - pvm S n r ∧ pvm S n (r + 1) < 18446744073709551616 ∧ (r < n → pvm S n (r + 1) = S.getD r 0) ∧
      ∀ W, RdS w0 W g A1 c1 (datS p S n) (posR p S n r) → Calls Tryd.prog 44 #[.pointer (some ⟨f, 0, none⟩), .pointer (some ⟨g, 0, none⟩)] W (IsRdA w0 W g A1 c1 (datS p S n) (posR p S n (r + 1)) (.tuple #[.int .u64 (pvm S n (r + 1) - pvm S n r), .nilIface])))
    ∨ (n ≤ r ∧ ∀ W, RdS w0 W g A1 c1 (datS p S n) (posR p S n r) → Calls Tryd.prog 44 #[.pointer (some ⟨f, 0, none⟩), .pointer (some ⟨g, 0, none⟩)] W (IsEnd W ad g)) := by
  have hm := h.hm
  have hdl := h.dlen
  by_cases hrn : r < n
  · refine .inl ⟨by omega, ?_, ?_, ?_, ?_, fun _ => ?_, fun W hR => ?_⟩
    · rw [posR_lo (by omega)]
      exact Nat.le_trans (bitsB_at p S (r + 1) n (by omega)).1 (datS_len p S n).1
    · unfold pvm; rw [Nat.min_eq_left (by omega)]; exact (h.dl0 r hrn).2
    · unfold pvm
      rw [Nat.min_eq_left (show r ≤ n by omega), Nat.min_eq_left (show r + 1 ≤ n by omega), ← pv_next]
      have := (h.dl0 r hrn).1
      omega
    · unfold pvm
      rw [Nat.min_eq_left (show r + 1 ≤ n by omega)]
      have := (h.val r hrn).2
      show pv S (r + 1) < _
      unfold pv
      rw [if_neg (by omega), Nat.add_sub_cancel]
      omega
    · unfold pvm
      rw [Nat.min_eq_left (show r + 1 ≤ n by omega)]
      unfold pv
      rw [if_neg (by omega), Nat.add_sub_cancel]
    · rw [posR_lo (by omega)] at hR
      have hc := next_calls ad h g r hrn W hR
      rw [posR_lo (by omega)]
      have e : pvm S n (r + 1) - pvm S n r = dl S r := by
        unfold pvm
        rw [Nat.min_eq_left (show r ≤ n by omega), Nat.min_eq_left (show r + 1 ≤ n by omega), ← pv_next]
        omega
      rw [e]
      exact hc
  · have hpad := datS_len p S n
    have hhi := posR_hi (p := p) (S := S) (show n ≤ r by omega)
    have hhi1 := posR_hi (p := p) (S := S) (show n ≤ r + 1 by omega)
    have hst : (r + 1 - n) * (1 + p) = (r - n) * (1 + p) + (1 + p) := by rw [show r + 1 - n = (r - n) + 1 by omega, Nat.succ_mul]
    have hge : r - n ≤ (r - n) * (1 + p) := Nat.le_mul_of_pos_right _ (by omega)
    have hpv : pvm S n (r + 1) = pvm S n r := by unfold pvm; rw [Nat.min_eq_right (by omega), Nat.min_eq_right (by omega)]
    have hpv0 : 0 ≤ pvm S n r ∧ pvm S n r < 18446744073709551616 := by
      unfold pvm
      rw [Nat.min_eq_right (by omega)]
      unfold pv
      by_cases hz : n = 0
      · rw [if_pos hz]; decide
      · rw [if_neg hz]
        have := h.val (n - 1) (by omega)
        omega
    have hbz : ∀ i, bitAt (datS p S n) (posR p S n r + i) = 0 := fun i => datS_pad p S n _ (by rw [hhi]; omega)
    by_cases hfit : posR p S n r + 1 + p ≤ 8 * (datS p S n).length
    · refine .inl ⟨by omega, by rw [hhi1, hst]; omega, hpv0.1, by rw [hpv]; omega, by rw [hpv]; exact hpv0.2, fun h => absurd h hrn, fun W hR => ?_⟩
      have hc := full_calls w0 ad f g A1 c1 (datS p S n) (posR p S n r) 0 p W h.flt.cells.2.1 hR (datS_bytes p S n) (fun i hi => absurd hi (Nat.not_lt_zero _)) (hbz 0) (by omega) h.hp (by omega)
      rw [numP_zeros _ _ _ (fun i _ => by rw [Nat.add_assoc, Nat.add_assoc]; exact hbz _)] at hc
      have e1 : posR p S n r + 0 + 1 + p = posR p S n (r + 1) := by rw [hhi1, hst, hhi]; omega
      have e2 : ((0 : Nat) : Int) * 2 ^ p + 0 = pvm S n (r + 1) - pvm S n r := by rw [hpv]; simp
      rw [e1, e2] at hc
      exact hc
    · exact .inr ⟨by omega, fun W hR => full_eof w0 ad f g A1 c1 (datS p S n) (posR p S n r) p W h.flt.cells.2.1 hR hE (datS_bytes p S n) hr (fun _ => hbz 0) (by omega) h.hp (by omega)⟩

theorem law28 : Keyed Tryd.prog 28 := int_keyed Tryd.underlying28
theorem zero81 (w : World) : (zeroValue 81).run Tryd.prog w = .ok (.agg #[]) w := by kernel_rfl
theorem make80 (n : Int) (w : World) : (Instr.makeMap 80 (some (.int .u32 n))).run Tryd.prog w = .ok (.map (some w.heap.size)) (w.alloc (.map #[] 0)) := by
  simp [go_sem, Instr.makeMap]
abbrev kl32 (x : Int) : Lit := .int .u32 (x % 4294967296)
theorem key32 (x : Int) : keyOf Tryd.prog 28 (.int .u32 (x % 4294967296)) = some (kl32 x) := keyOf_int_mk Tryd.underlying28 (by simp [Lit.wf, IntKind.min, IntKind.max, IntKind.signed, IntKind.bits]; omega)
/-- The map holds the first so many values. -/
structure MpS (w : World) (g n : Nat) (S : List Int) (m : Nat) : Prop where
  ex : ∃ D : DataW Unit, w.ownsMap Tryd.prog 28 unitElem g n D ∧ ∀ j, j < m → Maps.has D (kl32 (S.getD j 0)) = true
theorem MpS.kept {w w1 : World} {g n m : Nat} {S : List Int} {row : Option Nat} (h : MpS w g n S m) (hg : w.grownBy w1 row) (hne : some g ≠ row) : MpS w1 g n S m := by
  obtain ⟨D, h1, h2⟩ := h.ex
  exact ⟨D, h1.kept hg hne, h2⟩
end Go.Proofs.YtfhkkojdaejnjaaDoor.Gcs
namespace Go.Proofs.YtfhkkojdaejnjaaDoor.Gcs
open Go.Maps Go.RowKit Go.Proofs.YtfhkkojdaejnjaaDoor.Hand Go.Proofs.YtfhkkojdaejnjaaDoor.Buf Go.Proofs.YtfhkkojdaejnjaaDoor.PFnForms Go.Proofs.YtfhkkojdaejnjaaDoorW.PrintWords Go.Proofs.YtfhkkojdaejnjaaDoorW.PrintLast Go.Proofs.YtfhkkojdaejnjaaDoorW.PrintMore

theorem eof_eq (ad : Addr) (W : World) : (binOp .eql 45 (eofV ad) (eofV ad)).run Tryd.prog W = .ok (.bool true) W := by
  obtain ⟨i, hi⟩ : ∃ i, Tryd.prog.info? 113 = some i := Option.isSome_iff_exists.1 (by kernel_rfl)
  obtain ⟨j, hj⟩ : ∃ j, Tryd.prog.info? 115 = some j := Option.isSome_iff_exists.1 (by kernel_rfl)
  have hc : (Tryd.prog.info? 113).map (·.comparable) = some true := by kernel_rfl
  rw [hi] at hc
  exact run_eql_iface_ptr_same W ad Tryd.underlying45 Tryd.underlying113 hi (by simpa using hc) hj
theorem has_put_any {H : Type} {D : DataW H} {k k' : Lit} (hD : IsMap D) (hk : WideAt.IsKeyLit k) (d : DataW H) (h : k' = k ∨ Maps.has D k' = true) : Maps.has (D.put k d) k' = true := by
  by_cases e : k' = k
  · rw [e]; exact has_put_same hD hk d
  · rw [has_put_other e]
    rcases h with h | h
    · exact absurd h e
    · exact h

set_option maxRecDepth 100000 in
set_option maxHeartbeats 16000000 in
theorem hash_calls (ad : Addr) (f p n : Nat) (md : Int) (A : Option Addr) (c : Nat) (S ks : List Int) (A2 : Option Addr) (na c2 : Nat) (asked : List (List Int)) (w : World) (i0 j0 : Nat) (hF : CF w f p n md A c S) (hE : Eof w ad) (hk : ks.length = 16) (hkb : Bytes ks)
    (hC : Kd.C (Kd.slice 5 (Kd.int .u8)) w A2 na asked) (hna : asked.length = na) (hn20 : na ≤ 20) (h60 : ∀ x ∈ asked, x.length ≤ 60 ∧ Bytes x) (hi : i0 < n) (hj : j0 < na) (ht : S.getD i0 0 = valI ks md (asked.getD j0 [])) :
    Calls Tryd.prog 26 #[.pointer (some ⟨f, 0, none⟩), .agg (ks.map (Value.int .u8)).toArray, .slice A2 na c2] w (IsYes w) := by
  obtain ⟨X, hX⟩ : ∃ X, X = (ks.map (Value.int .u8)).toArray := ⟨_, rfl⟩
  rw [← hX]
  have HX := Aside0.mk hX
  have HF := Aside0.mk hF
  have HE := Aside0.mk hE
  have HC := Aside0.mk hC
  have HNA := Aside0.mk hna
  have H60 := Aside0.mk h60
  have HK := Aside0.mk hk
  have HKY := Aside0.mk hkb
  have HT := Aside0.mk ht
  have hnn := hF.hn
  have hmd := hF.hm
  have hmd0 : 0 ≤ md := by have := hF.val i0 hi; omega
  obtain ⟨D, hD⟩ : ∃ D, D = datS p S n := ⟨_, rfl⟩
  have HD := Aside0.mk hD
  have HBY := Aside0.mk (bytes_calls f n p md A c (datS p S n))
  rw [← hD] at HBY
  obtain ⟨L, hL⟩ : ∃ L, L = D.length := ⟨_, rfl⟩
  have HL := Aside0.mk hL
  have HFA : Aside0 (∀ (s : Int) (W : World), 0 ≤ s → s < 18446744073709551616 → Calls Tryd.prog 35 #[.int .u64 s, .int .u64 (md / 4294967296), .int .u64 (md % 4294967296)] W fun e w' => e = .returned (.int .u64 (s * md / 18446744073709551616)) ∧ w' = W) := ⟨fun s W h0 h1 => fast_calls s md W h0 h1 (by omega) (by omega)⟩
  have HNC := Aside0.mk (N_calls f n p md A c (datS p S n))
  have HB := Aside0.mk (Below.refl w.heap.size w)
  have hmm := make80
  have heq := eof_eq ad
  have hna0 : ¬ (na : Int) = 0 := by omega
  clear hX hF hE hC hna h60 ht hk hkb hD hL
  go_enter Tryd.func26, Tryd.ntmps26
  go_wp2_with (first
    | ((with_reducible refine gate_dst (N := 4) rfl ?_); refine box_event ?hg (N := 4) ?hd (cs := X) (t := 23) ?hr ?_; (case hd => rfl); (case hg => rfl); (case hr => first | (go_simp; done) | (go_simp; rfl)); intro gy hg w1 hbox hb1; have HKB := Aside0.mk hbox; have HB1 := Aside0.mk (below_step HB.out hb1); have HF1 := Aside0.mk (HF.out.below HB1.out); clear hg hbox hb1)
    | (go_at_call 18; (with_reducible refine (HBY.out _ (by rw [HD.out]; exact HF1.out.flt) (by have := HF1.out.dlen; rw [HD.out]; omega)).mono ?_); intro e2 w2 hq; unfold IsCopy at hq; obtain ⟨gb, rfl, hby, _, hb2⟩ := hq; rw [← HL.out]; have HC2 := Aside0.mk (C_by8 hby (by have := HF1.out.dlen; rw [HD.out]; omega)); have HB2 := Aside0.mk (below_step HB1.out hb2); have HK2 := Aside0.mk ((hb2.block gy (blk_lt HKB.out)).trans HKB.out); clear hby hb2)
    | (go_at_call 43; (with_reducible refine (show Calls Tryd.prog 43 #[.slice (some ⟨gb, 0, none⟩) L L] w2 (IsRdr w2 (some ⟨gb, 0, none⟩) L D) by rw [HL.out]; exact reader_calls _ _ D w2 HC2.out).mono ?_); intro e3 w3 hq; unfold IsRdr at hq; obtain ⟨rfl, hR3, hb3⟩ := hq; have HR3 := Aside0.mk hR3; have HB3 := Aside0.mk (below_step HB2.out hb3); have HK3 := Aside0.mk ((hb3.block gy (blk_lt HK2.out)).trans HK2.out); clear hR3 hb3)
    | (go_at_call 19; (with_reducible refine (HNC.out w3 (HF.out.below HB3.out).flt).mono ?_); rintro e4 w4 ⟨rfl, hw4⟩; obtain rfl : w4 = w3 := hw4)
    | fail)
  have HF2 := Aside0.mk (HF.out.below HB2.out)
  have HE2 := Aside0.mk (HE.out.below HB2.out)
  have hba : Below w4.heap.size w4 (w4.alloc (.map #[] 0)) := (Below.refl _ _).alloc (Nat.le_refl _) _
  have HKM := Aside0.mk ((hba.block gy (blk_lt HK3.out)).trans HK3.out)
  have HRM := Aside0.mk (HR3.out.below hba)
  have HBM := Aside0.mk (below_step HB3.out hba)
  have HM0 : Aside0 (MpS (w4.alloc (.map #[] 0)) w4.heap.size 0 S (min 0 n)) := ⟨⟨.map [], World.ownsMap_made _ _ _ _, fun j hj => by simp at hj⟩⟩
  have HYR : Aside0 (gy < w2.heap.size) := ⟨blk_lt HK2.out⟩
  have HGR : Aside0 (w.heap.size ≤ w2.heap.size) := ⟨HB2.out.size⟩
  have HRG : Aside0 (w2.heap.size < w4.heap.size) := ⟨blk_lt HR3.out.blk⟩
  obtain ⟨gr, hgr⟩ : ∃ gr, gr = w2.heap.size := ⟨_, rfl⟩
  obtain ⟨gm, hgm⟩ : ∃ gm, gm = w4.heap.size := ⟨_, rfl⟩
  rw [← hgr] at HRM HYR HGR HRG ⊢
  rw [← hgm] at HM0 HRG ⊢
  have HSG : Aside0 (w2.heap.size ≤ gm) := ⟨by rw [← hgr]; exact Nat.le_of_lt HRG.out⟩
  have HR0 : Aside0 (RdS w2 (w4.alloc (.map #[] 0)) gr (some ⟨gb, 0, none⟩) L (datS p S n) (posR p S n 0)) := ⟨by rw [posR_lo (Nat.zero_le _), ← HD.out]; exact HRM.out⟩
  have hps0 : posR p S n 0 ≤ 8 * (datS p S n).length := by rw [posR_lo (Nat.zero_le _)]; exact Nat.zero_le _
  clear hgr hgm hba HR3 HRM HB1 HB2 HB3 HF1 HC2 HK2 HK3 HKB HBY hmm hna0 HNC
  generalize w4.alloc (.map #[] 0) = wm at HKM HBM HM0 HR0 ⊢
  have HB0 := Aside0.mk (Below.refl gr wm)
  have HV0 : Aside0 ((0 : Int) = pvm S n 0) := ⟨by unfold pvm pv; rw [Nat.zero_min, if_pos rfl]⟩
  go_loopg [12] (n + 8) (fun kq v12 wr => ∃ r : Nat, r + kq = n + 8 ∧ v12 = .int .u64 (pvm S n r) ∧ posR p S n r ≤ 8 * (datS p S n).length ∧ Aside0 (RdS w2 wr gr (some ⟨gb, 0, none⟩) L (datS p S n) (posR p S n r)) ∧ Aside0 (MpS wr gm r S (min r n)) ∧ Aside0 (Below gr wm wr))
  case atStart => exact ⟨0, by omega, by rw [← HV0.out], hps0, HR0, HM0, HB0⟩
  case round =>
    obtain ⟨r, hrk, rfl, hps, HR, HM, HBr⟩ := hrel
    clear HR0 HM0 HB0 hps0 HV0
    rcases hash_step (A1 := some ⟨gb, 0, none⟩) (c1 := L) ad HF2.out HE2.out gr r hps with ⟨hrn, hps1, ha0, hd0, hb1, hval, hnx⟩ | ⟨hrn, hnx⟩
    · have HNX := Aside0.mk (hnx wr HR.out)
      have HVL := Aside0.mk hval
      obtain ⟨a, ha⟩ : ∃ a, a = pvm S n r := ⟨_, rfl⟩
      obtain ⟨b, hb⟩ : ∃ b, b = pvm S n (r + 1) := ⟨_, rfl⟩
      have HBE := Aside0.mk hb
      rw [← hb] at HNX HVL hd0 hb1
      rw [← ha] at HNX hd0 ha0 ⊢
      have hw : IntKind.u64.wrap (a + (b - a)) = b := by rw [IntKind.wrap_u64]; omega
      have hw2 : a + (b - a) = b := by omega
      clear hnx hval ha hb
      generalize b - a = d at HNX hd0 hw hw2
      go_wp2_with (first
        | (go_at_call 44; (with_reducible refine HNX.out.mono ?_); intro e7 w7 hq; unfold IsRdA at hq; obtain ⟨rfl, hR7, hO7⟩ := hq; have HR7 := Aside0.mk hR7; have HB7 := Aside0.mk (hO7.bel _ _ (Nat.le_refl _) HBr.out); obtain ⟨Dm, hown, hhas⟩ := (HM.out.kept hO7.grown (fun e => by injection e with e; have := HRG.out; omega)).ex; have HOW := Aside0.mk hown; have HHS := Aside0.mk hhas; clear hR7 hO7 hown hhas)
        | (at_mapUpdate; refine wpList_mapUpdate_own _ rfl _ _ _ 80 rfl 28 81 law28 Tryd.underlying80 (unitElem (H := Unit)) gm r Dm rfl HOW.out (by unfold maxLen; omega) _ _ (kl32 b) rfl rfl (key32 b) (.agg []) [] unitElem_mk ?_; intro w8 hown8 hgrow8; have HR8 := Aside0.mk (HR7.out.grown hgrow8 (Nat.ne_of_gt HRG.out) HSG.out); have HB8 := Aside0.mk (HB7.out.grown hgrow8 (Nat.le_trans (Nat.le_of_lt (blk_lt HR7.out.blk)) (Nat.le_refl _)) (fun j e => by injection e with e; rw [← e]; exact Nat.le_of_lt HRG.out)); have HM8 : Aside0 (MpS w8 gm (r + 1) S (min (r + 1) n)) := ⟨⟨Dm.put (kl32 b) (.agg []), hown8, fun j hj => has_put_any HOW.out.isMap (by simp [WideAt.IsKeyLit]) _ (by by_cases e : j = r; (exact .inl (by rw [e, HVL.out (by omega)])); (exact .inr (HHS.out j (by omega))))⟩⟩; clear hown8 hgrow8)
        | fail)
      go_roundg (gk - 1)
      case measure => omega
      case rel => exact ⟨r + 1, by omega, by rw [HBE.out], hps1, HR8, HM8, HB8⟩
    · have HNX := Aside0.mk (hnx wr HR.out)
      clear hnx
      go_wp2_with (first
        | (go_at_call 44; (with_reducible refine HNX.out.mono ?_); intro e7 w7 hq; unfold IsEnd at hq; obtain ⟨rfl, hO7⟩ := hq; have HB7 := Aside0.mk (hO7.bel _ _ (Nat.le_refl _) HBr.out); obtain ⟨Dm, hown, hhas⟩ := (HM.out.kept hO7.grown (fun e => by injection e with e; have := HRG.out; omega)).ex; have HOW := Aside0.mk hown; have HHS := Aside0.mk hhas; have kE : w7.cell? ⟨2, 0, none⟩ = some (eofV ad) := (HE.out.below (HBM.out.trans (below_lower HB7.out HGR.out))).c; have k2 : w7.cell? ⟨f, 2, none⟩ = some (.int .u64 md) := (HF.out.below (HBM.out.trans (below_lower HB7.out HGR.out))).flt.cells.2.2.1; clear hO7 hown hhas)
        | fail)
      clear kE k2 HNX HR HM HBr HF2 HE2 heq
      go_loopw [70] (fun v70 wr => ∃ k : Nat, v70 = .int .i64 k ∧ k ≤ j0 ∧ Aside0 (wr.ownsMap Tryd.prog 28 (unitElem (H := Unit)) gm r Dm) ∧ Aside0 (Below gr wm wr)) (fun v70 _ => na - (intOf v70).toNat)
      case atStart => exact ⟨0, rfl, Nat.zero_le _, HOW, HB7⟩
      case round =>
        obtain ⟨k, rfl, hkj, HOR, HBr⟩ := hrel
        clear HOW HB7
        have hkn : k < na := by omega
        have HWr : Aside0 (Below w.heap.size w wr) := ⟨HBM.out.trans (below_lower HBr.out HGR.out)⟩
        obtain ⟨ad2, A0, c0, rfl, kd, hc0, hCb⟩ := at_L1 (Kd.C_below HC.out HWr.out) (k : Int) (by omega) (by omega)
        have hbm : rd_L1 asked (k : Int) ∈ asked := by unfold rd_L1; rw [Int.toNat_natCast, List.getD_eq_getElem?_getD, List.getElem?_eq_getElem (by rw [HNA.out]; exact hkn)]; exact List.getElem_mem _
        have hbl := H60.out _ hbm
        have HJ : Aside0 (k = j0 → Maps.has Dm (kl32 (valI ks md (rd_L1 asked (k : Int)))) = true) := ⟨fun e => by
          have h1 : rd_L1 asked (k : Int) = asked.getD j0 [] := by unfold rd_L1; rw [Int.toNat_natCast, e]
          rw [h1, ← HT.out]
          exact HHS.out i0 (by omega)⟩
        clear hbm
        rw [Int.toNat_natCast] at kd
        generalize rd_L1 asked (k : Int) = b at kd hc0 hCb hbl HJ
        have hsl := sip_lo ks b
        have HSP : Aside0 (Calls Tryd.prog 34 #[.slice A0 b.length c0, .pointer (some ⟨gy, 0, none⟩)] wr (IsU64 wr (sipP ks b))) := ⟨zzsip_calls ks gy A0 b.length c0 b wr HK.out HKY.out (by
          have h := C_of_block (w := wr) (g := gy) (k := .u8) (xs := ks) (e := 23) (fr := (0, 0)) ((HBr.out.block gy HYR.out).trans (by rw [HKM.out, HX.out])) (by rw [HK.out]; omega)
          rwa [HK.out] at h) hCb rfl hc0 (by omega) hbl.2⟩
        have HSB : Aside0 (sipP ks b * md / 18446744073709551616 = valI ks md b) := ⟨rfl⟩
        have HGS : Aside0 (gr ≤ wr.heap.size) := ⟨Nat.le_trans (Nat.le_of_lt HRG.out) (Nat.le_of_lt HOR.out.lt)⟩
        clear hCb hbl
        obtain ⟨hit, hhit⟩ : ∃ hit, hit = Maps.has Dm (kl32 (valI ks md b)) := ⟨_, rfl⟩
        have HHIT := Aside0.mk hhit
        rw [← hhit] at HJ
        clear hhit
        cases hit
        · have hk1 : k ≠ j0 := fun e => by have := HJ.out e; cases this
          go_wp2_with (first
            | (go_at_call 34; (with_reducible refine HSP.out.mono ?_); intro e2 w8 hq; unfold IsU64 at hq; obtain ⟨rfl, hb2⟩ := hq; have HO8 := Aside0.mk (HOR.out.kept (grown_of_below hb2) (by simp)); have HB8 : Aside0 (Below gr wm w8) := ⟨HBr.out.trans (below_lower hb2 HGS.out)⟩; have HGS8 : Aside0 (gr ≤ w8.heap.size) := ⟨Nat.le_trans HGS.out hb2.size⟩; clear hb2)
            | (go_at_call 35; (with_reducible refine (HFA.out (sipP ks b) _ hsl.1 hsl.2).mono ?_); rintro e3 w9 ⟨rfl, hw9⟩; obtain rfl : w9 = w8 := hw9; rw [HSB.out])
            | (at_lookup; refine wpList_lookup_own_unit _ rfl _ _ 80 rfl 28 81 law28 Tryd.underlying80 (zero81 _) gm r Dm rfl HO8.out _ (kl32 (valI ks md b)) rfl (key32 _) ?_; rw [← HHIT.out])
            | fail)
          exact ⟨⟨k + 1, by go_num, by omega, ⟨HO8.out.alloc _⟩, ⟨HB8.out.alloc HGS8.out _⟩⟩, by simp [intOf]; omega⟩
        · go_wp2_with (first
            | (go_at_call 34; (with_reducible refine HSP.out.mono ?_); intro e2 w8 hq; unfold IsU64 at hq; obtain ⟨rfl, hb2⟩ := hq; have HO8 := Aside0.mk (HOR.out.kept (grown_of_below hb2) (by simp)); have HB8 : Aside0 (Below gr wm w8) := ⟨HBr.out.trans (below_lower hb2 HGS.out)⟩; have HGS8 : Aside0 (gr ≤ w8.heap.size) := ⟨Nat.le_trans HGS.out hb2.size⟩; clear hb2)
            | (go_at_call 35; (with_reducible refine (HFA.out (sipP ks b) _ hsl.1 hsl.2).mono ?_); rintro e3 w9 ⟨rfl, hw9⟩; obtain rfl : w9 = w8 := hw9; rw [HSB.out])
            | (at_lookup; refine wpList_lookup_own_unit _ rfl _ _ 80 rfl 28 81 law28 Tryd.underlying80 (zero81 _) gm r Dm rfl HO8.out _ (kl32 (valI ks md b)) rfl (key32 _) ?_; rw [← HHIT.out])
            | fail)
          exact bodyPost_ret (results_tmp2 rfl _ _ _) rfl ⟨rfl, HBM.out.trans (below_lower (HB8.out.alloc HGS8.out _) HGR.out)⟩
end Go.Proofs.YtfhkkojdaejnjaaDoor.Gcs
namespace Go.Proofs.YtfhkkojdaejnjaaDoor.Gcs
open Go.RowKit Go.Proofs.YtfhkkojdaejnjaaDoor.Hand Go.Proofs.YtfhkkojdaejnjaaDoor.Buf Go.Proofs.YtfhkkojdaejnjaaDoor.PFnForms Go.Proofs.YtfhkkojdaejnjaaDoorW.PrintWords Go.Proofs.YtfhkkojdaejnjaaDoorW.PrintLast Go.Proofs.YtfhkkojdaejnjaaDoorW.PrintMore

set_option maxRecDepth 100000 in
set_option maxHeartbeats 16000000 in
theorem any_calls (ad : Addr) (f p n : Nat) (md : Int) (A : Option Addr) (c : Nat) (S ks : List Int) (A2 : Option Addr) (na c2 : Nat) (asked : List (List Int)) (w : World) (i0 j0 : Nat) (hF : CF w f p n md A c S) (hE : Eof w ad) (hk : ks.length = 16) (hkb : Bytes ks)
    (hC : Kd.C (Kd.slice 5 (Kd.int .u8)) w A2 na asked) (hna : asked.length = na) (hn20 : na ≤ 20) (h60 : ∀ x ∈ asked, x.length ≤ 60 ∧ Bytes x) (hi : i0 < n) (hj : j0 < na) (ht : S.getD i0 0 = valI ks md (asked.getD j0 [])) :
    Calls Tryd.prog 27 #[.pointer (some ⟨f, 0, none⟩), .agg (ks.map (Value.int .u8)).toArray, .slice A2 na c2] w (IsYes w) := by
  obtain ⟨X, hX⟩ : ∃ X, X = (ks.map (Value.int .u8)).toArray := ⟨_, rfl⟩
  rw [← hX]
  have HXS : Aside0 ((Tryd.prog.info? 23).map (·.size) = some X.size) := ⟨by rw [hX]; simp only [List.size_toArray, List.length_map, hk]; kernel_rfl⟩
  have HZ : Aside0 (∀ W, Below w.heap.size w W → Calls Tryd.prog 25 #[.pointer (some ⟨f, 0, none⟩), .agg X, .slice A2 na c2] W (IsYes W)) := ⟨fun W hb => by rw [hX]; exact zip_calls ad f p n md A c S ks A2 na c2 asked W i0 j0 (hF.below hb) (hE.below hb) hk hkb (Kd.C_below hC hb) hna hn20 h60 hi hj ht⟩
  have HH : Aside0 (∀ W, Below w.heap.size w W → Calls Tryd.prog 26 #[.pointer (some ⟨f, 0, none⟩), .agg X, .slice A2 na c2] W (IsYes W)) := ⟨fun W hb => by rw [hX]; exact hash_calls ad f p n md A c S ks A2 na c2 asked W i0 j0 (hF.below hb) (hE.below hb) hk hkb (Kd.C_below hC hb) hna hn20 h60 hi hj ht⟩
  have HN : Aside0 (∀ W, Below w.heap.size w W → Calls Tryd.prog 19 #[.pointer (some ⟨f, 0, none⟩)] W fun e w' => e = .returned (.int .u32 n) ∧ w' = W) := ⟨fun W hb => N_calls f n p md A c _ W (hF.below hb).flt⟩
  have hnn := hF.hn
  have HB := Aside0.mk (Below.refl w.heap.size w)
  obtain ⟨n2, hn2⟩ : ∃ n2, n2 = n / 2 := ⟨_, rfl⟩
  have e2 : (n : Int) / 2 = (n2 : Int) := by omega
  clear hX hF hE hk hkb hC hna h60 ht hn2
  by_cases hge : (n2 : Int) ≤ (na : Int)
  · go_enter Tryd.func27, Tryd.ntmps27
    go_wp2_with (first
      | ((with_reducible refine gate_dst (N := 4) rfl ?_); refine box_event ?hg (N := 4) ?hd (cs := X) (t := 23) ?hr ?_; (case hd => rfl); (case hg => rfl); (case hr => first | (go_simp; done) | (go_simp; rfl)); intro gy hg w1 hbox hb1; have HKB := Aside0.mk hbox; have HB1 := Aside0.mk (below_step HB.out hb1); clear hg hbox hb1)
      | (go_at_call 19; (with_reducible refine (HN.out _ HB1.out).mono ?_); rintro e4 w4 ⟨rfl, hw4⟩; obtain rfl : w4 = w1 := hw4)
      | ((with_reducible show wpList _ _ _ _ _ _); (with_reducible refine wpList_load_row (o := ⟨some 23, _, _, _, _, _⟩) rfl 23 (.tmp 4) rfl gy rfl 23 X (0, 0) _ HKB.out Tryd.underlying23 rfl HXS.out ?_))
      | (go_at_call 26; (with_reducible refine (HH.out _ HB1.out).mono ?_); intro e5 w5 hq; unfold IsYes at hq; obtain ⟨rfl, hb5⟩ := hq; have HB5 := Aside0.mk (below_step HB1.out hb5); clear hb5)
      | fail)
    exact bodyPost_ret (results_tmp2 rfl _ _ _) rfl ⟨rfl, HB5.out⟩
  · go_enter Tryd.func27, Tryd.ntmps27
    go_wp2_with (first
      | ((with_reducible refine gate_dst (N := 4) rfl ?_); refine box_event ?hg (N := 4) ?hd (cs := X) (t := 23) ?hr ?_; (case hd => rfl); (case hg => rfl); (case hr => first | (go_simp; done) | (go_simp; rfl)); intro gy hg w1 hbox hb1; have HKB := Aside0.mk hbox; have HB1 := Aside0.mk (below_step HB.out hb1); clear hg hbox hb1)
      | (go_at_call 19; (with_reducible refine (HN.out _ HB1.out).mono ?_); rintro e4 w4 ⟨rfl, hw4⟩; obtain rfl : w4 = w1 := hw4)
      | ((with_reducible show wpList _ _ _ _ _ _); (with_reducible refine wpList_load_row (o := ⟨some 9, _, _, _, _, _⟩) rfl 23 (.tmp 4) rfl gy rfl 23 X (0, 0) _ HKB.out Tryd.underlying23 rfl HXS.out ?_))
      | (go_at_call 25; (with_reducible refine (HZ.out _ HB1.out).mono ?_); intro e5 w5 hq; unfold IsYes at hq; obtain ⟨rfl, hb5⟩ := hq; have HB5 := Aside0.mk (below_step HB1.out hb5); clear hb5)
      | fail)
    exact bodyPost_ret (results_tmp2 rfl _ _ _) rfl ⟨rfl, HB5.out⟩
end Go.Proofs.YtfhkkojdaejnjaaDoor.Gcs
