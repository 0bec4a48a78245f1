/-
  spec.Coded, walked.
-/
import Derived.Test.YtfhkkojdaejnjaaDoorCodedPure
import Derived.Test.YtfhkkojdaejnjaaDoorBw
namespace Go.Proofs.YtfhkkojdaejnjaaDoor.Gcs
open Go.RowKit Go.Proofs.YtfhkkojdaejnjaaDoor.Hand Go.Proofs.YtfhkkojdaejnjaaDoor.Buf Go.Proofs.YtfhkkojdaejnjaaDoor.PFnForms Go.Proofs.YtfhkkojdaejnjaaDoorW.PrintWords Go.Proofs.YtfhkkojdaejnjaaDoorW.PrintLast Go.Proofs.YtfhkkojdaejnjaaDoorW.PrintMore

section
variable {ops : Array Oper} {rest : List Oper} {o : Oper} {a : Act} {Q : Exit → Act → World → Prop} {W : World}
theorem bw_store (hgd : o.guard = none) {p : Tmp} {v : Operand} (ho : o.op = .store 22 (.tmp p) v) (hN : o.dst = none) {g n c i base : Nat} {w0 : World} {y : Int} {xs : List Int} (hb : Bw base W (.slice (some ⟨g, 0, none⟩) n c) xs) (hi : i < xs.length) (hB : Below base w0 W)
    (hp : a.eval (.tmp p) = .pointer (some ⟨g, i, none⟩)) (hv : a.eval v = .int .u64 y)
    (h : ∀ w1, Bw base w1 (.slice (some ⟨g, 0, none⟩) n c) (xs.set i y) → Below base w0 w1 → wpList Tryd.prog ops Q rest a w1) : wpList Tryd.prog ops Q (o :: rest) a W := by
  have hg : base ≤ g := by
    obtain ⟨g', c', e, h1, _⟩ := hb.out
    injection e with e1
    injection e1 with e1
    injection e1 with e1
    rw [e1]; exact h1
  exact store_event hgd ho hN (st_run ho hp hv (hb.at_ i hi).1 (hb.at_ i hi).2) fun w1 e => h w1 (by subst e; exact hb.store i hi y) (by subst e; exact hB.setCell hg _)
end
theorem info22 : (Tryd.prog.info? 22).map (fun i => (i.zero, i.size, i.bytes)) = some (some (.int .u64 0), 1, 8) := by kernel_rfl
/-- What spec.Coded hands back. -/
def IsBytes (w : World) (D : List Int) (e : Ending) (w' : World) : Prop := ∃ A c, e = .returned (.slice A D.length c) ∧ D.length ≤ c ∧ Kd.C (Kd.int .u8) w' A D.length D ∧ Below w.heap.size w w'

set_option maxRecDepth 100000 in
set_option maxHeartbeats 16000000 in
theorem coded_calls (p : Nat) (m f : Int) (ks : List Int) (A : Option Addr) (n c : Nat) (items : List (List Int)) (w : World) (hk : ks.length = 16) (hC : Kd.C (Kd.slice 5 (Kd.int .u8)) w A n items) (hn : items.length = n) (hc : n ≤ c) (h1 : 1 ≤ n) (h20 : n ≤ 20) (h60 : ∀ x ∈ items, x.length ≤ 60)
    (hp1 : 1 ≤ p) (hp24 : p ≤ 24) (hf : IntKind.u64.wrap ((n : Int) * m) = f) (hf0 : 0 < f) (hf1 : f ≤ 320 * 2 ^ p) :
    Calls Tryd.prog 11 #[.int .u8 p, .int .u64 m, .agg (ks.map (Value.int .u8)).toArray, .slice A n c] w (IsBytes w (outB (bitsB p (valsI ks f items) n) (bitsB p (valsI ks f items) n).length)) := by
  have hp2 : (2 : Int) ^ p ≤ 16777216 := by
    have h : (2 : Nat) ^ p ≤ 16777216 := Nat.le_trans (Nat.pow_le_pow_right (by decide) hp24) (by decide)
    have h2 := Int.ofNat_le.2 h
    rw [Int.natCast_pow] at h2
    exact h2
  have hfb : f ≤ 5368709120 := by omega
  obtain ⟨X, hX⟩ : ∃ X, X = (ks.map (Value.int .u8)).toArray := ⟨_, rfl⟩
  rw [← hX]
  have HXS : Aside0 ((Tryd.prog.info? 23).map (·.size) = some X.size) := ⟨by rw [hX]; simp only [List.size_toArray, List.length_map, hk]; kernel_rfl⟩
  have HSIP : Aside0 (∀ (A1 : Option Addr) (c1 : Nat) (b : List Int) (w2 : World), b.length ≤ 60 → b.length ≤ c1 → Kd.C (Kd.int .u8) w2 A1 b.length b → Calls Tryd.prog 22 #[.agg X, .slice A1 b.length c1] w2 (IsU64 w2 (sipP ks b))) := ⟨fun A1 c1 b w2 h1 h2 h3 => by
    rw [hX]
    exact sip_calls ks A1 b.length c1 b w2 hk h3 rfl h2 (by omega)⟩
  have HHI : Aside0 (∀ (s : Int) (w2 : World), 0 ≤ s → s < 18446744073709551616 → Calls Tryd.prog 21 #[.int .u64 s, .int .u64 (IntKind.u64.wrap ((n : Int) * m))] w2 fun e w' => e = .returned (.int .u64 (s * f / 18446744073709551616)) ∧ Drawn0 w2 w') := ⟨fun s w2 h0 h1 => by
    rw [hf]
    exact spec_high.calls s f _ w2 (high_f s f h0 h1 (by omega) (by omega))⟩
  have HXX := Aside0.mk hX
  have HC := Aside0.mk hC
  have HN := Aside0.mk hn
  have H60 := Aside0.mk h60
  have HVF : Aside0 (∀ bs, Srt (valsI ks f bs) ∧ (valsI ks f bs).length = bs.length ∧ ∀ x ∈ valsI ks f bs, 0 ≤ x ∧ x < f) := ⟨valsI_facts ks f hf0⟩
  clear hX hC hn h60 hk hf
  have hXs : ∃ z, z = X.size := ⟨_, rfl⟩
  have HB := Aside0.mk (Below.refl w.heap.size w)
  have h16 : X.size = 16 := by
    have h := HXS.out
    rw [show (Tryd.prog.info? 23).map (·.size) = some 16 by kernel_rfl] at h
    injection h with h
    exact h.symm
  go_enter Tryd.func11, Tryd.ntmps11
  go_wp2_with (first
    | ((with_reducible refine gate_dst (N := 6) rfl ?_); refine box_event ?hg (N := 6) ?hd (cs := X) (t := 23) ?hr ?_; (case hd => rfl); (case hg => rfl); (case hr => first | (go_simp; done) | (go_simp; rfl)); intro gk hg w1 hbox hb1; have HKB := Aside0.mk hbox; have HB1 := Aside0.mk (below_step HB.out hb1); have HGK : Aside0 (gk < w1.heap.size) := ⟨(Array.getElem?_eq_some_iff.1 hbox).1⟩; clear hg hbox hb1)
    | fail)
  have HBW0 : Aside0 (Bw w1.heap.size (w1.alloc (.cells #[] 22)) (.slice (some ⟨w1.heap.size, 0, none⟩) 0 0) (valsI ks f (items.take 0))) := ⟨Bw.empty (Nat.le_refl _) (by show _ < (w1.heap.push _).size; simp)⟩
  have HB20 := Aside0.mk ((Below.refl w1.heap.size w1).alloc (Nat.le_refl _) (.cells #[] 22))
  go_loopw [9, 27] (fun v9 v27 wr => ∃ k : Nat, v27 = .int .i64 k ∧ k ≤ n ∧ Aside0 (Bw w1.heap.size wr v9 (valsI ks f (items.take k))) ∧ Aside0 (Below w1.heap.size w1 wr)) (fun _ v27 _ => n - (intOf v27).toNat)
  case atStart => exact ⟨0, rfl, Nat.zero_le _, HBW0, HB20⟩
  case round =>
    obtain ⟨k, rfl, hk, HBW, HB2⟩ := hrel
    clear HBW0 HB20
    by_cases hkn : k < n
    · have HCk := Aside0.mk (Kd.C_below HC.out (below_step HB1.out HB2.out))
      obtain ⟨ad, A0, c0, rfl, kd, hc0, hCb⟩ := at_L1 HCk.out (k : Int) (by omega) (by omega)
      have hbl := H60.out (rd_L1 items (k : Int)) (by unfold rd_L1; rw [Int.toNat_natCast, List.getD_eq_getElem?_getD, List.getElem?_eq_getElem (by rw [HN.out]; exact hkn)]; exact List.getElem_mem _)
      have HTK : Aside0 (items.take (k + 1) = items.take k ++ [rd_L1 items (k : Int)]) := ⟨by
        unfold rd_L1
        rw [Int.toNat_natCast, List.getD_eq_getElem?_getD, List.getElem?_eq_getElem (by rw [HN.out]; exact hkn)]
        exact List.take_succ_eq_append_getElem (by rw [HN.out]; exact hkn)⟩
      rw [Int.toNat_natCast] at kd
      generalize rd_L1 items (k : Int) = b at kd hc0 hCb hbl HTK
      have HVK := Aside0.mk (HVF.out (items.take k))
      obtain ⟨gv, cv, rfl, hcv⟩ := HBW.out.shape
      have HLV : Aside0 ((valsI ks f (items.take k)).length = k) := ⟨by rw [HVK.out.2.1, List.length_take, HN.out]; omega⟩
      have HVS : Aside0 (valsI ks f (items.take (k + 1)) = insI (valsI ks f (items.take k)) (valI ks f b)) := ⟨by rw [HTK.out, valsI_snoc]⟩
      rw [HLV.out] at HBW hcv ⊢
      have HCB := Aside0.mk hCb
      have hsl := sip_lo ks b
      have HSB : Aside0 (sipP ks b * f / 18446744073709551616 = valI ks f b) := ⟨rfl⟩
      clear hCb
      generalize valsI ks f (items.take k) = L at HBW HVK HLV HVS
      have HKW : Aside0 (wr.heap[gk]? = some (.cells X 23 (0, 0))) := ⟨(HB2.out.block _ HGK.out).trans HKB.out⟩
      go_wp2_with (first
        | ((with_reducible show wpList _ _ _ _ _ _); (with_reducible refine wpList_load_row (o := ⟨some 31, _, _, _, _, _⟩) rfl 23 (.tmp 6) rfl gk rfl 23 X (0, 0) _ HKW.out Tryd.underlying23 rfl HXS.out ?_))
        | (go_at_call 22; (with_reducible refine (HSIP.out A0 c0 b _ hbl hc0 HCB.out).mono ?_); rintro e2 w2 hq; unfold IsU64 at hq; obtain ⟨rfl, hb2⟩ := hq; have HBW2 := Aside0.mk (HBW.out.below hb2); have HB22 := Aside0.mk (below_step HB2.out hb2); clear hb2)
        | (go_at_call 21; (with_reducible refine (HHI.out (sipP ks b) _ hsl.1 hsl.2).mono ?_); rintro e3 w3 ⟨rfl, hd3⟩; obtain ⟨q3, h3⟩ := hd3.out; have hb3 : Below w2.heap.size w2 w3 := (by rw [h3]; apply pw_below_drewN; exact Below.refl _ _); have HBW3 := Aside0.mk (HBW2.out.below hb3); have HB23 := Aside0.mk (below_step HB22.out hb3); clear hb3 h3 hd3; rw [HSB.out])
        | (at_builtin; refine wpList_bw_append (w0 := w1) w1.heap.size rfl (.tmp 42) (.tmp 44) 52 22 rfl Tryd.underlying52 info22 _ L (valI ks f b) rfl rfl HBW3.out HB23.out HB23.out.size (by rw [HLV.out]; omega) ?_; intro v8 w8 hB8 hb8; have HBW8 := Aside0.mk hB8; have HB28 := Aside0.mk hb8; clear hB8 hb8)
        | fail)
      have HBL0 : Aside0 (Bw w1.heap.size w8 v8 (curI L (valI ks f b) k)) := ⟨by rw [← HLV.out, curI_end]; exact HBW8.out⟩
      generalize valI ks f b = v at HBL0 HVS ⊢
      clear HBW8 HBW3 HBW2 HBW HB23 HB22 HCB HKW HSB kd hc0 hbl hsl hcv HTK HCk HB2
      have hkL := HLV.out
      obtain ⟨gj, cj, rfl, hcj⟩ := HBL0.out.shape
      rw [show (curI L v k).length = k + 1 by rw [curI_length _ _ _ (by omega), hkL]] at HBL0 hcj ⊢
      go_loopw [13] (fun v13 wr => ∃ j : Nat, v13 = .int .i64 j ∧ j ≤ k ∧ Aside0 (Bw w1.heap.size wr (.slice (some ⟨gj, 0, none⟩) (k + 1) cj) (curI L v j)) ∧ Aside0 (posI L v k = posI L v j) ∧ Aside0 (Below w1.heap.size w1 wr)) (fun v13 _ => (intOf v13).toNat)
      case atStart => exact ⟨k, rfl, Nat.le_refl _, HBL0, ⟨rfl⟩, HB28⟩
      case round =>
        obtain ⟨j, rfl, hj, HBJ, HPJ, HB3⟩ := hrel
        clear HBL0 HB28
        have HCL : Aside0 ((curI L v j).length = k + 1) := ⟨by rw [curI_length _ _ _ (by omega), hkL]⟩
        rcases Nat.eq_zero_or_pos j with rfl | hj0
        · go_wp2_with fail
          have HFI : Aside0 (curI L v 0 = valsI ks f (items.take (k + 1))) := ⟨by rw [HVS.out]; unfold insI; rw [hkL, HPJ.out]; rfl⟩
          rw [HFI.out] at HBJ
          go_roundw
          case rel => exact ⟨k + 1, by go_num, by omega, HBJ, HB3⟩
          case measure => simp [intOf]; omega
        · obtain ⟨j', rfl⟩ : ∃ j', j = j' + 1 := ⟨j - 1, by omega⟩
          have kp := (HBJ.out.at_ j' (by rw [HCL.out]; omega)).1
          rw [curI_prev _ _ _ (by omega)] at kp
          have HPS : Aside0 (posI L v (j' + 1) = if L.getD j' 0 > v then posI L v j' else j' + 1) := ⟨rfl⟩
          have HSW := Aside0.mk (curI_swap L v j' (by omega))
          generalize hx : L.getD j' 0 = x at kp HPS HSW
          clear hx
          by_cases hxv : x > v
          · go_wp2_with (first
              | ((with_reducible refine gate_store (t := 22) (p := 68) rfl ?_); refine bw_store rfl rfl rfl (i := j' + 1) (y := x) HBJ.out (by rw [HCL.out]; omega) HB3.out rfl rfl ?_; intro w4 hB4 hb4; have HB4 := Aside0.mk hB4; have HB34 := Aside0.mk hb4; clear hB4 hb4)
              | ((with_reducible refine gate_store (t := 22) (p := 69) rfl ?_); refine bw_store rfl rfl rfl (i := j') (y := v) HB4.out (by rw [List.length_set, HCL.out]; omega) HB34.out rfl rfl ?_; intro w5 hB5 hb5; rw [HSW.out] at hB5; have HB5 := Aside0.mk hB5; have HB35 := Aside0.mk hb5; clear hB5 hb5)
              | fail)
            go_roundw
            case rel => exact ⟨j', by go_num, by omega, HB5, ⟨by rw [HPJ.out, HPS.out, if_pos hxv]⟩, HB35⟩
            case measure => first | (simp [intOf]; done) | (simp [intOf]; omega)
          · go_wp2_with fail
            have HFI : Aside0 (curI L v (j' + 1) = valsI ks f (items.take (k + 1))) := ⟨by rw [HVS.out]; unfold insI; rw [hkL, HPJ.out, HPS.out, if_neg hxv]⟩
            rw [HFI.out] at HBJ
            go_roundw
            case rel => exact ⟨k + 1, by go_num, by omega, HBJ, HB3⟩
            case measure => simp [intOf]; omega
    · obtain rfl : k = n := by omega
      have hvf := HVF.out items
      have hLL : (valsI ks f items).length = k := by rw [hvf.2.1, HN.out]
      rw [List.take_of_length_le (by rw [HN.out]; exact Nat.le_refl _)] at HBW
      have HSR := Aside0.mk hvf.1
      have HRG := Aside0.mk hvf.2.2
      have HLN := Aside0.mk hLL
      clear hvf
      obtain ⟨gv, cv, rfl, hcv⟩ := HBW.out.shape
      rw [hLL] at HBW hcv ⊢
      clear hLL HVF HSIP HHI
      obtain ⟨L, hL⟩ : ∃ L, L = valsI ks f items := ⟨_, rfl⟩
      rw [← hL] at HBW HSR HRG HLN
      have HLE := Aside0.mk hL
      clear hL
      obtain ⟨wa, hwa⟩ : ∃ wa, wa = wr := ⟨_, rfl⟩
      subst hwa
      have HBA := Aside0.mk (below_step HB1.out HB2.out)
      have HBB0 : Aside0 (Buf wa.heap.size (wa.alloc (.cells #[] 5)) (.slice (some ⟨wa.heap.size, 0, none⟩) 0 0) (bitsB p L 0)) := ⟨⟨wa.heap.size, 0, rfl, Nat.le_refl _, by show _ < (wa.heap.push _).size; simp, Nat.le_refl _, (fun j hj => absurd hj (Nat.not_lt_zero _)), (fun j hj => absurd hj (Nat.not_lt_zero _))⟩⟩
      have HB30 := Aside0.mk ((Below.refl wa.heap.size wa).alloc (Nat.le_refl _) (.cells #[] 5))
      have hlb0 : (bitsB p L 0).length ≤ 345 * 0 := Nat.le_refl _
      go_wp2_with fail
      go_loopw [14, 15, 76] (fun v14 v15 v76 wr => ∃ q : Nat, v76 = .int .i64 q ∧ q ≤ k ∧ (bitsB p L q).length ≤ 345 * q ∧ Aside0 (v15 = .int .u64 (if q = 0 then 0 else L.getD (q - 1) 0)) ∧ Aside0 (Buf wa.heap.size wr v14 (bitsB p L q)) ∧ Aside0 (Below wa.heap.size wa wr)) (fun _ _ v76 _ => k - (intOf v76).toNat)
      case atStart => exact ⟨0, rfl, Nat.zero_le _, hlb0, ⟨rfl⟩, HBB0, HB30⟩
      case round =>
        obtain ⟨q, rfl, hq, hlb, HLA, HBB, HB4⟩ := hrel
        clear HBB0 HB30 hlb0
        by_cases hqk : q < k
        · have hqL : q < L.length := by rw [HLN.out]; exact hqk
          have kv := pw_cell_below HB4.out (HBW.out.at_ q hqL).1
          have hlast : ∃ la : Int, la = (if q = 0 then 0 else L.getD (q - 1) 0) := ⟨_, rfl⟩
          obtain ⟨la, hla⟩ := hlast
          have hu := HLA.out
          rw [← hla] at hu
          subst hu
          have HLQ : Aside0 (L.getD q 0 = if q + 1 = 0 then 0 else L.getD (q + 1 - 1) 0) := ⟨by rw [if_neg (by omega)]; rfl⟩
          have hmem : L.getD q 0 ∈ L := by rw [getD_mem hqL]; exact List.getElem_mem _
          obtain ⟨hv0, hv1⟩ := HRG.out _ hmem
          have hlale : 0 ≤ la ∧ la ≤ L.getD q 0 := by
            rw [hla]
            by_cases hq0 : q = 0
            · rw [if_pos hq0]; exact ⟨Int.le_refl _, hv0⟩
            · rw [if_neg hq0, getD_mem (by omega), getD_mem hqL]
              exact ⟨(HRG.out _ (List.getElem_mem _)).1, List.pairwise_iff_getElem.1 HSR.out _ _ _ _ (by omega)⟩
          have HBQ : Aside0 (bitsB p L (q + 1) = bitsB p L q ++ diffB p (L.getD q 0 - la)) := ⟨by rw [hla]; rfl⟩
          clear hla HLA hmem
          generalize L.getD q 0 = v at kv HLQ hv0 hv1 hlale HBQ
          obtain ⟨d, hd⟩ : ∃ d, d = v - la := ⟨_, rfl⟩
          have HDE := Aside0.mk hd
          rw [← hd] at HBQ
          have hd0 : 0 ≤ d := by omega
          have hdf : d < f := by omega
          have hq320 : d / 2 ^ p < 320 := Int.ediv_lt_of_lt_mul (Int.pow_pos (by decide)) (by omega)
          have hq0 : 0 ≤ d / 2 ^ p := Int.ediv_nonneg hd0 (Int.le_of_lt (Int.pow_pos (by decide)))
          obtain ⟨Qn, hQn⟩ := Int.eq_ofNat_of_zero_le hq0
          have hQ320 : Qn ≤ 320 := by omega
          have HDB : Aside0 (diffB p d = List.replicate Qn 1 ++ [0] ++ restB p d p) := ⟨by unfold diffB; rw [hQn]; rfl⟩
          clear hq320 hq0
          have HQN := Aside0.mk hQn
          clear hQn hd
          go_wp2_with fail
          rw [← HDE.out, HQN.out]
          clear HDE HQN
          obtain ⟨bl, hbl⟩ : ∃ bl, bl = (bitsB p L q).length := ⟨_, rfl⟩
          rw [← hbl] at hlb
          have hbl6 : bl ≤ 6900 := by omega
          have HBLQ := Aside0.mk hbl.symm
          clear hbl
          generalize bitsB p L q = bq at HBB HBQ HBLQ
          have HB40 : Aside0 (Buf wa.heap.size wr u14 (bq ++ List.replicate (Qn - Qn) 1)) := ⟨by rw [Nat.sub_self, List.replicate_zero, List.append_nil]; exact HBB.out⟩
          go_loopw [14, 19] (fun v14 v19 w' => ∃ r : Nat, v19 = .int .u64 r ∧ r ≤ Qn ∧ Aside0 (Buf wa.heap.size w' v14 (bq ++ List.replicate (Qn - r) 1)) ∧ Aside0 (Below wa.heap.size wa w')) (fun _ v19 _ => (intOf v19).toNat)
          case atStart => exact ⟨Qn, rfl, Nat.le_refl _, HB40, HB4⟩
          case round =>
            obtain ⟨r, rfl, hr, HBR, HB5⟩ := hrel
            clear HB40 HBB
            have HRL : Aside0 ((bq ++ List.replicate (Qn - r) (1 : Int)).length = bl + (Qn - r)) := ⟨by rw [List.length_append, List.length_replicate, HBLQ.out]⟩
            rcases Nat.eq_zero_or_pos r with rfl | hr0
            · rw [Nat.sub_zero] at HBR HRL
              go_wp2_with (first
                | (at_builtin; refine wpList_buf_append (w0 := wa) wa.heap.size rfl (.tmp 94) (.tmp 95) 29 5 rfl Tryd.underlying29 info5 _ (bq ++ List.replicate Qn (1 : Int)) 0 rfl rfl HBR.out HB5.out HB5.out.size (by rw [HRL.out]; omega) ?_; intro v6 w6 hB6 hb6; have HB6 := Aside0.mk hB6; have HB56 := Aside0.mk hb6; clear hB6 hb6)
                | fail)
              have HB60 : Aside0 (Buf wa.heap.size w6 v6 (bq ++ List.replicate Qn (1 : Int) ++ [0] ++ restB p d (p - p))) := ⟨by rw [Nat.sub_self]; unfold restB; rw [List.append_nil]; exact HB6.out⟩
              go_loopw [14, 20] (fun v14 v20 w' => ∃ r : Nat, v20 = .int .i64 ((r : Int) - 1) ∧ r ≤ p ∧ Aside0 (Buf wa.heap.size w' v14 (bq ++ List.replicate Qn (1 : Int) ++ [0] ++ restB p d (p - r))) ∧ Aside0 (Below wa.heap.size wa w')) (fun _ v20 _ => (intOf v20 + 1).toNat)
              case atStart => exact ⟨p, by go_num, Nat.le_refl _, HB60, HB56⟩
              case round =>
                obtain ⟨r, rfl, hr, HBS, HB7⟩ := hrel
                clear HB60 HBR
                have HSL : Aside0 ((bq ++ List.replicate Qn (1 : Int) ++ [0] ++ restB p d (p - r)).length ≤ 7300) := ⟨by simp only [List.length_append, List.length_replicate, restB_length, HBLQ.out, List.length_singleton]; omega⟩
                rcases Nat.eq_zero_or_pos r with rfl | hr0
                · rw [Nat.sub_zero] at HBS
                  go_wp2_with fail
                  have HNX : Aside0 (bq ++ List.replicate Qn (1 : Int) ++ [0] ++ restB p d p = bitsB p L (q + 1)) := ⟨by rw [HBQ.out, HDB.out]; simp only [List.append_assoc]⟩
                  have HNL : Aside0 ((bitsB p L (q + 1)).length ≤ 345 * (q + 1)) := ⟨by rw [HBQ.out, HDB.out]; simp only [List.length_append, List.length_replicate, restB_length, HBLQ.out, List.length_singleton]; omega⟩
                  go_roundw
                  case rel => exact ⟨q + 1, by go_num, by omega, HNL.out, ⟨by rw [← HLQ.out]⟩, ⟨by rw [← HNX.out]; exact HBS.out⟩, HB7⟩
                  case measure => simp [intOf]; omega
                · obtain ⟨r', rfl⟩ : ∃ r', r = r' + 1 := ⟨r - 1, by omega⟩
                  have HRS : Aside0 (restB p d (p - r') = restB p d (p - (r' + 1)) ++ [d / 2 ^ r' % 2]) := ⟨by
                    rw [show p - r' = (p - (r' + 1)) + 1 by omega]
                    unfold restB
                    rw [show p - (p - (r' + 1) + 1) = r' by omega]
                    cases h : p - (r' + 1) <;> rfl⟩
                  have HBIT : Aside0 (Go.bits .and .u64 (d / 2 ^ r') 1 % 256 = d / 2 ^ r' % 2) := ⟨by
                    have hpos : (0 : Int) < 2 ^ r' := Int.pow_pos (by decide)
                    have h0 : 0 ≤ d / 2 ^ r' := Int.ediv_nonneg hd0 (Int.le_of_lt hpos)
                    have h1 : d / 2 ^ r' ≤ d := Int.ediv_le_self _ hd0
                    rw [show Go.bits .and .u64 (d / 2 ^ r') 1 = d / 2 ^ r' % 2 from bits_mask .u64 64 (by decide) (fun n h0 h1 => wrap_id h0 (by simpa using h1)) 1 (by decide) _ h0 (by simp; omega)]
                    omega⟩
                  go_wp2_with (first
                    | (at_builtin; refine wpList_buf_append (w0 := wa) wa.heap.size rfl (.tmp 104) (.tmp 110) 29 5 rfl Tryd.underlying29 info5 _ (bq ++ List.replicate Qn (1 : Int) ++ [0] ++ restB p d (p - (r' + 1))) (Go.bits .and .u64 (d / 2 ^ r') 1 % 256) rfl rfl HBS.out HB7.out HB7.out.size (by have := HSL.out; omega) ?_; intro v8 w8 hB8 hb8; rw [HBIT.out] at hB8; have HB8 := Aside0.mk hB8; have HB78 := Aside0.mk hb8; clear hB8 hb8)
                    | fail)
                  go_roundw
                  case rel => exact ⟨r', by first | (congr 1; omega) | go_num, by omega, ⟨by rw [HRS.out, ← List.append_assoc]; exact HB8.out⟩, HB78⟩
                  case measure => first | (simp [intOf]; done) | (simp [intOf]; omega)
            · obtain ⟨r', rfl⟩ : ∃ r', r = r' + 1 := ⟨r - 1, by omega⟩
              go_wp2_with (first
                | (at_builtin; refine wpList_buf_append (w0 := wa) wa.heap.size rfl (.tmp 91) (.tmp 92) 29 5 rfl Tryd.underlying29 info5 _ (bq ++ List.replicate (Qn - (r' + 1)) (1 : Int)) 1 rfl rfl HBR.out HB5.out HB5.out.size (by rw [HRL.out]; omega) ?_; intro v6 w6 hB6 hb6; have HB6 := Aside0.mk hB6; have HB56 := Aside0.mk hb6; clear hB6 hb6)
                | fail)
              go_roundw
              case rel => exact ⟨r', by go_num, by omega, ⟨by rw [show Qn - r' = (Qn - (r' + 1)) + 1 by omega, List.replicate_succ', ← List.append_assoc]; exact HB6.out⟩, HB56⟩
              case measure => first | (simp [intOf]; done) | (simp [intOf]; omega)
        · obtain rfl : q = k := by omega
          obtain ⟨bs, hbs⟩ : ∃ bs, bs = bitsB p L q := ⟨_, rfl⟩
          have hbl : bs.length ≤ 6900 := by rw [hbs]; omega
          have HBIT : Aside0 (∀ x ∈ bs, x = 0 ∨ x = 1) := ⟨by rw [hbs]; exact bitsB_bit p L q⟩
          rw [← hbs] at HBB
          have HBSE := Aside0.mk hbs
          clear hbs hlb HLA
          obtain ⟨gb, cb, rfl, hcb⟩ := HBB.out.shape
          obtain ⟨bl, hbe⟩ : ∃ bl, bl = bs.length := ⟨_, rfl⟩
          have HBE := Aside0.mk hbe
          rw [← hbe] at hbl hcb HBB ⊢
          have HBW9 := Aside0.mk (below_then HBA.out (below_size HBA.out) HB4.out)
          clear hbe
          have hbp : 0 < bl := by
            have h := HBSE.out
            have h2 := HBE.out
            obtain ⟨q', rfl⟩ : ∃ q', q = q' + 1 := ⟨q - 1, by omega⟩
            rw [h2, h]
            unfold bitsB diffB
            simp only [List.length_append, List.length_singleton]
            omega
          obtain ⟨nb, hnb⟩ : ∃ nb, nb = (bl + 7) / 8 := ⟨_, rfl⟩
          have hnb1 : ((bl : Int) + 7) / 8 = (nb : Int) := by omega
          have HO0 : Aside0 (outB bs 0 = List.replicate nb 0) := ⟨by unfold outB; rw [hnb, HBE.out]⟩
          have HNB := Aside0.mk hnb
          have hnbl : 0 < nb ∧ nb ≤ 1000 := by omega
          clear hnb
          obtain ⟨i0, hi, hz0, hz1, hz2⟩ := info_parts info5
          obtain ⟨wb, hwb⟩ : ∃ wb, wb = wr := ⟨_, rfl⟩
          subst hwb
          go_wp2_with (first
            | (at_make; refine wpList_make_full _ rfl _ _ 29 rfl wb.heap.size 5 i0 (.int .u8 0) 1 Tryd.underlying29 hi hz0 hz1 .i64 .i64 _ _ nb rfl rfl (by first | rfl | exact hnb1 | omega) (by first | rfl | exact hnb1 | omega) (by rw [hz2]; omega) (by unfold maxLen; omega) (Nat.le_refl _) ?_; intro wm hown hgrow; rw [made_zeros, ← List.map_replicate] at hown; have HOB := Aside0.mk (Buf.of_own (xs := List.replicate nb 0) (by simp) (by omega) hown); have HBM := Aside0.mk ((Below.refl wb.heap.size wb).grown hgrow (Nat.le_refl _) (fun _ h => by cases h)); clear hown hgrow)
            | fail)
          have HOB0 : Aside0 (Buf wb.heap.size wm (.slice (some ⟨wb.heap.size, 0, none⟩) nb nb) (outB bs 0)) := ⟨by rw [HO0.out]; exact HOB.out⟩
          clear HOB HO0 hnb1 hi hz0 hz1 hz2
          go_loopw [120] (fun v120 w' => ∃ i : Nat, v120 = .int .i64 i ∧ i ≤ bl ∧ Aside0 (Buf wb.heap.size w' (.slice (some ⟨wb.heap.size, 0, none⟩) nb nb) (outB bs i)) ∧ Aside0 (Below wb.heap.size wb w')) (fun v120 _ => bl - (intOf v120).toNat)
          case atStart => exact ⟨0, rfl, Nat.zero_le _, HOB0, HBM⟩
          case round =>
            obtain ⟨i, rfl, hi8, HOI, HBI⟩ := hrel
            clear HOB0 HBM
            by_cases hib : i < bl
            · have HOL := Aside0.mk (outB_facts bs i).1
              have kb := pw_cell_below HBI.out (HBB.out.at_ i (by rw [← HBE.out]; exact hib)).1
              obtain ⟨I8, hI8⟩ : ∃ I8, I8 = i / 8 := ⟨_, rfl⟩
              obtain ⟨S8, hS8⟩ : ∃ S8, S8 = 7 - i % 8 := ⟨_, rfl⟩
              have e8 : (i : Int) / 8 = (I8 : Int) := by omega
              have es : (7 : Int) - (i : Int) % 8 = (S8 : Int) := by omega
              have hInb : I8 < nb := by have := HNB.out; omega
              obtain ⟨f1, f2⟩ := HOI.out.at_ I8 (by rw [HOL.out, ← HBE.out, ← HNB.out]; exact hInb)
              have HST : Aside0 (outB bs (i + 1) = (outB bs i).set I8 (Go.bits .or .u8 ((outB bs i).getD I8 0) (IntKind.u8.wrap (bs.getD i 0 * 2 ^ S8)))) := ⟨by rw [hI8, hS8]; rfl⟩
              have HSO := HOI.out.store I8 (by rw [HOL.out, ← HBE.out, ← HNB.out]; exact hInb) (Go.bits .or .u8 ((outB bs i).getD I8 0) (IntKind.u8.wrap (bs.getD i 0 * 2 ^ S8)))
              rw [← HST.out] at HSO
              have HSX := Aside0.mk HSO
              clear HSO HST
              generalize (outB bs i).getD I8 0 = y at f1 HSX
              generalize bs.getD i 0 = bv at kb HSX
              have hS7 : S8 ≤ 7 := by omega
              clear hI8 hS8
              rw [IntKind.wrap_u8] at HSX
              go_wp2_with fail
              go_region
              all_goals
                go_wp2_with fail
                go_roundw
                case rel => exact ⟨i + 1, by go_num, by omega, ⟨HSX.out.below (by repeat (first | (with_reducible exact Below.refl _ _) | apply below_drew1 | apply pw_below_drewN))⟩, ⟨by repeat (first | (with_reducible exact (HBI.out.setCell (Nat.le_refl _) _)) | apply below_drew1 | apply pw_below_drewN)⟩⟩
                case measure => simp [intOf]; omega
            · obtain rfl : i = bl := by omega
              have HFB := Aside0.mk (below_then HBW9.out (below_size HBW9.out) HBI.out)
              go_wp2_with fail
              refine bodyPost_ret (results_tmp rfl _ _ _) rfl ?_
              obtain ⟨q1, q2, q3⟩ := HOI.out.reads (by rw [(outB_facts bs i).1, ← HBE.out]; omega)
              rw [← HLE.out, ← HBSE.out, ← HBE.out]
              unfold IsBytes
              have hbl2 : (outB bs i).length = nb := q1.symm
              rw [hbl2]
              exact ⟨_, _, rfl, q2, q3, HFB.out⟩
end Go.Proofs.YtfhkkojdaejnjaaDoor.Gcs
