/-
  The walks of base58.Decode and of what calls it.
-/
import Derived.Test.YtpgfhcobfaceeaaDoorUnPure
import Derived.Test.YtpgfhcobfaceeaaDoorHand
import Derived.Laws.CopyOwn
import Derived.Lib.SlBytesConst
import Derived.Outline
namespace Go.Proofs.YtpgfhcobfaceeaaDoor.PFnUnBase58
open Go.RowKit Go.Proofs.YtpgfhcobfaceeaaDoor.Hand Go.Proofs.YtpgfhcobfaceeaaDoorW.PrintWords Go.Proofs.YtpgfhcobfaceeaaDoorW.PrintLast Go.Proofs.YtpgfhcobfaceeaaDoorW.PrintMore

def tabAt (w : World) : Prop := ∀ i, i < 256 → w.cell? ⟨1, i, none⟩ = some (.int .u8 (tab.getD i 0))
theorem tabAt.below {w W : World} {B : Nat} (h : tabAt w) (hb : Below B w W) (hB : 1 < B) : tabAt W := fun i hi => (hb.cell (p := ⟨1, i, none⟩) hB).trans (h i hi)

theorem take_snoc (s : ByteArray) (n : Nat) (h : n < s.size) : (bytesOf s).take (n + 1) = (bytesOf s).take n ++ [bt s (n : Int)] := by
  have hl := bytesOf_length s
  rw [List.take_succ_eq_append_getElem (by omega)]
  congr 2
  rw [← rd_bytesOf]
  simp [rd, List.getD_eq_getElem?_getD, List.getElem?_eq_getElem (show n < (bytesOf s).length by omega)]

set_option maxHeartbeats 1000000 in
theorem decode_calls (s : ByteArray) (hs : s.size ≤ 200) (w : World) (hT : tabAt w) (hg : 1 < w.heap.size) :
    Calls Tryd.prog 17 #[.string s] w fun e w' => ∃ A l c, e = .returned (.slice A l c) ∧ l ≤ c ∧ Kd.C (Kd.int .u8) w' A l (unB (bytesOf s)) ∧ Below w.heap.size w w' := by
  have HT := Aside0.mk hT
  have HG := Aside0.mk hg
  clear hT hg
  have hbl := bytesOf_length s
  have HBL := Aside0.mk hbl
  clear hbl
  have kc := fun (w : World) (C : Array Value) (n c : Nat) => Lib.run_convert_bytes_const (P := Tryd.prog) w 22 5 C n c Tryd.underlying22 Tryd.underlying5
  go_enter Tryd.func17, Tryd.ntmps17
  go_wp2
  go_loopw [3, 4] (fun v i wr => ∃ n : Nat, n ≤ s.size ∧ i = .int .i64 n ∧ Aside0 (valid ((bytesOf s).take n) = true) ∧ Aside0 (Kd.R (Kd.int .u8) 5 wr w.heap.size (fun _ => True) v (rebased 58 256 (((bytesOf s).take n).map dOf))) ∧ Aside0 (Below w.heap.size w wr)) (fun _ i _ => s.size - (intOf i).toNat)
  case atStart => exact ⟨0, Nat.zero_le _, rfl, ⟨rfl⟩, ⟨Kd.R_nil _ _ _ _ _⟩, ⟨Below.refl _ _⟩⟩
  case round =>
    obtain ⟨n, hn, rfl, HV, HR, HB⟩ := hrel
    by_cases hlt : n < s.size
    · obtain ⟨c, hcE⟩ : ∃ c, c = bt s (n : Int) := ⟨_, rfl⟩
      have hrng := bt_range s (n : Int)
      rw [← hcE] at hrng
      obtain ⟨hc0, hc1⟩ := hrng
      have hx8 : ∀ h : n < s.size, ((s[n]'h).toNat : Int) = c := fun h => by rw [hcE]; simpa using bt_at s (n : Int) (by simpa using h)
      obtain ⟨_, g1, g2⟩ := idx_at c hc0 (by omega)
      have hcell : wr.cell? ⟨1, c.toNat, none⟩ = some (.int .u8 (dOf c)) := tabAt.below HT.out HB.out HG.out c.toNat (by omega)
      have hc2 : c < 256 := by omega
      have HC := Aside0.mk hcE
      clear hcE hc1
      have HG2 := Aside0.mk g2
      clear g2
      by_cases h255 : dOf c = 255
      · rw [h255] at hcell
        clear g1
        have H255 := Aside0.mk h255
        clear h255
        go_wp2
        go_ret
        refine ⟨_, 0, _, rfl, Nat.le_refl _, ?_, ?_⟩
        · have hu : unB (bytesOf s) = [] := by
            unfold unB valid
            rw [if_neg]
            rw [← List.take_append_drop (n + 1) (bytesOf s), take_snoc s n hlt, HC.out.symm]
            simp [H255.out]
          rw [hu]
          exact ⟨rfl, by simp, fun h => absurd h (by simp)⟩
        · exact HB.out.alloc HB.out.size _
      · have hb : (dOf c == 255) = false := beq_eq_false_iff_ne.2 h255
        have hd1 : dOf c ≤ 57 := by have := HG2.out; omega
        have HV1 : Aside0 (valid ((bytesOf s).take (n + 1)) = true) := ⟨by
          have e := take_snoc s n hlt
          rw [e, HC.out.symm]
          have hv := HV.out
          unfold valid at hv ⊢
          rw [List.all_append, hv]
          simp [h255]⟩
        have HE : Aside0 (rebased 58 256 (((bytesOf s).take (n + 1)).map dOf) = addDig 58 256 (rebased 58 256 (((bytesOf s).take n).map dOf)) (dOf c)) := ⟨by
          rw [take_snoc s n hlt, HC.out.symm]
          simp [rebased]⟩
        clear h255
        have hdl : ((bytesOf s).take n).length ≤ 200 := by rw [List.length_take]; omega
        have hdr : ∀ d ∈ ((bytesOf s).take n).map dOf, 0 ≤ d ∧ d < 256 := fun d hd => by
          obtain ⟨x, hx, rfl⟩ := List.mem_map.1 hd
          have hxr := bytes_range s x (List.mem_of_mem_take hx)
          obtain ⟨_, a1, a2⟩ := idx_at x hxr.1 hxr.2
          omega
        obtain ⟨rl, rr⟩ := reb_len _ hdr (((bytesOf s).take n).map dOf) [] (fun _ h => h) (by simp)
        rw [List.length_map] at rl
        obtain ⟨kk, hE⟩ := (mul_f (rebased 58 256 (((bytesOf s).take n).map dOf)) (dOf c) (by unfold rebased; simp at rl ⊢; omega) rr g1 (by have := HG2.out; omega)).rounds
        have M := Aside0.mk hE
        clear hdl hdr rl rr hE
        go_wp2_with (first | (go_at_call 23; refine (base58_zzMulAdd.calls kk (fun _ => True) _ _ (dOf c) _ w wr HB.out HR.out M.out).mono ?_; rintro e w1 ⟨v1, rfl, hR1, hB1, hk1⟩; have HR1 := Aside0.mk (Kd.R_mono hR1 (fun _ _ => trivial)); have HB1 := Aside0.mk hB1; clear hR1 hB1 hk1) | fail)
        go_roundw
        case rel => exact ⟨n + 1, by omega, by go_num, HV1, ⟨by rw [HE.out]; exact HR1.out⟩, HB1⟩
        case measure => simp [intOf]; omega
    · obtain rfl : n = s.size := by omega
      have htk : (bytesOf s).take s.size = bytesOf s := List.take_of_length_le (by have := HBL.out; omega)
      rw [htk] at HV HR
      clear htk hlt hn
      obtain ⟨rl, rr⟩ := reb_len ((bytesOf s).map dOf) (fun d hd => by
          obtain ⟨x, hx, rfl⟩ := List.mem_map.1 hd
          have hxr := bytes_range s x hx
          obtain ⟨_, a1, a2⟩ := idx_at x hxr.1 hxr.2
          omega) ((bytesOf s).map dOf) [] (fun _ h => h) (by simp)
      have RL : (rebased 58 256 ((bytesOf s).map dOf)).length ≤ 13200000 := by
        have := HBL.out
        unfold rebased
        simp at rl ⊢
        omega
      clear rl rr
      obtain ⟨T, hTE⟩ : ∃ T, T = rebased 58 256 ((bytesOf s).map dOf) := ⟨_, rfl⟩
      rw [← hTE] at HR RL
      have HTE := Aside0.mk hTE
      clear hTE
      obtain ⟨At, ct, et⟩ := Kd.R_slice HR.out
      subst et
      obtain ⟨i0, hi, hz0, hz1, hz2⟩ := info_parts info5
      have hsz : (Tryd.prog.info? 5).map (·.size) = some 1 := by rw [hi]; simp [hz1]
      go_wp2_with fail
      go_loop [6] (fun z => ∃ m : Nat, m ≤ s.size ∧ z = .int .i64 m ∧ Aside0 ((bytesOf s).take m = List.replicate m 49)) (fun z => s.size - (intOf z).toNat)
      case atStart => exact ⟨0, Nat.zero_le _, rfl, ⟨rfl⟩⟩
      case round =>
        obtain ⟨m, hm, rfl, HM⟩ := hrel
        by_cases hlt : m < s.size
        · obtain ⟨c, hcE⟩ : ∃ c, c = bt s (m : Int) := ⟨_, rfl⟩
          have hx8 : ∀ h : m < s.size, ((s[m]'h).toNat : Int) = c := fun h => by rw [hcE]; simpa using bt_at s (m : Int) (by simpa using h)
          have HC := Aside0.mk hcE
          clear hcE
          by_cases h49 : c = 49
          · have hb : (c != 49) = false := by simp [h49]
            have HM1 : Aside0 ((bytesOf s).take (m + 1) = List.replicate (m + 1) 49) := ⟨by rw [take_snoc s m hlt, HM.out, ← HC.out, h49, List.replicate_succ']⟩
            clear h49
            go_wp2
            go_round
            case rel => exact ⟨m + 1, by omega, by go_num, HM1⟩
            case measure => simp [intOf]; omega
          · have hb : (c != 49) = true := by simp [h49]
            have HO : Aside0 (ones (bytesOf s) = m) := ⟨by
              rw [← List.take_append_drop (m + 1) (bytesOf s), take_snoc s m hlt, HM.out, ← HC.out]
              unfold ones
              simp [h49]⟩
            clear h49
            rcases Nat.eq_zero_or_pos T.length with hT0 | hT0
            · have hTn : T = [] := List.eq_nil_of_length_eq_zero hT0
              subst hTn
              clear hT0
              go_wp2_with (first | (at_make; refine wpList_make_full wr rfl _ _ 22 rfl w.heap.size 5 i0 (.int .u8 0) 1 Tryd.underlying22 hi hz0 hz1 .i64 .i64 _ _ (m) rfl rfl (by omega) (by omega) (by rw [hz2]; omega) (by unfold maxLen; omega) HB.out.size ?_; intro w2 hown hgrow; obtain ⟨B1, BB, CC, GE⟩ := made_facts HB.out HR.out hown hgrow; clear hown hgrow) | (with_reducible refine wpList_copy_splice rfl (.tmp 46) (.tmp 47) 22 22 rfl 5 Tryd.underlying22 hsz _ _ _ _ _ _ rfl rfl wr.heap.size m _ 5 B1.out (([] : List Int).map (Value.int .u8)) (by simp) (fun hp => absurd hp (by simp)) (by simp) (ints_one _ _) w.heap.size w BB.out GE.out ?_; intro w3 hsp hb3; have HSP := Aside0.mk hsp.out; have HB3 := Aside0.mk hb3; clear hsp hb3) | fail)
              all_goals
                go_ret
                have hfin := HSP.out
                have hz := splice_zeros .u8 m []
                simp only [List.length_nil, Nat.add_zero] at hz
                rw [hz] at hfin
                have hu : unB (bytesOf s) = List.replicate m 0 ++ [] := by unfold unB; rw [if_pos HV.out, HO.out, HTE.out]
                refine ⟨_, _, _, rfl, Nat.le_refl _, ?_, HB3.out⟩
                rw [hu]
                have := C_of_block hfin (by simp; omega)
                simpa using this
            · have HT1 := Aside0.mk hT0
              have hTne : ¬ T = [] := fun h => by rw [h] at hT0; simp at hT0
              go_wp2_with (first | (at_make; refine wpList_make_full wr rfl _ _ 22 rfl w.heap.size 5 i0 (.int .u8 0) 1 Tryd.underlying22 hi hz0 hz1 .i64 .i64 _ _ (m + T.length) rfl rfl (by omega) (by omega) (by rw [hz2]; omega) (by unfold maxLen; omega) HB.out.size ?_; intro w2 hown hgrow; obtain ⟨B1, BB, CC, GE⟩ := made_facts HB.out HR.out hown hgrow; clear hown hgrow) | (with_reducible refine wpList_copy_splice rfl (.tmp 46) (.tmp 47) 22 22 rfl 5 Tryd.underlying22 hsz _ _ _ _ _ _ rfl rfl wr.heap.size m _ 5 B1.out (T.map (Value.int .u8)) (by simp) (fun hp => ⟨rfl, C_cells CC.out HT1.out⟩) (by simp) (ints_one _ _) w.heap.size w BB.out GE.out ?_; intro w3 hsp hb3; have HSP := Aside0.mk hsp.out; have HB3 := Aside0.mk hb3; clear hsp hb3) | fail)
              all_goals
                go_ret
                have hfin := HSP.out
                rw [splice_zeros] at hfin
                have hu : unB (bytesOf s) = List.replicate m 0 ++ T := by unfold unB; rw [if_pos HV.out, HO.out, HTE.out]
                refine ⟨_, _, _, rfl, Nat.le_refl _, ?_, HB3.out⟩
                rw [hu]
                have := C_of_block hfin (by simp; omega)
                simpa using this
        · obtain rfl : m = s.size := by omega
          have HO : Aside0 (ones (bytesOf s) = s.size) := ⟨by
            have h := HM.out
            rw [List.take_of_length_le (by have := HBL.out; omega)] at h
            rw [h]; simp [ones]⟩
          rcases Nat.eq_zero_or_pos T.length with hT0 | hT0
          · have hTn : T = [] := List.eq_nil_of_length_eq_zero hT0
            subst hTn
            clear hT0
            go_wp2_with (first | (at_make; refine wpList_make_full wr rfl _ _ 22 rfl w.heap.size 5 i0 (.int .u8 0) 1 Tryd.underlying22 hi hz0 hz1 .i64 .i64 _ _ (s.size) rfl rfl (by omega) (by omega) (by rw [hz2]; omega) (by unfold maxLen; omega) HB.out.size ?_; intro w2 hown hgrow; obtain ⟨B1, BB, CC, GE⟩ := made_facts HB.out HR.out hown hgrow; clear hown hgrow) | (with_reducible refine wpList_copy_splice rfl (.tmp 46) (.tmp 47) 22 22 rfl 5 Tryd.underlying22 hsz _ _ _ _ _ _ rfl rfl wr.heap.size s.size _ 5 B1.out (([] : List Int).map (Value.int .u8)) (by simp) (fun hp => absurd hp (by simp)) (by simp) (ints_one _ _) w.heap.size w BB.out GE.out ?_; intro w3 hsp hb3; have HSP := Aside0.mk hsp.out; have HB3 := Aside0.mk hb3; clear hsp hb3) | fail)
            all_goals
              go_ret
              have hfin := HSP.out
              have hz := splice_zeros .u8 s.size []
              simp only [List.length_nil, Nat.add_zero] at hz
              rw [hz] at hfin
              have hu : unB (bytesOf s) = List.replicate s.size 0 ++ [] := by unfold unB; rw [if_pos HV.out, HO.out, HTE.out]
              refine ⟨_, _, _, rfl, Nat.le_refl _, ?_, HB3.out⟩
              rw [hu]
              have := C_of_block hfin (by simp; omega)
              simpa using this
          · have HT1 := Aside0.mk hT0
            have hTne : ¬ T = [] := fun h => by rw [h] at hT0; simp at hT0
            go_wp2_with (first | (at_make; refine wpList_make_full wr rfl _ _ 22 rfl w.heap.size 5 i0 (.int .u8 0) 1 Tryd.underlying22 hi hz0 hz1 .i64 .i64 _ _ (s.size + T.length) rfl rfl (by omega) (by omega) (by rw [hz2]; omega) (by unfold maxLen; omega) HB.out.size ?_; intro w2 hown hgrow; obtain ⟨B1, BB, CC, GE⟩ := made_facts HB.out HR.out hown hgrow; clear hown hgrow) | (with_reducible refine wpList_copy_splice rfl (.tmp 46) (.tmp 47) 22 22 rfl 5 Tryd.underlying22 hsz _ _ _ _ _ _ rfl rfl wr.heap.size s.size _ 5 B1.out (T.map (Value.int .u8)) (by simp) (fun hp => ⟨rfl, C_cells CC.out HT1.out⟩) (by simp) (ints_one _ _) w.heap.size w BB.out GE.out ?_; intro w3 hsp hb3; have HSP := Aside0.mk hsp.out; have HB3 := Aside0.mk hb3; clear hsp hb3) | fail)
            all_goals
              go_ret
              have hfin := HSP.out
              rw [splice_zeros] at hfin
              have hu : unB (bytesOf s) = List.replicate s.size 0 ++ T := by unfold unB; rw [if_pos HV.out, HO.out, HTE.out]
              refine ⟨_, _, _, rfl, Nat.le_refl _, ?_, HB3.out⟩
              rw [hu]
              have := C_of_block hfin (by simp; omega)
              simpa using this
end Go.Proofs.YtpgfhcobfaceeaaDoor.PFnUnBase58
