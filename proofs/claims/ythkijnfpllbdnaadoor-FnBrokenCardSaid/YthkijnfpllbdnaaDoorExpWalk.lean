/-
  The walk of bech32HrpExpand.
-/
import Derived.Test.YthkijnfpllbdnaaDoorRemWalk
namespace Go.Proofs.YthkijnfpllbdnaaDoor.Bec
open Go.RowKit Go.Proofs.YthkijnfpllbdnaaDoor.Hand Go.Proofs.YthkijnfpllbdnaaDoorW.PrintWords Go.Proofs.YthkijnfpllbdnaaDoorW.PrintLast Go.Proofs.YthkijnfpllbdnaaDoorW.PrintMore

theorem info3 : (Tryd.prog.info? 3).map (fun i => (i.zero, i.size, i.bytes)) = some (some (.int .i64 0), 1, 8) := by kernel_rfl
theorem info5 : (Tryd.prog.info? 5).map (fun i => (i.zero, i.size, i.bytes)) = some (some (.int .u8 0), 1, 1) := by kernel_rfl

def hiL (l : List Int) : List Nat := l.map fun c => (c / 32).toNat
def loL (l : List Int) : List Nat := l.map fun c => (c % 32).toNat
/-- A human-readable part for the checksum. -/
def expN (l : List Int) : List Nat := hiL l ++ 0 :: loL l
theorem take_snoc (s : ByteArray) (n : Nat) (h : n < s.size) : (bytesOf s).take (n + 1) = (bytesOf s).take n ++ [bt s (n : Int)] := by
  have hl := bytesOf_length s
  rw [List.take_succ_eq_append_getElem (by omega)]
  congr 2
  rw [← rd_bytesOf]
  simp [rd, List.getD_eq_getElem?_getD, List.getElem?_eq_getElem (show n < (bytesOf s).length by omega)]
theorem hi_snoc (l : List Int) (c : Int) (h0 : 0 ≤ c) : nums64 (hiL (l ++ [c])) = nums64 (hiL l) ++ [c / 32] := by
  simp [nums64, hiL]; omega
theorem lo_snoc (l m : List Int) (c : Int) : nums64 (hiL m ++ 0 :: loL (l ++ [c])) = nums64 (hiL m ++ 0 :: loL l) ++ [c % 32] := by
  simp [nums64, hiL, loL]; omega

set_option maxHeartbeats 4000000 in
theorem expand_calls (s : ByteArray) (hs : s.size ≤ 1000000) (w : World) :
    Calls Tryd.prog 36 #[.string s] w fun e w' => ∃ v, e = .returned v ∧ Kd.R (Kd.int .i64) 3 w' w.heap.size (fun _ => True) v (nums64 (expN (bytesOf s))) ∧ Below w.heap.size w w' := by
  obtain ⟨i0, hi, hz0, hz1, hz2⟩ := info_parts info3
  have hbl := bytesOf_length s
  have HBL := Aside0.mk hbl
  have HII := Aside0.mk (show Tryd.prog.info? 3 = some i0 ∧ i0.zero = some (.int .i64 0) ∧ i0.size = 1 ∧ i0.bytes = 8 from ⟨hi, hz0, hz1, hz2⟩)
  clear hbl hi hz0 hz1 hz2
  go_enter Tryd.func36, Tryd.ntmps36
  go_wp2_with (first
    | (at_make; refine wpList_make_own w rfl _ _ 27 rfl w.heap.size 3 i0 (.int .i64 0) 1 Tryd.underlying27 HII.out.1 HII.out.2.1 HII.out.2.2.1 .i64 .i64 _ (s.size * 2 + 1) rfl rfl (by simp) (by rw [HII.out.2.2.2]; omega) (by unfold maxLen; omega) (Nat.le_refl _) ?_; intro w1 hown hgrow; have HR1 := Aside0.mk (Kd.R_of_own (enc := Value.int .i64) (h1 := fun _ => rfl) (xs := []) (ok := fun _ => True) hown (fun _ _ => trivial)); have HB1 := Aside0.mk ((Below.refl w.heap.size w).grown hgrow (Nat.le_refl _) (fun _ h => by cases h)); clear hown hgrow)
    | fail)
  clear HII
  go_loopw [3, 4] (fun v3 v4 wr => ∃ i : Nat, v4 = .int .i64 i ∧ i ≤ s.size ∧ Aside0 ((Kd.int .i64).R 3 wr w.heap.size (fun _ => True) v3 (nums64 (hiL ((bytesOf s).take i)))) ∧ Aside0 (Below w.heap.size w wr)) (fun _ v4 _ => s.size - (intOf v4).toNat)
  case atStart => exact ⟨0, rfl, Nat.zero_le _, HR1, HB1⟩
  case round =>
    obtain ⟨i, rfl, hi, HR, HB⟩ := hrel
    clear HR1 HB1
    by_cases hlt : i < s.size
    · obtain ⟨c, hcE⟩ : ∃ c, c = bt s (i : Int) := ⟨_, rfl⟩
      have hrng := bt_range s (i : Int)
      rw [← hcE] at hrng
      obtain ⟨hc0, hc1⟩ := hrng
      have hx8 : ∀ h : i < s.size, ((s[i]'h).toNat : Int) = c := fun h => by rw [hcE]; simpa using bt_at s (i : Int) (by simpa using h)
      have HT : Aside0 (nums64 (hiL ((bytesOf s).take (i + 1))) = nums64 (hiL ((bytesOf s).take i)) ++ [c / 32]) := ⟨by rw [take_snoc s i hlt, ← hcE, hi_snoc _ c hc0]⟩
      have HL : Aside0 ((nums64 (hiL ((bytesOf s).take i))).length = i) := ⟨by simp [nums64, hiL, HBL.out]; omega⟩
      have hc4 : c / 32 < 9223372036854775808 := by omega
      clear hcE
      go_wp2_with (first | (at_builtin; refine Kd.R_append (Kd.int .i64) (w0 := w) w.heap.size rfl (.tmp 17) (.tmp 23) 27 3 (.int .i64 0) 8 rfl Tryd.underlying27 info3 rfl (by decide) (by decide) _ _ (c / 32) [.int .i64 (c / 32)] (fun _ => True) (fun _ => False) rfl rfl rfl (fun _ hk => hk.elim) (fun _ _ => trivial) HR.out HB.out HB.out.size (by rw [HL.out]; omega) ?_; intro v3 w3 hR3 hb3 _ _; have HR3 := Aside0.mk hR3; have HB3 := Aside0.mk hb3; clear hR3 hb3) | fail)
      go_roundw
      case rel => exact ⟨i + 1, by go_num, by omega, ⟨by rw [HT.out]; exact HR3.out⟩, HB3⟩
      case measure => simp [intOf]; omega
    · obtain rfl : i = s.size := by omega
      rw [show (bytesOf s).take s.size = bytesOf s by rw [List.take_of_length_le]; rw [HBL.out]; omega] at HR
      have HL : Aside0 ((nums64 (hiL (bytesOf s))).length = s.size) := ⟨by simp [nums64, hiL, HBL.out]⟩
      go_wp2_with (first | (at_builtin; refine Kd.R_append (Kd.int .i64) (w0 := w) w.heap.size rfl (.tmp 25) (.tmp 26) 27 3 (.int .i64 0) 8 rfl Tryd.underlying27 info3 rfl (by decide) (by decide) _ _ (0) [.int .i64 (0)] (fun _ => True) (fun _ => False) rfl rfl rfl (fun _ hk => hk.elim) (fun _ _ => trivial) HR.out HB.out HB.out.size (by rw [HL.out]; omega) ?_; intro v3 w3 hR3 hb3 _ _; have HR3 := Aside0.mk hR3; have HB3 := Aside0.mk hb3; clear hR3 hb3) | fail)
      have HR4 : Aside0 ((Kd.int .i64).R 3 w3 w.heap.size (fun _ => True) v3 (nums64 (hiL (bytesOf s) ++ 0 :: loL []))) := ⟨by
        have e : nums64 (hiL (bytesOf s) ++ 0 :: loL []) = nums64 (hiL (bytesOf s)) ++ [0] := by simp [nums64, hiL, loL]
        rw [e]; exact HR3.out⟩
      clear HR HB HR3
      go_loopw [3, 5] (fun v3 v5 wr => ∃ i : Nat, v5 = .int .i64 i ∧ i ≤ s.size ∧ Aside0 ((Kd.int .i64).R 3 wr w.heap.size (fun _ => True) v3 (nums64 (hiL (bytesOf s) ++ 0 :: loL ((bytesOf s).take i)))) ∧ Aside0 (Below w.heap.size w wr)) (fun _ v5 _ => s.size - (intOf v5).toNat)
      case atStart => exact ⟨0, rfl, Nat.zero_le _, HR4, HB3⟩
      case round =>
        obtain ⟨i, rfl, hi, HR, HB⟩ := hrel
        clear HR4 HB3 HL
        by_cases hlt : i < s.size
        · obtain ⟨c, hcE⟩ : ∃ c, c = bt s (i : Int) := ⟨_, rfl⟩
          have hrng := bt_range s (i : Int)
          rw [← hcE] at hrng
          obtain ⟨hc0, hc1⟩ := hrng
          have hx8 : ∀ h : i < s.size, ((s[i]'h).toNat : Int) = c := fun h => by rw [hcE]; simpa using bt_at s (i : Int) (by simpa using h)
          have HT : Aside0 (nums64 (hiL (bytesOf s) ++ 0 :: loL ((bytesOf s).take (i + 1))) = nums64 (hiL (bytesOf s) ++ 0 :: loL ((bytesOf s).take i)) ++ [c % 32]) := ⟨by rw [take_snoc s i hlt, ← hcE, lo_snoc]⟩
          have HL : Aside0 ((nums64 (hiL (bytesOf s) ++ 0 :: loL ((bytesOf s).take i))).length = s.size + 1 + i) := ⟨by simp [nums64, hiL, loL, HBL.out]; omega⟩
          have h31 : bits .and .u8 c 31 = c % 32 := u8_and31 c hc0 (by omega)
          clear hcE
          go_wp2_with (first | (at_builtin; refine Kd.R_append (Kd.int .i64) (w0 := w) w.heap.size rfl (.tmp 34) (.tmp 40) 27 3 (.int .i64 0) 8 rfl Tryd.underlying27 info3 rfl (by decide) (by decide) _ _ (c % 32) [.int .i64 (c % 32)] (fun _ => True) (fun _ => False) rfl rfl rfl (fun _ hk => hk.elim) (fun _ _ => trivial) HR.out HB.out HB.out.size (by rw [HL.out]; omega) ?_; intro v3 w3 hR3 hb3 _ _; have HR3 := Aside0.mk hR3; have HB3 := Aside0.mk hb3; clear hR3 hb3) | fail)
          go_roundw
          case rel => exact ⟨i + 1, by go_num, by omega, ⟨by rw [HT.out]; exact HR3.out⟩, HB3⟩
          case measure => simp [intOf]; omega
        · obtain rfl : i = s.size := by omega
          rw [show (bytesOf s).take s.size = bytesOf s by rw [List.take_of_length_le]; rw [HBL.out]; omega] at HR
          go_wp2
          go_ret
          exact ⟨_, rfl, HR.out, HB.out⟩
end Go.Proofs.YthkijnfpllbdnaaDoor.Bec
