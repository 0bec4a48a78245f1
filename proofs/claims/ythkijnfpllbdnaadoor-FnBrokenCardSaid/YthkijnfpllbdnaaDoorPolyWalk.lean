/-
  The walks of bech32Polymod and of spec.remainder.
-/
import Derived.Test.YthkijnfpllbdnaaDoorPolyPure
import Derived.Test.YthkijnfpllbdnaaDoorHand
import Derived.Test.YthkijnfpllbdnaaDoorPieces
namespace Go.Proofs.YthkijnfpllbdnaaDoor.Bec
open Go.RowKit Go.Proofs.YthkijnfpllbdnaaDoor.Hand Go.Proofs.YthkijnfpllbdnaaDoorW.PrintWords Go.Proofs.YthkijnfpllbdnaaDoorW.PrintLast Go.Proofs.YthkijnfpllbdnaaDoorW.PrintMore

def genAt (w : World) : Prop := ∀ i, i < 5 → w.cell? ⟨0, i, none⟩ = some (.int .i64 (gen i))
theorem genAt.below {w W : World} {B : Nat} (h : genAt w) (hb : Below B w W) (hB : 0 < B) : genAt W := fun i hi => (hb.cell (p := ⟨0, i, none⟩) hB).trans (h i hi)
def nums64 (vs : List Nat) : List Int := vs.map (fun v : Nat => (v : Int))
theorem nums64_length (vs : List Nat) : (nums64 vs).length = vs.length := by simp [nums64]
theorem rd_nums (vs : List Nat) (i : Nat) (h : i < vs.length) : rd (nums64 vs) (i : Int) = (vs.getD i 0 : Nat) := by
  simp [rd, nums64, List.getD_eq_getElem?_getD, List.getElem?_eq_getElem h]
theorem poly_take (c : Nat) (vs : List Nat) (i : Nat) (h : i < vs.length) : poly c (vs.take (i + 1)) = pstep (poly c (vs.take i)) (vs.getD i 0) := by
  rw [List.take_succ_eq_append_getElem h, poly_append, List.getD_eq_getElem?_getD, List.getElem?_eq_getElem h]
  rfl
theorem and_mask (c : Nat) (hc : c < 1073741824) : bits .and .i64 (c : Int) 33554431 = ((c % 33554432 : Nat) : Int) := by
  have h := i64_and c 33554431 hc (by decide)
  rw [show c &&& 33554431 = c % 33554432 from Nat.and_two_pow_sub_one_eq_mod c 25] at h
  exact h
theorem and_one (b : Nat) (hb : b < 1073741824) : bits .and .i64 (b : Int) 1 = ((b % 2 : Nat) : Int) := by
  have h := i64_and b 1 hb (by decide)
  rw [show b &&& 1 = b % 2 from Nat.and_two_pow_sub_one_eq_mod b 1] at h
  exact h

theorem bit_is (b j : Nat) (hb : b < 32) : bits .and .i64 ((b : Int) / 2 ^ j) 1 = ((b / 2 ^ j % 2 : Nat) : Int) := by
  have e : (b : Int) / 2 ^ j = ((b / 2 ^ j : Nat) : Int) := by simp
  rw [e]
  exact and_one _ (Nat.lt_of_le_of_lt (Nat.div_le_self _ _) (by omega))

set_option maxHeartbeats 4000000 in
theorem polymod_calls (A : Option Addr) (cA : Nat) (vs : List Nat) (w : World) (hG : genAt w) (h0 : 0 < w.heap.size) (hC : Kd.C (Kd.int .i64) w A vs.length (nums64 vs)) (hv : ∀ v ∈ vs, v < 1073741824) :
    Calls Tryd.prog 37 #[.slice A vs.length cA] w fun e w' => e = .returned (.int .i64 (poly 1 vs : Nat)) ∧ Below w.heap.size w w' := by
  have hml : vs.length ≤ 9223372036854775807 := hC.2.1
  have HG := Aside0.mk hG
  have HZ := Aside0.mk h0
  have HC := Aside0.mk hC
  have HV := Aside0.mk hv
  clear hG hC hv h0
  go_enter Tryd.func37, Tryd.ntmps37
  go_wp2
  go_loopw [3, 10] (fun v3 v10 wr => ∃ i : Nat, v10 = .int .i64 i ∧ i ≤ vs.length ∧ v3 = .int .i64 (poly 1 (vs.take i) : Nat) ∧ Aside0 (Below w.heap.size w wr)) (fun _ v10 _ => vs.length - (intOf v10).toNat)
  case atStart => exact ⟨0, rfl, Nat.zero_le _, rfl, ⟨Below.refl _ _⟩⟩
  case round =>
    obtain ⟨i, rfl, hi, rfl, HB⟩ := hrel
    by_cases hlt : i < vs.length
    · obtain ⟨ad, rfl, _⟩ := C_cells HC.out (by omega)
      have kd := Kd.foot_int (Kd.C_below HC.out HB.out) (i : Int) (by omega) (by omega)
      rw [rd_nums vs i hlt, Int.toNat_natCast] at kd
      have HP := Aside0.mk (poly_take 1 vs i hlt)
      have hc0 : poly 1 (vs.take i) < 1073741824 := poly_lt _ 1 (by decide) (fun v hv => HV.out v (List.mem_of_mem_take hv))
      have hv0 : vs.getD i 0 < 1073741824 := HV.out _ (by rw [List.getD_eq_getElem?_getD, List.getElem?_eq_getElem hlt]; exact List.getElem_mem hlt)
      generalize poly 1 (vs.take i) = c at HP hc0 ⊢
      generalize vs.getD i 0 = v at HP hv0 kd
      obtain ⟨b, hb⟩ : ∃ b, b = c / 33554432 := ⟨_, rfl⟩
      obtain ⟨m, hm⟩ : ∃ m, m = c % 33554432 := ⟨_, rfl⟩
      obtain ⟨x, hx⟩ : ∃ x, x = m * 32 ^^^ v := ⟨_, rfl⟩
      have hb2 : (c : Int) / 33554432 = b := by omega
      have hb3 : b < 32 := by omega
      have hm2 : bits .and .i64 (c : Int) 33554431 = m := by rw [and_mask c hc0, hm]
      have hm3 : m < 33554432 := by omega
      have hx2 : bits .xor .i64 ((m : Int) * 32) (v : Int) = x := by
        have h := i64_xor (m * 32) v (by omega) hv0
        rw [hx, ← h]
        rfl
      have hx3 : x < 1073741824 := by rw [hx]; exact Nat.xor_lt_two_pow (n := 30) (by omega) hv0
      have HQ : Aside0 (taps b x 5 = pstep c v) := ⟨by rw [hx, hm, hb]; rfl⟩
      have HGr := Aside0.mk (genAt.below HG.out HB.out HZ.out)
      clear hb hm hx
      go_wp2
      go_loopw [3, 7] (fun v3 v7 wq => ∃ j : Nat, v7 = .int .i64 j ∧ j ≤ 5 ∧ v3 = .int .i64 (taps b x j : Nat) ∧ wq = wr) (fun _ v7 _ => 5 - (intOf v7).toNat)
      case atStart => exact ⟨0, rfl, by omega, rfl, rfl⟩
      case round =>
        obtain ⟨j, rfl, hj, rfl, rfl⟩ := hrel
        by_cases hj5 : j < 5
        · have hcell := HGr.out j hj5
          have hxor := i64_xor (taps b x j) (gen j) (taps_lt hx3 j) (gen_lt j)
          by_cases hbit : b / 2 ^ j % 2 = 1
          · have hbb : (bits .and .i64 ((b : Int) / 2 ^ j) 1 == 1) = true := by rw [bit_is b j hb3, hbit]; rfl
            have HT : Aside0 (taps b x (j + 1) = taps b x j ^^^ gen j) := ⟨by rw [taps, if_pos hbit]⟩
            clear hbit
            go_wp2
            go_roundw
            case rel => exact ⟨j + 1, by go_num, by omega, by rw [HT.out, ← hxor], trivial⟩
            case measure => simp [intOf]; omega
          · have hbb : (bits .and .i64 ((b : Int) / 2 ^ j) 1 == 1) = false := by
              rw [bit_is b j hb3, show b / 2 ^ j % 2 = 0 by have := Nat.mod_two_eq_zero_or_one (b / 2 ^ j); omega]; rfl
            have HT : Aside0 (taps b x (j + 1) = taps b x j) := ⟨by rw [taps, if_neg hbit]⟩
            clear hbit
            go_wp2
            go_roundw
            case rel => exact ⟨j + 1, by go_num, by omega, by rw [HT.out], trivial⟩
            case measure => simp [intOf]; omega
        · obtain rfl : j = 5 := by omega
          go_wp2
          go_roundw
          case rel => exact ⟨i + 1, by go_num, by omega, by rw [HP.out, ← HQ.out], HB⟩
          case measure => simp [intOf]; omega
    · obtain rfl : i = vs.length := by omega
      rw [List.take_length]
      go_wp2
      go_ret
      exact ⟨rfl, HB.out⟩
end Go.Proofs.YthkijnfpllbdnaaDoor.Bec
