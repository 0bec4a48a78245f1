/-
  The walk of spec.remainder.
-/
import Derived.Test.YthkijnfpllbdnaaDoorPolyWalk
namespace Go.Proofs.YthkijnfpllbdnaaDoor.Bec
open Go.RowKit Go.Proofs.YthkijnfpllbdnaaDoor.Hand Go.Proofs.YthkijnfpllbdnaaDoorW.PrintWords Go.Proofs.YthkijnfpllbdnaaDoorW.PrintLast Go.Proofs.YthkijnfpllbdnaaDoorW.PrintMore

abbrev gensO : Obj := .cells #[.int .u32 996825010, .int .u32 642813549, .int .u32 513874426, .int .u32 1027748829, .int .u32 705979059] 45 (0, 0)
theorem bit_u32 (b j : Nat) (hb : b < 32) : bits .and .u32 ((b : Int) / 2 ^ j) 1 = ((b / 2 ^ j % 2 : Nat) : Int) := by
  have e : (b : Int) / 2 ^ j = ((b / 2 ^ j : Nat) : Int) := by simp
  have h := u32_and_nat (b / 2 ^ j) 1 (Nat.lt_of_le_of_lt (Nat.div_le_self _ _) (by omega)) (by decide)
  rw [show b / 2 ^ j &&& 1 = b / 2 ^ j % 2 from Nat.and_two_pow_sub_one_eq_mod _ 1] at h
  rw [e]
  exact h

set_option maxHeartbeats 4000000 in
theorem remainder_calls (A : Option Addr) (cA : Nat) (vs : List Nat) (w : World) (hC : Kd.C (Kd.int .u8) w A vs.length (nums64 vs)) (hv : ∀ v ∈ vs, v < 256) :
    Calls Tryd.prog 15 #[.slice A vs.length cA] w fun e w' => e = .returned (.int .u32 (poly 1 vs : Nat)) ∧ Below w.heap.size w w' := by
  have hml : vs.length ≤ 9223372036854775807 := hC.2.1
  have HC := Aside0.mk hC
  have HV := Aside0.mk hv
  clear hC hv
  go_enter Tryd.func15, Tryd.ntmps15
  have HB0 := Aside0.mk (below_alloc (Below.refl w.heap.size w) gensO)
  have HG0 : Aside0 ((w.alloc gensO).heap[w.heap.size]? = some gensO) := ⟨by show (w.heap.push _)[w.heap.size]? = _; simp⟩
  go_wp2
  change Code.wp _ _ _ _ (w.alloc gensO)
  revert HB0 HG0
  obtain ⟨g, hg⟩ : ∃ g, g = w.heap.size := ⟨_, rfl⟩
  have HGE := Aside0.mk hg
  rw [← hg]
  generalize w.alloc gensO = W
  intro HB0 HG0
  have HC1 : Aside0 (Kd.C (Kd.int .u8) W A vs.length (nums64 vs)) := ⟨Kd.C_below HC.out (by rw [← hg]; exact HB0.out)⟩
  have HGr : Aside0 (∀ i, i < 5 → W.cell? ⟨g, i, none⟩ = some (.int .u32 (gen i))) := ⟨fun i hi => by
    rw [blk_cell HG0.out]
    match i, hi with
    | 0, _ => rfl
    | 1, _ => rfl
    | 2, _ => rfl
    | 3, _ => rfl
    | 4, _ => rfl⟩
  clear hg
  go_loopw [4, 12] (fun v4 v12 wr => ∃ i : Nat, v12 = .int .i64 i ∧ i ≤ vs.length ∧ v4 = .int .u32 (poly 1 (vs.take i) : Nat) ∧ wr = W) (fun _ v12 _ => vs.length - (intOf v12).toNat)
  case atStart => exact ⟨0, rfl, Nat.zero_le _, rfl, rfl⟩
  case round =>
    obtain ⟨i, rfl, hi, rfl, rfl⟩ := hrel
    by_cases hlt : i < vs.length
    · obtain ⟨ad, rfl, _⟩ := C_cells HC1.out (by omega)
      have kd := Kd.foot_int HC1.out (i : Int) (by omega) (by omega)
      rw [rd_nums vs i hlt, Int.toNat_natCast] at kd
      have HP := Aside0.mk (poly_take 1 vs i hlt)
      have hc0 : poly 1 (vs.take i) < 1073741824 := poly_lt _ 1 (by decide) (fun v hv => by have := HV.out v (List.mem_of_mem_take hv); omega)
      have hv0 : vs.getD i 0 < 256 := HV.out _ (by rw [List.getD_eq_getElem?_getD, List.getElem?_eq_getElem hlt]; exact List.getElem_mem hlt)
      generalize poly 1 (vs.take i) = c at HP hc0 ⊢
      generalize vs.getD i 0 = v at HP hv0 kd
      obtain ⟨b, hb⟩ : ∃ b, b = c / 33554432 := ⟨_, rfl⟩
      obtain ⟨m, hm⟩ : ∃ m, m = c % 33554432 := ⟨_, rfl⟩
      obtain ⟨x, hx⟩ : ∃ x, x = m * 32 ^^^ v := ⟨_, rfl⟩
      have hb2 : (c : Int) / 33554432 = b := by omega
      have hb3 : b < 32 := by omega
      have hm2 : bits .and .u32 (c : Int) 33554431 = m := by
        have h := u32_and_nat c 33554431 (by omega) (by decide)
        rw [show c &&& 33554431 = c % 33554432 from Nat.and_two_pow_sub_one_eq_mod c 25] at h
        rw [hm]; exact h
      have hm3 : m < 33554432 := by omega
      have hm4 : (m : Int) * 32 % 4294967296 = (m : Int) * 32 := by omega
      have hv2 : (v : Int) % 4294967296 = v := by omega
      have hx2 : bits .xor .u32 ((m : Int) * 32) (v : Int) = x := by
        have h := u32_xor_nat (m * 32) v (by omega) (by omega)
        rw [hx, ← h]
        rfl
      have hx3 : x < 1073741824 := by rw [hx]; exact Nat.xor_lt_two_pow (n := 30) (by omega) (by omega)
      have HQ : Aside0 (taps b x 5 = pstep c v) := ⟨by rw [hx, hm, hb]; rfl⟩
      clear hb hm hx
      go_wp2
      go_loopw [4, 8] (fun v4 v8 wq => ∃ j : Nat, v8 = .int .i64 j ∧ j ≤ 5 ∧ v4 = .int .u32 (taps b x j : Nat) ∧ wq = wr) (fun _ v8 _ => 5 - (intOf v8).toNat)
      case atStart => exact ⟨0, rfl, by omega, rfl, rfl⟩
      case round =>
        obtain ⟨j, rfl, hj, rfl, rfl⟩ := hrel
        by_cases hj5 : j < 5
        · have hcell := HGr.out j hj5
          have hxor := u32_xor_nat (taps b x j) (gen j) (by have := taps_lt (b := b) hx3 j; omega) (by have := gen_lt j; omega)
          by_cases hbit : b / 2 ^ j % 2 = 1
          · have hbb : (bits .and .u32 ((b : Int) / 2 ^ j) 1 == 1) = true := by rw [bit_u32 b j hb3, hbit]; rfl
            have HT : Aside0 (taps b x (j + 1) = taps b x j ^^^ gen j) := ⟨by rw [taps, if_pos hbit]⟩
            clear hbit
            go_wp2
            go_roundw
            case rel => exact ⟨j + 1, by go_num, by omega, by rw [HT.out, ← hxor], trivial⟩
            case measure => simp [intOf]; omega
          · have hbb : (bits .and .u32 ((b : Int) / 2 ^ j) 1 == 1) = false := by
              rw [bit_u32 b j hb3, show b / 2 ^ j % 2 = 0 by have := Nat.mod_two_eq_zero_or_one (b / 2 ^ j); omega]; rfl
            have HT : Aside0 (taps b x (j + 1) = taps b x j) := ⟨by rw [taps, if_neg hbit]⟩
            clear hbit
            go_wp2
            go_roundw
            case rel => exact ⟨j + 1, by go_num, by omega, by rw [HT.out], trivial⟩
            case measure => simp [intOf]; omega
        · obtain rfl : j = 5 := by omega
          go_wp2
          go_roundw
          case rel => exact ⟨i + 1, by go_num, by omega, by rw [HP.out, ← HQ.out], trivial⟩
          case measure => simp [intOf]; omega
    · obtain rfl : i = vs.length := by omega
      rw [List.take_length]
      go_wp2
      go_ret
      exact ⟨rfl, by have h := HB0.out; rw [HGE.out] at h; exact h⟩
end Go.Proofs.YthkijnfpllbdnaaDoor.Bec
