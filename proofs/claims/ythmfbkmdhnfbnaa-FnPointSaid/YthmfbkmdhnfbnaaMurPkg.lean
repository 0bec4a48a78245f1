/-
  The walk of bloom.MurmurHash3.
-/
import Derived.Test.YthmfbkmdhnfbnaaMurSpec
import Derived.Shelf.Bin.ReadersZ
import Derived.Ground.MnProg
namespace Go.Proofs.Ythmfbkmdhnfbnaa.PFnMurmur
open Go.Shelf Go.RowKit Go.Proofs.Ythmfbkmdhnfbnaa.Hand Go.Proofs.YthmfbkmdhnfbnaaW.PrintWords Go.Proofs.YthmfbkmdhnfbnaaW.PrintLast Go.Proofs.YthmfbkmdhnfbnaaW.PrintMore Mur

def lays30_ren : Go.Shelf.Ren := ⟨fun | 30 => 35 | n => n, fun | 25 => 68 | 22 => 23 | 29 => 22 | 0 => 0 | 5 => 5 | 45 => 50 | n => n, fun | n => n⟩
theorem lays30 : Go.Proofs.LaysBin.n30 Try.prog lays30_ren where
  mixed := by kernel_rfl
  f30 := Try.func35.trans (congrArg some (by kernel_rfl))
  t0 := Try.underlying0
  a0 := Try.isAgg0
  z0 := Try.sizeOf0
  v0 := Try.zeroValue0
  i0 := by kernel_rfl
  t5 := Try.underlying5
  a5 := Try.isAgg5
  z5 := Try.sizeOf5
  v5 := Try.zeroValue5
  i5 := by kernel_rfl
  t22 := Try.underlying23
  a22 := Try.isAgg23
  z22 := Try.sizeOf23
  v22 := Try.zeroValue23
  i22 := by kernel_rfl
  t25 := Try.underlying68
  a25 := Try.isAgg68
  z25 := Try.sizeOf68
  v25 := Try.zeroValue68
  i25 := by kernel_rfl
  t29 := Try.underlying22
  a29 := Try.isAgg22
  z29 := Try.sizeOf22
  v29 := Try.zeroValue22
  i29 := by kernel_rfl
  t45 := Try.underlying50
  a45 := Try.isAgg50
  z45 := Try.sizeOf50
  v45 := Try.zeroValue50
  i45 := by kernel_rfl

theorem wf_u8 {T : List Int} (h : ∀ x ∈ T, 0 ≤ x ∧ x < 256) : ∀ z ∈ T, (Lit.int .u8 z).wf = true := fun z hz => by
  have := h z hz
  simp [Lit.wf, IntKind.min, IntKind.max, IntKind.signed, IntKind.bits]
  omega

theorem word_calls (ad : Addr) (n c : Nat) (x0 x1 x2 x3 : Int) (T : List Int) (w w1 : World) (hn : n = (x0 :: x1 :: x2 :: x3 :: T).length) (hC : Kd.C (Kd.int .u8) w (some ad) n (x0 :: x1 :: x2 :: x3 :: T)) (hr : ∀ x ∈ x0 :: x1 :: x2 :: x3 :: T, 0 ≤ x ∧ x < 256) (hb : Below w.heap.size w w1) :
    Calls Try.prog 35 #[.agg #[], .slice (some ad) n c] w1 fun e w' => e = .returned (.int .u32 (Lib.leZ [x0, x1, x2, x3])) ∧ Below w1.heap.size w1 w' := by
  subst hn
  obtain ⟨ad', e, hcell⟩ := C_cells (Kd.C_below hC hb) (by simp)
  injection e with e
  subst e
  exact Any.binary_LE_Uint32_z lays30 ad _ c (x0 :: x1 :: x2 :: x3 :: T) w1 (by simp) (by simp) (fun i hi => cell_at hcell i hi) (wf_u8 hr)

theorem and_three (n : Nat) (h : n ≤ 100) : Go.bits .and .u32 (n : Int) 3 = (n : Int) % 4 := by
  have H : ∀ m : Fin 101, Go.bits .and .u32 (m.val : Int) 3 = (m.val : Int) % 4 := by decide +kernel
  exact H ⟨n, by omega⟩

theorem tail_one {x0 : Int} (h0 : 0 ≤ x0 ∧ x0 < 256) : Go.bits .xor .u32 0 (x0 % 4294967296) = Lib.leZ [x0] := by
  rw [show x0 % 4294967296 = x0 by omega, xor_join 24 0 x0 (by omega) (by omega) (by omega) (by omega) (by omega) (by omega)]
  simp [Lib.leZ]
theorem tail_two {x0 x1 : Int} (h0 : 0 ≤ x0 ∧ x0 < 256) (h1 : 0 ≤ x1 ∧ x1 < 256) : Go.bits .xor .u32 (Go.bits .xor .u32 0 (x1 % 4294967296 * 256 % 4294967296)) (x0 % 4294967296) = Lib.leZ [x0, x1] := by
  rw [show x0 % 4294967296 = x0 by omega, show x1 % 4294967296 * 256 % 4294967296 = x1 * 256 by omega, xor_join 24 0 (x1 * 256) (by omega) (by omega) (by omega) (by omega) (by omega) (by omega),
    xor_join 8 _ x0 (by omega) (by omega) (by omega) (by omega) (by omega) (by omega)]
  simp [Lib.leZ]
  omega
theorem tail_three {x0 x1 x2 : Int} (h0 : 0 ≤ x0 ∧ x0 < 256) (h1 : 0 ≤ x1 ∧ x1 < 256) (h2 : 0 ≤ x2 ∧ x2 < 256) :
    Go.bits .xor .u32 (Go.bits .xor .u32 (Go.bits .xor .u32 0 (x2 % 4294967296 * 65536 % 4294967296)) (x1 % 4294967296 * 256 % 4294967296)) (x0 % 4294967296) = Lib.leZ [x0, x1, x2] := by
  rw [show x0 % 4294967296 = x0 by omega, show x1 % 4294967296 * 256 % 4294967296 = x1 * 256 by omega, show x2 % 4294967296 * 65536 % 4294967296 = x2 * 65536 by omega,
    xor_join 24 0 (x2 * 65536) (by omega) (by omega) (by omega) (by omega) (by omega) (by omega), xor_join 16 _ (x1 * 256) (by omega) (by omega) (by omega) (by omega) (by omega) (by omega),
    xor_join 8 _ x0 (by omega) (by omega) (by omega) (by omega) (by omega) (by omega)]
  simp [Lib.leZ]
  omega

set_option maxHeartbeats 2000000 in
theorem pkg_calls (seed : Int) (A : Option Addr) (c : Nat) (b : List Int) (w : World) (hC : Kd.C (Kd.int .u8) w A b.length b) (hc : b.length ≤ c) (hb : b.length ≤ 100) (hr : ∀ x ∈ b, 0 ≤ x ∧ x < 256) :
    Calls Try.prog 23 #[.int .u32 seed, .slice A b.length c] w fun e w' => e = .returned (.int .u32 (mur seed b)) ∧ Below w.heap.size w w' := by
  have HC := Aside0.mk hC
  have HR := Aside0.mk hr
  clear hC hr
  obtain ⟨i0, hi, hz0, hz1, hz2⟩ := info_parts info5
  obtain ⟨q, r, hqr, hr4⟩ : ∃ q r : Nat, b.length = 4 * q + r ∧ r < 4 := ⟨b.length / 4, b.length % 4, by omega, by omega⟩
  have hq : (b.length : Int) / 4 = (q : Int) := by omega
  have hq2 : q ≤ 25 := by omega
  have hand : Go.bits .and .u32 (b.length : Int) 3 = (r : Int) := by rw [and_three _ hb]; omega
  have HQR := Aside0.mk hqr
  clear hqr
  go_enter Try.func23, Try.ntmps23
  go_wp2
  go_loopw [6, 9] (fun v6 v9 wr => ∃ (h : Int) (n : Nat), v6 = .int .u32 h ∧ v9 = .int .u32 n ∧ n ≤ q ∧ Aside0 (body h (b.drop (4 * n)) = body seed b) ∧ Aside0 (Below w.heap.size w wr)) (fun _ v9 _ => q - (intOf v9).toNat)
  case atStart => exact ⟨seed, 0, rfl, rfl, Nat.zero_le _, ⟨rfl⟩, ⟨Below.refl _ _⟩⟩
  case round =>
    obtain ⟨h, n, rfl, rfl, hn, HB, HW⟩ := hrel
    by_cases hlt : n < q
    · obtain ⟨T, hT⟩ : ∃ T, T = b.drop (4 * n) := ⟨_, rfl⟩
      obtain ⟨m, hm⟩ : ∃ m, m = b.length - 4 * n := ⟨_, rfl⟩
      have hTm : m = T.length := by rw [hT, hm, List.length_drop]
      have hm4 : 4 ≤ m := by have := HQR.out; omega
      obtain ⟨ad0, rfl, _⟩ := C_cells HC.out (by have := HQR.out; omega)
      have hC2 := Kd.C_drop (m := 4 * n) (c := c) (Kd.C_below HC.out HW.out) (by have := HQR.out; omega) hc
      rw [← hT, ← hTm, if_neg (show ¬ c = 4 * n by have := HQR.out; omega)] at hC2
      obtain ⟨ad, had⟩ : ∃ ad : Addr, ad = ad0.add (4 * n * (Kd.int .u8).sz) := ⟨_, rfl⟩
      rw [Option.map_some, ← had] at hC2
      have hcut : ∀ W : World, (Instr.slice 23 (.slice (some ad0) b.length c) (some (.int .u32 ((n : Int) * 4))) none none).run Try.prog W = .ok (.slice (some ad) m (c - 4 * n)) W := by
        intro W
        have e1 := cut_from (P := Try.prog) 23 5 .u32 Try.underlying23 hi 1 hz1 (some ad0) b.length c ((n : Int) * 4) (by omega) (by have := HQR.out; omega) W
        have e2 : ((n : Int) * 4).toNat = 4 * n := by omega
        rw [e2, if_neg (show ¬ c = 4 * n by have := HQR.out; omega), Option.map_some, ← hm] at e1
        rw [e1, had]
        rfl
      have hcut2 : ∀ W : World, (Instr.slice 23 (.slice (some ad0) b.length c) (some (.int .u32 ((n : Int) * 4 % 4294967296))) none none).run Try.prog W = .ok (.slice (some ad) m (c - 4 * n)) W := by
        rw [show (n : Int) * 4 % 4294967296 = (n : Int) * 4 by omega]
        exact hcut
      obtain ⟨x0, x1, x2, x3, T', hTT⟩ : ∃ x0 x1 x2 x3 T', T = x0 :: x1 :: x2 :: x3 :: T' := by
        match T, hTm with
        | x0 :: x1 :: x2 :: x3 :: T', _ => exact ⟨x0, x1, x2, x3, T', rfl⟩
        | [], h => simp at h; omega
        | [_], h => simp at h; omega
        | [_, _], h => simp at h; omega
        | [_, _, _], h => simp at h; omega
      have hT' : T' = b.drop (4 * (n + 1)) := by
        have e := congrArg (List.drop 4) hT
        rw [List.drop_drop, hTT] at e
        exact e
      have hrT : ∀ x ∈ x0 :: x1 :: x2 :: x3 :: T', 0 ≤ x ∧ x < 256 := fun x hx => HR.out x (by rw [← hTT, hT] at hx; exact List.mem_of_mem_drop hx)
      rw [hTT] at hC2 hTm
      obtain ⟨k, hk⟩ : ∃ k, k = Lib.leZ [x0, x1, x2, x3] := ⟨_, rfl⟩
      have P := Lib.hid (fun (w1 : World) (hw : Below wr.heap.size wr w1) => word_calls ad m (c - 4 * n) x0 x1 x2 x3 T' wr w1 hTm hC2 hrT hw)
      rw [← hk] at P
      have HB2 : Aside0 (body (Mur.step h k) (b.drop (4 * (n + 1))) = body seed b) := ⟨by rw [← HB.out, ← hT, hTT, body_four, hk, hT']⟩
      clear hm hT hTm hC2 had hTT hT' hrT hk HB
      have hs : IntKind.u32.wrap ((n : Int) * 4) = (n : Int) * 4 := by rw [IntKind.wrap_u32]; omega
      have hs0 : 0 ≤ (n : Int) * 4 := by omega
      have hs1 : (n : Int) * 4 ≤ (b.length : Int) := by have := HQR.out; omega
      go_wp2
      go_region_with (go_at_call 35; refine (P.out _ (by first | exact Below.refl _ _ | exact pw_below_drewN (Below.refl _ _) _ | exact below_drew (Below.refl _ _))).mono ?_; rintro e w2 ⟨rfl, b2⟩)
      all_goals
        go_wp2
        go_roundw
        case rel => exact ⟨Mur.step h k, n + 1, rfl, by go_num, by omega, HB2, ⟨below_step HW.out (below_step (below_drew (Below.refl _ _)) b2)⟩⟩
        case measure => simp [intOf]; omega
    · obtain rfl : n = q := by omega
      obtain ⟨T, hT⟩ : ∃ T, T = b.drop (4 * n) := ⟨_, rfl⟩
      have hTl : T.length = r := by have := HQR.out; rw [hT, List.length_drop]; omega
      have hM : Aside0 (mur seed b = fin (tail h T) b.length) := ⟨by unfold mur; rw [← HB.out, ← hT, body_short h T (by omega)]⟩
      have hCT : ∀ (ad : Addr), A = some ad → ∀ j, j < r → ∀ p : Nat, p = 4 * n + j → wr.cell? ⟨ad.block, ad.off + p, none⟩ = some (.int .u8 (T.getD j 0)) := by
        intro ad hA j hj p hp
        have := HQR.out
        obtain ⟨ad', e, hcell⟩ := C_cells (Kd.C_below HC.out HW.out) (by omega)
        rw [hA] at e
        injection e with e
        subst e
        have e2 := cell_at hcell (4 * n + j) (by omega)
        have hsp : ad.spot = none := by
          have e3 := World.cell?_spot (cell_at hcell 0 (by omega))
          simpa [Addr.add] using e3
        have e4 : ad.add (4 * n + j) = ⟨ad.block, ad.off + p, none⟩ := by
          obtain ⟨b1, o1, s1⟩ := ad
          simp only at hsp
          subst hsp
          rw [hp]
          unfold Addr.add
          by_cases h0 : 4 * n + j = 0
          · rw [if_pos h0, h0]; rfl
          · rw [if_neg h0]
        rw [e4] at e2
        rw [e2, hT]
        simp [List.getD_eq_getElem?_getD, List.getElem?_drop]
      have hC0 : ∀ (ad : Addr), A = some ad → 0 < r → wr.cell? (ad.add (n * 4)) = some (.int .u8 (T.getD 0 0)) := by
        intro ad hA hj
        have := HQR.out
        obtain ⟨ad', e, hcell⟩ := C_cells (Kd.C_below HC.out HW.out) (by omega)
        rw [hA] at e
        injection e with e
        subst e
        have e2 := cell_at hcell (4 * n) (by omega)
        rw [Nat.mul_comm, e2, hT]
        simp [List.getD_eq_getElem?_getD, List.getElem?_drop]
      have hrT : ∀ x ∈ T, 0 ≤ x ∧ x < 256 := fun x hx => HR.out x (by rw [hT] at hx; exact List.mem_of_mem_drop hx)
      clear HB
      rcases (show r = 0 ∨ r = 1 ∨ r = 2 ∨ r = 3 by omega) with rfl | rfl | rfl | rfl
      · obtain rfl : T = [] := List.eq_nil_of_length_eq_zero hTl
        clear hCT hC0 hrT hT
        go_wp2
        go_ret
        refine ⟨?_, HW.out⟩
        rw [hM.out, tail, if_pos rfl]
        rfl
      · obtain ⟨ad, rfl, _⟩ := C_cells HC.out (by have := HQR.out; omega)
        obtain ⟨x0, rfl⟩ : ∃ x0, T = [x0] := by
          clear hCT hC0 hrT hM
          match T, hTl with
          | [x0], _ => exact ⟨x0, rfl⟩
        have k0 : wr.cell? (ad.add (n * 4)) = some (.int .u8 x0) := hC0 ad rfl (by omega)
        have g0 : (n : Int) * 4 < (b.length : Int) := by have := HQR.out; omega
        have hw := tail_one (hrT x0 (by simp))
        obtain ⟨K, hK⟩ : ∃ K, K = Lib.leZ [x0] := ⟨_, rfl⟩
        rw [← hK] at hw
        have HK := Aside0.mk hK
        clear hCT hC0 hrT hT hK
        go_wp2
        all_goals
          go_ret
          refine ⟨?_, HW.out⟩
          rw [hM.out, tail, if_neg (by simp), ← HK.out]
          rfl
      · obtain ⟨ad, rfl, _⟩ := C_cells HC.out (by have := HQR.out; omega)
        obtain ⟨x0, x1, rfl⟩ : ∃ x0 x1, T = [x0, x1] := by
          clear hCT hC0 hrT hM
          match T, hTl with
          | [x0, x1], _ => exact ⟨x0, x1, rfl⟩
        have k0 : wr.cell? (ad.add (n * 4)) = some (.int .u8 x0) := hC0 ad rfl (by omega)
        have g0 : (n : Int) * 4 < (b.length : Int) := by have := HQR.out; omega
        have k1 : wr.cell? { block := ad.block, off := ad.off + (n * 4 + 1) } = some (.int .u8 x1) := hCT ad rfl 1 (by omega) (n * 4 + 1) (by omega)
        have g1 : (n : Int) * 4 + 1 < (b.length : Int) := by have := HQR.out; omega
        have hw := tail_two (hrT x0 (by simp)) (hrT x1 (by simp))
        obtain ⟨K, hK⟩ : ∃ K, K = Lib.leZ [x0, x1] := ⟨_, rfl⟩
        rw [← hK] at hw
        have HK := Aside0.mk hK
        clear hCT hC0 hrT hT hK
        go_wp2
        all_goals
          go_ret
          refine ⟨?_, HW.out⟩
          rw [hM.out, tail, if_neg (by simp), ← HK.out]
          rfl
      · obtain ⟨ad, rfl, _⟩ := C_cells HC.out (by have := HQR.out; omega)
        obtain ⟨x0, x1, x2, rfl⟩ : ∃ x0 x1 x2, T = [x0, x1, x2] := by
          clear hCT hC0 hrT hM
          match T, hTl with
          | [x0, x1, x2], _ => exact ⟨x0, x1, x2, rfl⟩
        have k0 : wr.cell? (ad.add (n * 4)) = some (.int .u8 x0) := hC0 ad rfl (by omega)
        have g0 : (n : Int) * 4 < (b.length : Int) := by have := HQR.out; omega
        have k1 : wr.cell? { block := ad.block, off := ad.off + (n * 4 + 1) } = some (.int .u8 x1) := hCT ad rfl 1 (by omega) (n * 4 + 1) (by omega)
        have g1 : (n : Int) * 4 + 1 < (b.length : Int) := by have := HQR.out; omega
        have k2 : wr.cell? { block := ad.block, off := ad.off + (n * 4 + 1 + 1) } = some (.int .u8 x2) := hCT ad rfl 2 (by omega) (n * 4 + 1 + 1) (by omega)
        have g2 : (n : Int) * 4 + 2 < (b.length : Int) := by have := HQR.out; omega
        have hw := tail_three (hrT x0 (by simp)) (hrT x1 (by simp)) (hrT x2 (by simp))
        obtain ⟨K, hK⟩ : ∃ K, K = Lib.leZ [x0, x1, x2] := ⟨_, rfl⟩
        rw [← hK] at hw
        have HK := Aside0.mk hK
        clear hCT hC0 hrT hT hK
        go_wp2
        all_goals
          go_ret
          refine ⟨?_, HW.out⟩
          rw [hM.out, tail, if_neg (by simp), ← HK.out]
          rfl
end Go.Proofs.Ythmfbkmdhnfbnaa.PFnMurmur
