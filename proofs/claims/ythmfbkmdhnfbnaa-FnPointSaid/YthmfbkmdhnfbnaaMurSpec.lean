/-
  The walks of spec.Murmur and of what it calls, and of impl.clone.
-/
import Derived.Test.YthmfbkmdhnfbnaaPFnMurmurx1
import Derived.Test.YthmfbkmdhnfbnaaMurPure
import Derived.Test.YthmfbkmdhnfbnaaHand
import Derived.Deep.QuietTactic
import Derived.Lib.Hide
namespace Go.Proofs.Ythmfbkmdhnfbnaa.PFnMurmur
open Go.RowKit Go.Proofs.Ythmfbkmdhnfbnaa.Hand Go.Proofs.YthmfbkmdhnfbnaaW.PrintWords Go.Proofs.YthmfbkmdhnfbnaaW.PrintLast Go.Proofs.YthmfbkmdhnfbnaaW.PrintMore Mur

theorem turn_f (x : Int) : spec_turn.f x 15 = some (rot x 32768 131072) ∧ spec_turn.f x 13 = some (rot x 8192 524288) := by
  constructor <;> (unfold spec_turn.f; rw [if_pos (by decide), if_pos (by decide)]; congr 1)

theorem info5 : (Try.prog.info? 5).map (fun i => (i.zero, i.size, i.bytes)) = some (some (.int .u8 0), 1, 1) := by kernel_rfl

theorem mix_calls (k : Int) (w : World) :
    Calls Try.prog 25 #[.int .u32 k] w fun e w' => e = .returned (.int .u32 (mix k)) ∧ Below w.heap.size w w' := by
  have P := Lib.hid (fun w => spec_turn.calls (k * 3432918353 % 4294967296) 15 _ w (turn_f _).1)
  go_enter Try.func25, Try.ntmps25
  go_wp2_with (first | (go_at_call 26; refine (P.out _).mono ?_; rintro e w' ⟨rfl, dr⟩) | fail)
  go_ret
  exact ⟨rfl, dr.below⟩

theorem clone_calls (A : Option Addr) (c : Nat) (b : List Int) (w : World) (hC : Kd.C (Kd.int .u8) w A b.length b) (hb : b.length ≤ 1000) :
    Calls Try.prog 24 #[.slice A b.length c] w fun e w' => ∃ v, e = .returned v ∧ Kd.R (Kd.int .u8) 5 w' w.heap.size (fun _ => True) v b ∧ Below w.heap.size w w' := by
  have HC := Aside0.mk hC
  have HB := Aside0.mk (Below.refl w.heap.size w)
  clear hC
  go_enter Try.func24, Try.ntmps24
  go_wp2_with (first | (refine Kd.R_append_row (h1 := fun _ => rfl) (w0 := w) (Value.int .u8) (0 : Int) w.heap.size rfl _ _ 23 5 (.int .u8 0) 1 rfl Try.underlying23 info5 rfl (by decide) (.slice none 0 0) [] b A b.length c (fun _ => True) rfl rfl (fun _ _ => trivial) (Kd.R_nil _ _ _ _ _) HC.out HB.out (Nat.le_refl _) (by simp; omega) ?_; intro v1 w1 hR hB1 _ _) | fail)
  go_ret
  exact ⟨_, rfl, by rw [List.nil_append] at hR; exact hR, hB1⟩

theorem word_or {x0 x1 x2 x3 : Int} (h0 : 0 ≤ x0 ∧ x0 < 256) (h1 : 0 ≤ x1 ∧ x1 < 256) (h2 : 0 ≤ x2 ∧ x2 < 256) (h3 : 0 ≤ x3 ∧ x3 < 256) :
    Go.bits .or .u32 (Go.bits .or .u32 (Go.bits .or .u32 (x0 % 4294967296) (x1 % 4294967296 * 256 % 4294967296)) (x2 % 4294967296 * 65536 % 4294967296)) (x3 % 4294967296 * 16777216 % 4294967296) = Lib.leZ [x0, x1, x2, x3] := by
  rw [show x0 % 4294967296 = x0 by omega, show x1 % 4294967296 * 256 % 4294967296 = x1 * 256 by omega, show x2 % 4294967296 * 65536 % 4294967296 = x2 * 65536 by omega, show x3 % 4294967296 * 16777216 % 4294967296 = x3 * 16777216 by omega]
  rw [u32_or8 x0 (x1 * 256) (by omega) (by omega) (by omega) (by omega) (by omega), u32_or16 _ (x2 * 65536) (by omega) (by omega) (by omega) (by omega) (by omega), u32_or24 _ (x3 * 16777216) (by omega) (by omega) (by omega) (by omega) (by omega)]
  simp [Lib.leZ]
  omega

theorem leZ_lt : ∀ T : List Int, (∀ x ∈ T, 0 ≤ x ∧ x < 256) → Lib.leZ T < 256 ^ T.length
  | [], _ => by simp [Lib.leZ]
  | x :: T, h => by
    have h1 := h x List.mem_cons_self
    have h2 := leZ_lt T (fun y hy => h y (List.mem_cons_of_mem _ hy))
    simp only [Lib.leZ, List.length_cons, Int.pow_succ]
    omega
theorem leZ_small {T : List Int} (h : ∀ x ∈ T, 0 ≤ x ∧ x < 256) (hl : T.length ≤ 2) : Lib.leZ T < 65536 := by
  have h2 := leZ_lt T h
  have h3 : (256 : Int) ^ T.length ≤ 65536 := by
    rcases (show T.length = 0 ∨ T.length = 1 ∨ T.length = 2 by omega) with e | e | e <;> rw [e] <;> decide
  omega
/-- One letter more, from the end. -/
theorem leZ_more {T : List Int} {m : Nat} (hm : m < T.length) : Lib.leZ (T.drop m) = Lib.leZ (T.drop (m + 1)) * 256 + T.getD m 0 := by
  rw [List.drop_eq_getElem_cons hm, Lib.leZ, List.getD_eq_getElem?_getD, List.getElem?_eq_getElem hm]
  simp only [Option.getD_some]
  omega
theorem word_more {a x : Int} (h0 : 0 ≤ a) (h1 : a < 65536) (h2 : 0 ≤ x) (h3 : x < 256) : Go.bits .or .u32 (a * 256 % 4294967296) (x % 4294967296) = a * 256 + x := by
  rw [show x % 4294967296 = x by omega, show a * 256 % 4294967296 = a * 256 by omega]
  exact bits_join .u32 32 (by decide) wraps_u32 8 (a * 256) x (by omega) (by omega) (by omega) (by omega) (by omega) (by omega)

def lenV : Value → Nat
  | .slice _ n _ => n
  | _ => 0

/-- The cells of a row that is read, one by one. -/
theorem cell_at {w : World} {ad : Addr} {b : List Int} (h : ∀ j v, (b.map (Value.int .u8))[j]? = some v → w.cell? (ad.add j) = some v) (j : Nat) (hj : j < b.length) : w.cell? (ad.add j) = some (.int .u8 (b.getD j 0)) :=
  h j _ (by simp [List.getElem?_map, List.getD_eq_getElem?_getD, List.getElem?_eq_getElem hj])

theorem leZ_range : ∀ T : List Int, (∀ x ∈ T, 0 ≤ x ∧ x < 256) → 0 ≤ Lib.leZ T
  | [], _ => by simp [Lib.leZ]
  | x :: T, h => by
    have := h x List.mem_cons_self
    have := leZ_range T (fun y hy => h y (List.mem_cons_of_mem _ hy))
    simp only [Lib.leZ]
    omega

set_option maxHeartbeats 2000000 in
theorem spec_calls (seed : Int) (A : Option Addr) (c : Nat) (b : List Int) (w : World) (hC : Kd.C (Kd.int .u8) w A b.length b) (hc : b.length ≤ c) (hb : b.length ≤ 100) (hr : ∀ x ∈ b, 0 ≤ x ∧ x < 256) :
    Calls Try.prog 9 #[.int .u32 seed, .slice A b.length c] w fun e w' => e = .returned (.int .u32 (mur seed b)) ∧ Below w.heap.size w w' := by
  have M := Lib.hid mix_calls
  have T13 := Lib.hid (fun (x : Int) (w : World) => spec_turn.calls x 13 _ w (turn_f x).2)
  have HC := Aside0.mk hC
  have HR := Aside0.mk hr
  clear hC hr
  obtain ⟨i0, hi, hz0, hz1, hz2⟩ := info_parts info5
  go_enter Try.func9, Try.ntmps9
  go_wp2
  go_loopw [5, 7] (fun v5 v7 wr => ∃ (h : Int) (T : List Int) (A1 : Option Addr) (c1 : Nat), v5 = .int .u32 h ∧ v7 = .slice A1 T.length c1 ∧ T.length ≤ b.length ∧ T.length ≤ c1 ∧ Aside0 (body h T = body seed b) ∧ Aside0 (Kd.C (Kd.int .u8) wr A1 T.length T) ∧ Aside0 (∀ x ∈ T, 0 ≤ x ∧ x < 256) ∧ Aside0 (Below w.heap.size w wr)) (fun _ v _ => lenV v)
  case atStart => exact ⟨seed, b, A, c, rfl, rfl, Nat.le_refl _, hc, ⟨rfl⟩, HC, HR, ⟨Below.refl _ _⟩⟩
  case round =>
    obtain ⟨h, T, A1, c1, rfl, rfl, hl, hc1, HB, HC1, HR1, HW⟩ := hrel
    by_cases h4 : 4 ≤ T.length
    · obtain ⟨n, hn⟩ : ∃ n, n = T.length := ⟨_, rfl⟩
      rw [← hn] at hl hc1 HC1 h4 ⊢
      obtain ⟨x0, x1, x2, x3, T', rfl⟩ : ∃ x0 x1 x2 x3 T', T = x0 :: x1 :: x2 :: x3 :: T' := by
        match T, hn with
        | x0 :: x1 :: x2 :: x3 :: T', _ => exact ⟨x0, x1, x2, x3, T', rfl⟩
        | [], h => simp at h; omega
        | [_], h => simp at h; omega
        | [_, _], h => simp at h; omega
        | [_, _, _], h => simp at h; omega
      have HN := Aside0.mk hn
      obtain ⟨ad, rfl, hcell⟩ := C_cells HC1.out (by omega)
      have k0 : wr.cell? ad = some (.int .u8 x0) := by have := cell_at hcell 0 (by simp); simpa [Addr.add] using this
      have k1 : wr.cell? { block := ad.block, off := ad.off + 1 } = some (.int .u8 x1) := by have := cell_at hcell 1 (by simp); simpa [Addr.add] using this
      have k2 : wr.cell? { block := ad.block, off := ad.off + 2 } = some (.int .u8 x2) := by have := cell_at hcell 2 (by simp); simpa [Addr.add] using this
      have k3 : wr.cell? { block := ad.block, off := ad.off + 3 } = some (.int .u8 x3) := by have := cell_at hcell 3 (by simp); simpa [Addr.add] using this
      have g0 : 0 < n := by omega
      have g1 : (1 : Int) < (n : Int) := by omega
      have g2 : (2 : Int) < (n : Int) := by omega
      have g3 : (3 : Int) < (n : Int) := by omega
      have hw := word_or (HR1.out x0 (by simp)) (HR1.out x1 (by simp)) (HR1.out x2 (by simp)) (HR1.out x3 (by simp))
      obtain ⟨k, hk⟩ : ∃ k, k = Lib.leZ [x0, x1, x2, x3] := ⟨_, rfl⟩
      rw [← hk] at hw
      have HK := Aside0.mk hk
      have hcut := cut_from (P := Try.prog) 23 5 .i64 Try.underlying23 hi 1 hz1 (some ad) n c1 4 (by omega) (by omega)
      have hC2 := Kd.C_drop (m := 4) (c := c1) (show Kd.C (Kd.int .u8) wr (some ad) (x0 :: x1 :: x2 :: x3 :: T').length (x0 :: x1 :: x2 :: x3 :: T') by rw [← HN.out]; exact HC1.out) (by simp) (by rw [← HN.out]; exact hc1)
      have HC2 := Aside0.mk hC2
      have HB2 : Aside0 (body (Mur.step h k) T' = body seed b) := ⟨by rw [← HB.out, body_four, HK.out]⟩
      have HR2 : Aside0 (∀ x ∈ T', 0 ≤ x ∧ x < 256) := ⟨fun x hx => HR1.out x (by simp [hx])⟩
      clear hcell hn hk hC2 HB HR1
      go_wp2
      go_quiet (fail)
      clear hw
      go_wp2_with (first | (go_at_call 25; refine (M.out _ _).mono ?_; rintro e w1 ⟨rfl, b1⟩) | (go_at_call 26; refine (T13.out _ _).mono ?_; rintro e w2 ⟨rfl, d2⟩) | fail)
      go_roundw
      case rel =>
        have hl' := HN.out
        simp only [List.length_cons] at hl'
        have h5 : (x0 :: x1 :: x2 :: x3 :: T').drop 4 = T' := rfl
        have hC3 := HC2.out
        rw [h5] at hC3
        have hB2 : Below wr.heap.size wr w2 := below_step (below_step (pw_below_drewN (Below.refl _ _) _) b1) d2.below
        refine ⟨_, T', (if c1 = 4 then some ad else some { block := ad.block, off := ad.off + 4 }), c1 - 4, rfl, ?_, by omega, by omega, HB2, ⟨?_⟩, HR2, ⟨below_step HW.out hB2⟩⟩
        · rw [show T'.length = n - 4 by omega]
        · refine Kd.C_below ?_ hB2
          have e1 : (some ad : Option Addr).map (·.add (4 * (Kd.int .u8).sz)) = some { block := ad.block, off := ad.off + 4 } := by
            show some (ad.add (4 * 1)) = _
            simp [Addr.add]
          rw [← e1]
          exact hC3
      case measure => simp [lenV]; omega
    · have hM : Aside0 (mur seed b = fin (tail h T) b.length) := ⟨by unfold mur; rw [← HB.out, body_short h T (by omega)]⟩
      clear HB
      go_wp2
      go_loop [9, 10] (fun v9 v10 => ∃ j : Nat, j ≤ T.length ∧ v10 = .int .i64 ((j : Int) - 1) ∧ v9 = .int .u32 (Lib.leZ (T.drop j))) (fun _ v10 => (intOf v10 + 1).toNat)
      case atStart => exact ⟨T.length, Nat.le_refl _, by first | rfl | go_num, by simp [Lib.leZ]⟩
      case round =>
        obtain ⟨j, hj, rfl, rfl⟩ := hrel
        rcases Nat.eq_zero_or_pos j with h0 | h0
        · subst h0
          rcases Nat.eq_zero_or_pos T.length with hT | hT
          · obtain rfl : T = [] := List.eq_nil_of_length_eq_zero hT
            clear hT
            go_wp2
            go_ret
            refine ⟨?_, HW.out⟩
            rw [hM.out, tail, if_pos rfl]
            rfl
          · have hT2 : ¬ T = [] := fun h => by rw [h] at hT; simp at hT
            have HT2 := Aside0.mk hT2
            clear hT2
            go_wp2
            all_goals
              go_ret
              refine ⟨?_, HW.out⟩
              rw [hM.out, tail, if_neg HT2.out]
              rfl
        · obtain ⟨m, rfl⟩ : ∃ m, j = m + 1 := ⟨j - 1, by omega⟩
          rw [show ((m + 1 : Nat) : Int) - 1 = (m : Int) by omega]
          obtain ⟨ad, rfl, hcell⟩ := C_cells HC1.out (by omega)
          have km := cell_at hcell m (by omega)
          have hx := HR1.out (T.getD m 0) (by rw [List.getD_eq_getElem?_getD, List.getElem?_eq_getElem (by omega)]; simp)
          have hd : ∀ x ∈ T.drop (m + 1), 0 ≤ x ∧ x < 256 := fun x hx => HR1.out x (List.mem_of_mem_drop hx)
          have hw := word_more (leZ_range _ hd) (leZ_small hd (by simp; omega)) hx.1 hx.2
          rw [← leZ_more (by omega)] at hw
          clear hcell hd
          go_wp2
          go_round
          case rel =>
            rw [List.getD_eq_getElem?_getD] at hw
            exact ⟨m, by omega, by go_num, by rw [hw]⟩
          case measure => simp [intOf]
end Go.Proofs.Ythmfbkmdhnfbnaa.PFnMurmur
