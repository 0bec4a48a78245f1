/-
  The walk of bech32Checksum.
-/
import Derived.Test.YthkijnfpllbdnaaDoorVerWalk
namespace Go.Proofs.YthkijnfpllbdnaaDoor.Bec
open Go.RowKit Go.Proofs.YthkijnfpllbdnaaDoor.Hand Go.Proofs.YthkijnfpllbdnaaDoorW.PrintWords Go.Proofs.YthkijnfpllbdnaaDoorW.PrintLast Go.Proofs.YthkijnfpllbdnaaDoorW.PrintMore

abbrev zero6 : Obj := .cells #[.int .i64 0, .int .i64 0, .int .i64 0, .int .i64 0, .int .i64 0, .int .i64 0] 3 (0, 0)
theorem new_block (w : World) (o : Obj) : (w.alloc o).heap[w.heap.size]? = some o := by
  show (w.heap.push _)[w.heap.size]? = _
  simp
theorem and_31 (b : Nat) (hb : b < 1073741824) : bits .and .i64 (b : Int) 31 = ((b % 32 : Nat) : Int) := by
  have h := i64_and b 31 hb (by decide)
  rw [show b &&& 31 = b % 32 from Nat.and_two_pow_sub_one_eq_mod b 5] at h
  exact h

set_option maxHeartbeats 8000000 in
theorem checksum_calls (s : ByteArray) (hs : s.size ≤ 1000000) (A : Option Addr) (cA : Nat) (ds : List Nat) (w : World) (hG : genAt w) (h0 : 0 < w.heap.size) (hC : Kd.C (Kd.int .u8) w A ds.length (nums64 ds)) (hl : ds.length ≤ 1000000) (hv : ∀ v ∈ ds, v < 256) :
    Calls Tryd.prog 26 #[.string s, .slice A ds.length cA] w fun e w' => ∃ v, e = .returned v ∧ Kd.R (Kd.int .u8) 5 w' w.heap.size (fun _ => True) v (nums64 (six (poly 1 (expN (bytesOf s) ++ ds ++ [0, 0, 0, 0, 0, 0]) ^^^ 1))) ∧ Below w.heap.size w w' := by
  obtain ⟨i0, hi, hz0, hz1, hz2⟩ := info_parts info3
  have HII := Aside0.mk (show Tryd.prog.info? 3 = some i0 ∧ i0.zero = some (.int .i64 0) ∧ i0.size = 1 ∧ i0.bytes = 8 from ⟨hi, hz0, hz1, hz2⟩)
  obtain ⟨n, hn⟩ : ∃ n, n = ds.length := ⟨_, rfl⟩
  have HN := Aside0.mk hn
  have HNL : Aside0 ((nums64 ds).length = n) := ⟨by rw [hn, nums64_length]⟩
  obtain ⟨p, hp⟩ : ∃ p, p = poly 1 (expN (bytesOf s) ++ ds ++ [0, 0, 0, 0, 0, 0]) := ⟨_, rfl⟩
  obtain ⟨M, hM⟩ : ∃ M, M = (expN (bytesOf s) ++ ds ++ [0, 0, 0, 0, 0, 0]).length := ⟨_, rfl⟩
  have HPM : Aside0 (∀ (A : Option Addr) (c : Nat) (w2 : World), Below w.heap.size w w2 → Kd.C (Kd.int .i64) w2 A M (nums64 (expN (bytesOf s) ++ ds ++ [0, 0, 0, 0, 0, 0])) → Calls Tryd.prog 37 #[.slice A M c] w2 fun e w' => e = .returned (.int .i64 p) ∧ Below w2.heap.size w2 w') := ⟨fun A c w2 hb h => by
    rw [hp, hM]
    refine polymod_calls A c _ w2 (hG.below hb h0) (Nat.lt_of_lt_of_le h0 hb.size) (by rw [← hM]; exact h) (fun v hv' => ?_)
    rcases List.mem_append.1 hv' with g | g
    · rcases List.mem_append.1 g with g | g
      · have := expN_lt (bytesOf_range s) v g; omega
      · have := hv v g; omega
    · simp at g; omega⟩
  have HEX : Aside0 (∀ w2 : World, Calls Tryd.prog 36 #[.string s] w2 fun e w' => ∃ v, e = .returned v ∧ Kd.R (Kd.int .i64) 3 w' w2.heap.size (fun _ => True) v (nums64 (expN (bytesOf s))) ∧ Below w2.heap.size w2 w') := ⟨fun w2 => expand_calls s hs w2⟩
  have HEL : Aside0 ((nums64 (expN (bytesOf s))).length ≤ 2000001) := ⟨by rw [nums64_length, expN_length, bytesOf_length]; omega⟩
  have HML : Aside0 (M = (nums64 (expN (bytesOf s))).length + n + 6) := ⟨by rw [hM, List.length_append, List.length_append, nums64_length, hn]; rfl⟩
  have hpl : p < 1073741824 := by
    rw [hp]
    refine poly_lt _ 1 (by decide) (fun v hv' => ?_)
    rcases List.mem_append.1 hv' with g | g
    · rcases List.mem_append.1 g with g | g
      · have := expN_lt (bytesOf_range s) v g; omega
      · have := hv v g; omega
    · simp at g; omega
  rw [← hn] at hC hl ⊢
  have HC := Aside0.mk hC
  have HEQ : Aside0 (nums64 (expN (bytesOf s) ++ ds ++ [0, 0, 0, 0, 0, 0]) = nums64 (expN (bytesOf s)) ++ nums64 ds ++ [0, 0, 0, 0, 0, 0]) := ⟨by rw [nums_append, nums_append]; rfl⟩
  rw [← hp]
  obtain ⟨q, hq⟩ : ∃ q, q = p ^^^ 1 := ⟨_, rfl⟩
  have hql : q < 1073741824 := by rw [hq]; exact Nat.xor_lt_two_pow (n := 30) hpl (by decide)
  have hqx : bits .xor .i64 (p : Int) 1 = q := by rw [hq]; exact i64_xor p 1 hpl (by decide)
  rw [← hq]
  have HXR : Aside0 (∀ x ∈ nums64 ds, 0 ≤ x ∧ x < 256) := ⟨fun x hx => by
    obtain ⟨v, hv', rfl⟩ := List.mem_map.1 hx
    have := hv v hv'
    omega⟩
  clear hG h0 hC hv hp hn hM hi hz0 hz1 hz2 hs hq hpl
  generalize nums64 (expN (bytesOf s)) = E at HEX HEL HML HEQ
  generalize nums64 (expN (bytesOf s) ++ ds ++ [0, 0, 0, 0, 0, 0]) = F at HPM HEQ
  generalize nums64 ds = xs at HNL HC HEQ HXR
  obtain ⟨EX, hEX⟩ : ∃ EX, EX = E ++ xs := ⟨_, rfl⟩
  have HEXS := Aside0.mk hEX
  have HLE : Aside0 (EX.length = E.length + n) := ⟨by rw [hEX, List.length_append, HNL.out]⟩
  rw [← hEX] at HEQ
  clear hEX
  go_enter Tryd.func26, Tryd.ntmps26
  go_wp2_with (first
    | (at_make; refine wpList_make_full w rfl _ _ 27 rfl w.heap.size 3 i0 (.int .i64 0) 1 Tryd.underlying27 HII.out.1 HII.out.2.1 HII.out.2.2.1 .i64 .i64 _ _ n rfl rfl rfl rfl (by rw [HII.out.2.2.2]; omega) (by unfold maxLen; omega) (Nat.le_refl _) ?_; intro w1 hown hgrow; have HO1 := Aside0.mk (padded_start HNL.out hown); have HB1 := Aside0.mk ((Below.refl w.heap.size w).grown hgrow (Nat.le_refl _) (fun _ h => by cases h)); clear hown hgrow)
    | fail)
  clear HII
  obtain ⟨g, hg⟩ : ∃ g, g = w.heap.size := ⟨_, rfl⟩
  have HGE := Aside0.mk hg
  have HO2 : Aside0 (w1.ownsRow w.heap.size 3 1 (.slice (some ⟨g, 0, none⟩) n n) n (nums .i64 (padded xs 0))) := ⟨by rw [hg]; exact HO1.out⟩
  rw [← hg]
  clear hg HO1
  go_loopw [17] (fun v17 wr => ∃ i : Nat, v17 = .int .i64 i ∧ i ≤ n ∧ Aside0 (wr.ownsRow w.heap.size 3 1 (.slice (some ⟨g, 0, none⟩) n n) n (nums .i64 (padded xs i))) ∧ Aside0 (Below w.heap.size w wr)) (fun v17 _ => n - (intOf v17).toNat)
  case atStart => exact ⟨0, rfl, Nat.zero_le _, HO2, HB1⟩
  case round =>
    obtain ⟨i, rfl, hi, HO, HB⟩ := hrel
    clear HO2 HB1
    by_cases hlt : i < n
    · obtain ⟨ad, rfl, _⟩ := C_cells HC.out (by omega)
      have kd := Kd.foot_int (Kd.C_below HC.out HB.out) (i : Int) (by omega) (by omega)
      obtain ⟨f1, f2⟩ := own_at HO.out (i : Int) (by omega) (by omega)
      have HP := Aside0.mk (padded_more xs i (by rw [HNL.out]; exact hlt))
      rw [show rd xs (i : Int) = xs.getD i 0 by simp [rd], Int.toNat_natCast] at kd
      rw [Int.toNat_natCast] at f1 f2
      obtain ⟨x, hx⟩ : ∃ x, x = xs.getD i 0 := ⟨_, rfl⟩
      have hxr : 0 ≤ x ∧ x < 256 := by
        rw [hx, List.getD_eq_getElem?_getD, List.getElem?_eq_getElem (by rw [HNL.out]; exact hlt)]
        exact HXR.out _ (List.getElem_mem _)
      obtain ⟨hx0, hx1⟩ := hxr
      rw [← hx] at kd HP
      generalize rd (padded xs i) (i : Int) = y at f1
      have HST := Aside0.mk (own_store HO.out (i : Int) x).1
      rw [Int.toNat_natCast, HP.out] at HST
      clear hx
      go_wp2
      go_roundw
      case rel => exact ⟨i + 1, by go_num, by omega, HST, ⟨HB.out.setCell (by rw [HGE.out]; exact Nat.le_refl _) _⟩⟩
      case measure => simp [intOf]; omega
    · obtain rfl : i = n := by omega
      have HCX : Aside0 (Kd.C (Kd.int .i64) wr (some ⟨g, 0, none⟩) i xs) := ⟨by
        have h := HO.out
        have e : padded xs i = xs := by rw [← HNL.out]; exact padded_all xs
        rw [e] at h
        have h2 := Kd.R_reads' (Kd.R_of_own (enc := Value.int .i64) (h1 := fun _ => rfl) (xs := xs) (ok := fun _ => True) (by rw [HNL.out]; exact h) (fun _ _ => trivial))
        have h3 := h2.2.2
        rw [HNL.out] at h3
        exact h3⟩
      clear HO
      go_wp2_with (first
        | (go_at_call 36; refine (HEX.out wr).mono ?_; rintro e w2 ⟨v2, rfl, hR2, hb2⟩; obtain ⟨A2, c2, rfl⟩ := Kd.R_slice hR2; have HB2 := Aside0.mk (below_step HB.out hb2); have HR2 := Aside0.mk (Kd.R_lower hR2 HB.out.size); have HCX2 := Aside0.mk (Kd.C_below HCX.out hb2); clear hR2 hb2)
        | ((with_reducible refine gate_builtin (b := .append) (xs := #[.tmp 29, .tmp 30]) rfl ?_); refine Kd.R_append_row (h1 := fun _ => rfl) (w0 := w) (Value.int .i64) (0 : Int) w.heap.size rfl _ _ 27 3 (.int .i64 0) 8 rfl Tryd.underlying27 info3 rfl (by decide) (.slice A2 E.length c2) E xs (some ⟨g, 0, none⟩) i i (fun _ => True) rfl rfl (fun _ _ => trivial) HR2.out HCX2.out HB2.out HB2.out.size (by have := HEL.out; omega) ?_; intro v3 w3 hR3 hB3 _ _; rw [← HEXS.out] at hR3; obtain ⟨A3, c3, e3⟩ := Kd.R_slice hR3; subst e3; have HR3 := Aside0.mk hR3; have HB3 := Aside0.mk hB3; have HQ1 := Aside0.mk (Kd.R_below hR3 (below_alloc (Below.refl w3.heap.size w3) zero6)); have HQ2 := Aside0.mk (C_of_block (e := 3) (fr := (0, 0)) (k := .i64) (xs := [0, 0, 0, 0, 0, 0]) (new_block w3 zero6) (by decide)); clear hR3 hB3)
        | ((with_reducible refine gate_builtin (b := .append) (xs := #[.tmp 32, .tmp 33]) rfl ?_); refine Kd.R_append_row (h1 := fun _ => rfl) (w0 := w) (Value.int .i64) (0 : Int) w.heap.size rfl _ _ 27 3 (.int .i64 0) 8 rfl Tryd.underlying27 info3 rfl (by decide) (.slice A3 EX.length c3) EX [0, 0, 0, 0, 0, 0] (some ⟨w3.heap.size, 0, none⟩) 6 6 (fun _ => True) rfl rfl (fun _ _ => trivial) HQ1.out HQ2.out (below_alloc HB3.out _) (below_alloc HB3.out _).size (by have := HEL.out; rw [HLE.out]; omega) ?_; intro v5 w5 hR5 hB5 _ _; obtain ⟨A5, c5, e5⟩ := Kd.R_slice hR5; rw [List.length_append, HLE.out, List.length_cons, List.length_cons, List.length_cons, List.length_cons, List.length_cons, List.length_cons, List.length_nil, ← HML.out] at e5; subst e5; have HR5 := Aside0.mk hR5; have HB5 := Aside0.mk hB5; clear hR5 hB5)
        | (go_at_call 37; refine (HPM.out A5 c5 w5 HB5.out (by have h := Kd.R_reads' HR5.out; have h2 := h.2.2; rw [HEQ.out, HML.out]; rw [List.length_append, HLE.out] at h2; exact h2)).mono ?_; rintro e w4 ⟨rfl, hb4⟩; have HB4 := Aside0.mk (below_step HB5.out hb4); clear hb4)
        | fail)
      clear HR3 HB3 HQ1 HQ2 HR2 HB2 HCX2 HCX HR5 HB5 HB HEX HPM
      obtain ⟨N6, hN6⟩ : ∃ N6, N6 = six q := ⟨_, rfl⟩
      have H6 := Aside0.mk hN6
      clear hN6
      go_loopw [10, 11] (fun v10 v11 wr => ∃ k : Nat, v11 = .int .i64 k ∧ k ≤ 6 ∧ Aside0 ((Kd.int .u8).R 5 wr w.heap.size (fun _ => True) v10 (nums64 (N6.take k))) ∧ Aside0 (Below w.heap.size w wr)) (fun _ v11 _ => 6 - (intOf v11).toNat)
      case atStart => exact ⟨0, rfl, Nat.zero_le _, ⟨Kd.R_nil _ _ _ _ _⟩, HB4⟩
      case round =>
        obtain ⟨k, rfl, hk, HR, HB⟩ := hrel
        clear HB4
        by_cases hlt : k < 6
        · have hks : k = 0 ∨ k = 1 ∨ k = 2 ∨ k = 3 ∨ k = 4 ∨ k = 5 := by omega
          clear hlt hk
          rcases hks with rfl | rfl | rfl | rfl | rfl | rfl
          · obtain ⟨x, hx⟩ : ∃ x, x = q / 33554432 % 32 := ⟨_, rfl⟩
            have hxl : x < 32 := by omega
            have ha : bits .and .i64 ((q : Int) / 33554432) 31 = x := by
              have h := and_31 (q / 33554432) (by omega)
              rw [hx, ← h]
              rfl
            have HT : Aside0 (nums64 (N6.take 1) = nums64 (N6.take 0) ++ [(x : Int)]) := ⟨by rw [H6.out, hx]; rfl⟩
            have HL : Aside0 ((nums64 (N6.take 0)).length = 0) := ⟨by rw [H6.out]; rfl⟩
            clear hx
            go_wp2_with (first | (at_builtin; refine Kd.R_append (Kd.int .u8) (w0 := w) w.heap.size rfl (.tmp 42) (.tmp 51) 22 5 (.int .u8 0) 1 rfl Tryd.underlying22 info5 rfl (by decide) (by decide) _ _ (x : Int) [.int .u8 (x : Int)] (fun _ => True) (fun _ => False) rfl rfl rfl (fun _ hk => hk.elim) (fun _ _ => trivial) HR.out HB.out HB.out.size (by rw [HL.out]; decide) ?_; intro v6 w6 hR6 hb6 _ _; have HR6 := Aside0.mk hR6; have HB6 := Aside0.mk hb6; clear hR6 hb6) | fail)
            go_roundw
            case rel => exact ⟨1, by go_num, by omega, ⟨by rw [HT.out]; exact HR6.out⟩, HB6⟩
            case measure => simp [intOf]
          · obtain ⟨x, hx⟩ : ∃ x, x = q / 1048576 % 32 := ⟨_, rfl⟩
            have hxl : x < 32 := by omega
            have ha : bits .and .i64 ((q : Int) / 1048576) 31 = x := by
              have h := and_31 (q / 1048576) (by omega)
              rw [hx, ← h]
              rfl
            have HT : Aside0 (nums64 (N6.take 2) = nums64 (N6.take 1) ++ [(x : Int)]) := ⟨by rw [H6.out, hx]; rfl⟩
            have HL : Aside0 ((nums64 (N6.take 1)).length = 1) := ⟨by rw [H6.out]; rfl⟩
            clear hx
            go_wp2_with (first | (at_builtin; refine Kd.R_append (Kd.int .u8) (w0 := w) w.heap.size rfl (.tmp 42) (.tmp 51) 22 5 (.int .u8 0) 1 rfl Tryd.underlying22 info5 rfl (by decide) (by decide) _ _ (x : Int) [.int .u8 (x : Int)] (fun _ => True) (fun _ => False) rfl rfl rfl (fun _ hk => hk.elim) (fun _ _ => trivial) HR.out HB.out HB.out.size (by rw [HL.out]; decide) ?_; intro v6 w6 hR6 hb6 _ _; have HR6 := Aside0.mk hR6; have HB6 := Aside0.mk hb6; clear hR6 hb6) | fail)
            go_roundw
            case rel => exact ⟨2, by go_num, by omega, ⟨by rw [HT.out]; exact HR6.out⟩, HB6⟩
            case measure => simp [intOf]
          · obtain ⟨x, hx⟩ : ∃ x, x = q / 32768 % 32 := ⟨_, rfl⟩
            have hxl : x < 32 := by omega
            have ha : bits .and .i64 ((q : Int) / 32768) 31 = x := by
              have h := and_31 (q / 32768) (by omega)
              rw [hx, ← h]
              rfl
            have HT : Aside0 (nums64 (N6.take 3) = nums64 (N6.take 2) ++ [(x : Int)]) := ⟨by rw [H6.out, hx]; rfl⟩
            have HL : Aside0 ((nums64 (N6.take 2)).length = 2) := ⟨by rw [H6.out]; rfl⟩
            clear hx
            go_wp2_with (first | (at_builtin; refine Kd.R_append (Kd.int .u8) (w0 := w) w.heap.size rfl (.tmp 42) (.tmp 51) 22 5 (.int .u8 0) 1 rfl Tryd.underlying22 info5 rfl (by decide) (by decide) _ _ (x : Int) [.int .u8 (x : Int)] (fun _ => True) (fun _ => False) rfl rfl rfl (fun _ hk => hk.elim) (fun _ _ => trivial) HR.out HB.out HB.out.size (by rw [HL.out]; decide) ?_; intro v6 w6 hR6 hb6 _ _; have HR6 := Aside0.mk hR6; have HB6 := Aside0.mk hb6; clear hR6 hb6) | fail)
            go_roundw
            case rel => exact ⟨3, by go_num, by omega, ⟨by rw [HT.out]; exact HR6.out⟩, HB6⟩
            case measure => simp [intOf]
          · obtain ⟨x, hx⟩ : ∃ x, x = q / 1024 % 32 := ⟨_, rfl⟩
            have hxl : x < 32 := by omega
            have ha : bits .and .i64 ((q : Int) / 1024) 31 = x := by
              have h := and_31 (q / 1024) (by omega)
              rw [hx, ← h]
              rfl
            have HT : Aside0 (nums64 (N6.take 4) = nums64 (N6.take 3) ++ [(x : Int)]) := ⟨by rw [H6.out, hx]; rfl⟩
            have HL : Aside0 ((nums64 (N6.take 3)).length = 3) := ⟨by rw [H6.out]; rfl⟩
            clear hx
            go_wp2_with (first | (at_builtin; refine Kd.R_append (Kd.int .u8) (w0 := w) w.heap.size rfl (.tmp 42) (.tmp 51) 22 5 (.int .u8 0) 1 rfl Tryd.underlying22 info5 rfl (by decide) (by decide) _ _ (x : Int) [.int .u8 (x : Int)] (fun _ => True) (fun _ => False) rfl rfl rfl (fun _ hk => hk.elim) (fun _ _ => trivial) HR.out HB.out HB.out.size (by rw [HL.out]; decide) ?_; intro v6 w6 hR6 hb6 _ _; have HR6 := Aside0.mk hR6; have HB6 := Aside0.mk hb6; clear hR6 hb6) | fail)
            go_roundw
            case rel => exact ⟨4, by go_num, by omega, ⟨by rw [HT.out]; exact HR6.out⟩, HB6⟩
            case measure => simp [intOf]
          · obtain ⟨x, hx⟩ : ∃ x, x = q / 32 % 32 := ⟨_, rfl⟩
            have hxl : x < 32 := by omega
            have ha : bits .and .i64 ((q : Int) / 32) 31 = x := by
              have h := and_31 (q / 32) (by omega)
              rw [hx, ← h]
              rfl
            have HT : Aside0 (nums64 (N6.take 5) = nums64 (N6.take 4) ++ [(x : Int)]) := ⟨by rw [H6.out, hx]; rfl⟩
            have HL : Aside0 ((nums64 (N6.take 4)).length = 4) := ⟨by rw [H6.out]; rfl⟩
            clear hx
            go_wp2_with (first | (at_builtin; refine Kd.R_append (Kd.int .u8) (w0 := w) w.heap.size rfl (.tmp 42) (.tmp 51) 22 5 (.int .u8 0) 1 rfl Tryd.underlying22 info5 rfl (by decide) (by decide) _ _ (x : Int) [.int .u8 (x : Int)] (fun _ => True) (fun _ => False) rfl rfl rfl (fun _ hk => hk.elim) (fun _ _ => trivial) HR.out HB.out HB.out.size (by rw [HL.out]; decide) ?_; intro v6 w6 hR6 hb6 _ _; have HR6 := Aside0.mk hR6; have HB6 := Aside0.mk hb6; clear hR6 hb6) | fail)
            go_roundw
            case rel => exact ⟨5, by go_num, by omega, ⟨by rw [HT.out]; exact HR6.out⟩, HB6⟩
            case measure => simp [intOf]
          · obtain ⟨x, hx⟩ : ∃ x, x = q % 32 := ⟨_, rfl⟩
            have hxl : x < 32 := by omega
            have ha : bits .and .i64 ((q : Int)) 31 = x := by rw [hx]; exact and_31 q hql
            have HT : Aside0 (nums64 (N6.take 6) = nums64 (N6.take 5) ++ [(x : Int)]) := ⟨by rw [H6.out, hx]; rfl⟩
            have HL : Aside0 ((nums64 (N6.take 5)).length = 5) := ⟨by rw [H6.out]; rfl⟩
            clear hx
            go_wp2_with (first | (at_builtin; refine Kd.R_append (Kd.int .u8) (w0 := w) w.heap.size rfl (.tmp 42) (.tmp 51) 22 5 (.int .u8 0) 1 rfl Tryd.underlying22 info5 rfl (by decide) (by decide) _ _ (x : Int) [.int .u8 (x : Int)] (fun _ => True) (fun _ => False) rfl rfl rfl (fun _ hk => hk.elim) (fun _ _ => trivial) HR.out HB.out HB.out.size (by rw [HL.out]; decide) ?_; intro v6 w6 hR6 hb6 _ _; have HR6 := Aside0.mk hR6; have HB6 := Aside0.mk hb6; clear hR6 hb6) | fail)
            go_roundw
            case rel => exact ⟨6, by go_num, by omega, ⟨by rw [HT.out]; exact HR6.out⟩, HB6⟩
            case measure => simp [intOf]
        · obtain rfl : k = 6 := by omega
          go_wp2
          go_ret
          exact ⟨_, rfl, by have h := HR.out; rw [show N6.take 6 = six q by rw [H6.out]; rfl] at h; exact h, HB.out⟩
end Go.Proofs.YthkijnfpllbdnaaDoor.Bec
