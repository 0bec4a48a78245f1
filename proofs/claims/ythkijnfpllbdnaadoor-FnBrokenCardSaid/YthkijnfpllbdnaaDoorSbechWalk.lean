/-
  The walk of spec.Bech32.
-/
import Derived.Test.YthkijnfpllbdnaaDoorEncWalk
import Derived.Test.YthkijnfpllbdnaaDoorBuf
namespace Go.Proofs.YthkijnfpllbdnaaDoor.Bec
open Go.RowKit Go.Proofs.YthkijnfpllbdnaaDoor.Hand Go.Proofs.YthkijnfpllbdnaaDoor.Buf Go.Proofs.YthkijnfpllbdnaaDoorW.PrintWords Go.Proofs.YthkijnfpllbdnaaDoorW.PrintLast Go.Proofs.YthkijnfpllbdnaaDoorW.PrintMore

abbrev zeroB : Obj := .cells #[.int .u8 0, .int .u8 0, .int .u8 0, .int .u8 0, .int .u8 0, .int .u8 0] 5 (0, 0)
theorem u32_xor1 (p : Nat) (hp : p < 1073741824) : bits .xor .u32 (p : Int) 1 = ((p ^^^ 1 : Nat) : Int) := u32_xor_nat p 1 (by omega) (by decide)
theorem u32_and31 (b : Nat) (hb : b < 1073741824) : bits .and .u32 (b : Int) 31 = ((b % 32 : Nat) : Int) := by
  have h := u32_and_nat b 31 (by omega) (by decide)
  rw [show b &&& 31 = b % 32 from Nat.and_two_pow_sub_one_eq_mod b 5] at h
  exact h

set_option maxHeartbeats 16000000 in
theorem sbech_calls (s : ByteArray) (hs : s.size ≤ 200) (A : Option Addr) (n c : Nat) (d : List Int) (w : World) (hn : d.length = n)
    (hC : Kd.C (Kd.int .u8) w A n d) (hd : ∀ g ∈ d, 0 ≤ g ∧ g < 32) (hl : n ≤ 200) :
    Calls Tryd.prog 11 #[.string s, .slice A n c] w fun e w' => e = .returned (.string (strOfNums (encI (bytesOf s) d))) ∧ Below w.heap.size w w' := by
  have kb := fun W => print_bytes (P := Tryd.prog) 9 22 5 Tryd.underlying9 Tryd.underlying22 Tryd.underlying5 s W
  have HKB := Aside0.mk kb
  obtain ⟨E, hE⟩ : ∃ E, E = nums64 (expN (bytesOf s)) := ⟨_, rfl⟩
  have HEX : Aside0 (Calls Tryd.prog 16 #[.string s] w fun e w' => ∃ v, e = .returned v ∧ Kd.R (Kd.int .u8) 5 w' w.heap.size (fun _ => True) v E ∧ Below w.heap.size w w') := ⟨by rw [hE]; exact expanded_calls s (by omega) w⟩
  obtain ⟨m, hm⟩ : ∃ m, m = E.length := ⟨_, rfl⟩
  have hEl : m ≤ 401 := by rw [hm, hE, nums64_length, expN_length, bytesOf_length]; omega
  obtain ⟨p, hp⟩ : ∃ p, p = poly 1 (expN (bytesOf s) ++ d.map Int.toNat ++ [0, 0, 0, 0, 0, 0]) := ⟨_, rfl⟩
  obtain ⟨q, hq⟩ : ∃ q, q = chkN (bytesOf s) d := ⟨_, rfl⟩
  have hvr : ∀ v ∈ expN (bytesOf s) ++ d.map Int.toNat ++ [0, 0, 0, 0, 0, 0], v < 256 := fun v hv => by
    rcases List.mem_append.1 hv with g | g
    · rcases List.mem_append.1 g with g | g
      · have := expN_lt (bytesOf_range s) v g; omega
      · obtain ⟨x, hx, rfl⟩ := List.mem_map.1 g
        have := hd x hx
        omega
    · simp at g; omega
  have hpl : p < 1073741824 := by
    rw [hp]
    exact poly_lt _ 1 (by decide) (fun v hv => by have := hvr v hv; omega)
  have hqp : p ^^^ 1 = q := by rw [hq, hp]; rfl
  have hql : q < 1073741824 := by rw [← hqp]; exact Nat.xor_lt_two_pow (n := 30) hpl (by decide)
  have hqx : bits .xor .u32 (p : Int) 1 = q := by rw [← hqp]; exact u32_xor1 p hpl
  have HREM : Aside0 (∀ (A : Option Addr) (c : Nat) (w2 : World), Kd.C (Kd.int .u8) w2 A (m + n + 6) (E ++ d ++ [0, 0, 0, 0, 0, 0]) → Calls Tryd.prog 15 #[.slice A (m + n + 6) c] w2 fun e w' => e = .returned (.int .u32 p) ∧ Below w2.heap.size w2 w') := ⟨fun A c w2 h => by
    have hlen : (expN (bytesOf s) ++ d.map Int.toNat ++ [0, 0, 0, 0, 0, 0]).length = m + n + 6 := by
      rw [List.length_append, List.length_append, List.length_map, hn, hm, hE, nums64_length]
      rfl
    have := remainder_calls A c (expN (bytesOf s) ++ d.map Int.toNat ++ [0, 0, 0, 0, 0, 0]) w2 (by
      rw [hlen, nums_append, nums_append, nat_nums hd, ← hE]
      exact h) hvr
    rw [hlen, ← hp] at this
    exact this⟩
  have HENC : Aside0 (encI (bytesOf s) d = bytesOf s ++ 49 :: d.map chI ++ (nums64 (six q)).map chI) := ⟨by rw [hq]; simp [encI]⟩
  have HC := Aside0.mk hC
  have HNL := Aside0.mk hn
  have HEL := Aside0.mk hm.symm
  have HBL := Aside0.mk (bytesOf_length s)
  have HV := Aside0.mk hd
  have HQ6 : Aside0 (∀ k, k < 6 → (nums64 (six q)).take (k + 1) = (nums64 (six q)).take k ++ [(nums64 (six q)).getD k 0]) := ⟨fun k hk => by
    rw [List.take_succ_eq_append_getElem (by rw [nums64_length]; exact hk), List.getD_eq_getElem?_getD, List.getElem?_eq_getElem (by rw [nums64_length]; exact hk)]
    rfl⟩
  clear hC hn hd hp hq hqp hpl hvr hE hm
  go_enter Tryd.func11, Tryd.ntmps11
  go_wp2_with (first
    | (go_at_call 16; refine HEX.out.mono ?_; rintro e w2 ⟨v2, rfl, hR2, hb2⟩; obtain ⟨A2, c2, e2⟩ := Kd.R_slice hR2; rw [HEL.out] at e2; subst e2; have HB2 := Aside0.mk hb2; have HR2 := Aside0.mk hR2; have HC2 := Aside0.mk (Kd.C_below HC.out hb2); clear hR2 hb2)
    | ((with_reducible refine gate_builtin (b := .append) (xs := #[.tmp 11, .tmp 12]) rfl ?_); refine Kd.R_append_row (h1 := fun _ => rfl) (w0 := w) (Value.int .u8) (0 : Int) w.heap.size rfl _ _ 22 5 (.int .u8 0) 1 rfl Tryd.underlying22 info5 rfl (by decide) (.slice A2 m c2) E d A n c (fun _ => True) rfl rfl (fun _ _ => trivial) HR2.out HC2.out HB2.out HB2.out.size (by rw [HEL.out]; omega) ?_; intro v3 w3 hR3 hB3 _ _; obtain ⟨A3, c3, e3⟩ := Kd.R_slice hR3; rw [List.length_append, HEL.out, HNL.out] at e3; subst e3; have HR3 := Aside0.mk hR3; have HB3 := Aside0.mk hB3; have HQ1 := Aside0.mk (Kd.R_below hR3 (below_alloc (Below.refl w3.heap.size w3) zeroB)); have HQ2 := Aside0.mk (C_of_block (e := 5) (fr := (0, 0)) (k := .u8) (xs := [0, 0, 0, 0, 0, 0]) (new_block w3 zeroB) (by decide)); clear hR3 hB3)
    | ((with_reducible refine gate_builtin (b := .append) (xs := #[.tmp 13, .tmp 14]) rfl ?_); refine Kd.R_append_row (h1 := fun _ => rfl) (w0 := w) (Value.int .u8) (0 : Int) w.heap.size rfl _ _ 22 5 (.int .u8 0) 1 rfl Tryd.underlying22 info5 rfl (by decide) (.slice A3 (m + n) c3) (E ++ d) [0, 0, 0, 0, 0, 0] (some ⟨w3.heap.size, 0, none⟩) 6 6 (fun _ => True) rfl rfl (fun _ _ => trivial) HQ1.out HQ2.out (below_alloc HB3.out _) (below_alloc HB3.out _).size (by rw [List.length_append, HEL.out, HNL.out]; omega) ?_; intro v5 w5 hR5 hB5 _ _; obtain ⟨A5, c5, e5⟩ := Kd.R_slice hR5; rw [List.length_append, List.length_append, HEL.out, HNL.out] at e5; have HR5 := Aside0.mk hR5; have HB5 := Aside0.mk hB5; clear hR5 hB5; subst e5)
    | (go_at_call 15; refine (HREM.out A5 c5 w5 (by have h := (Kd.R_reads' HR5.out).2.2; rw [List.length_append, List.length_append, HEL.out, HNL.out] at h; exact h)).mono ?_; rintro e w4 ⟨rfl, hb4⟩; have HB4 := Aside0.mk (below_step HB5.out hb4); clear hb4)
    | ((with_reducible refine gate_builtin (b := .append) (xs := #[.tmp 19, .tmp 20]) rfl ?_); refine wpList_buf_append (w0 := w) w.heap.size rfl (.tmp 19) (.tmp 20) 22 5 rfl Tryd.underlying22 info5 _ (bytesOf s) 49 rfl rfl (Buf.of_conv _ 5 s HB4.out.size) (bytes_below HB4.out HB4.out.size 5 s) (bytes_below HB4.out HB4.out.size 5 s).size (by rw [HBL.out]; omega) ?_; intro v6 w6 hU hB6; have HU := Aside0.mk hU; have HB6 := Aside0.mk hB6; clear hU hB6)
    | fail)
  clear kb
  have HU0 : Aside0 (Buf w.heap.size w6 v6 (bytesOf s ++ 49 :: (d.take 0).map chI)) := ⟨by simpa using HU.out⟩
  clear HU HR5 HB5 HR3 HB3 HQ1 HQ2 HR2 HB2 HEX HREM HB4
  go_loopw [6, 24] (fun v6 v24 wr => ∃ i : Nat, v24 = .int .i64 i ∧ i ≤ n ∧ Aside0 (Buf w.heap.size wr v6 (bytesOf s ++ 49 :: (d.take i).map chI)) ∧ Aside0 (Below w.heap.size w wr)) (fun _ v24 _ => n - (intOf v24).toNat)
  case atStart => exact ⟨0, rfl, Nat.zero_le _, HU0, HB6⟩
  case round =>
    obtain ⟨i, rfl, hi, HR, HB⟩ := hrel
    clear HU0 HB6
    by_cases hlt : i < n
    · obtain ⟨ad, rfl, _⟩ := C_cells HC.out (by omega)
      have kd := Kd.foot_int (Kd.C_below HC.out HB.out) (i : Int) (by omega) (by omega)
      rw [show rd d (i : Int) = d.getD i 0 by simp [rd], Int.toNat_natCast] at kd
      have HT := Aside0.mk (ch_take d i (by rw [HNL.out]; exact hlt))
      obtain ⟨x, hx⟩ : ∃ x, x = d.getD i 0 := ⟨_, rfl⟩
      have hxr : 0 ≤ x ∧ x < 32 := by
        rw [hx, List.getD_eq_getElem?_getD, List.getElem?_eq_getElem (by rw [HNL.out]; exact hlt)]
        exact HV.out _ (List.getElem_mem _)
      obtain ⟨hx0, hx1⟩ := hxr
      rw [← hx] at kd HT
      obtain ⟨_, _, _, _, _, g6⟩ := ch_at x hx0 hx1
      have hch : ∀ h : x.toNat < csA.size, ((csA[x.toNat]'h).toNat : Int) = chI x := fun h => by rw [← g6]; exact bt_at csA x h
      have hxn : x.toNat < 32 := by omega
      have HL : Aside0 ((bytesOf s ++ 49 :: (d.take i).map chI).length ≤ 500) := ⟨by rw [List.length_append, HBL.out, List.length_cons, List.length_map, List.length_take]; omega⟩
      generalize chI x = y at HT hch
      clear hx g6
      unfold csA at hch
      go_wp2_with (first
        | ((with_reducible refine gate_builtin (b := .append) (xs := #[.tmp 28, .tmp 31]) rfl ?_); refine wpList_buf_append (w0 := w) w.heap.size rfl (.tmp 28) (.tmp 31) 22 5 rfl Tryd.underlying22 info5 _ (bytesOf s ++ 49 :: (d.take i).map chI) y rfl rfl HR.out HB.out HB.out.size (by have := HL.out; omega) ?_; intro v7 w7 hU hB7; have HU7 := Aside0.mk hU; have HB7 := Aside0.mk hB7; clear hU hB7)
        | fail)
      go_roundw
      case rel => exact ⟨i + 1, by go_num, by omega, ⟨by rw [HT.out, show bytesOf s ++ 49 :: ((d.take i).map chI ++ [y]) = bytesOf s ++ 49 :: (d.take i).map chI ++ [y] by simp]; exact HU7.out⟩, HB7⟩
      case measure => simp [intOf]; omega
    · obtain rfl : i = n := by omega
      rw [show d.take i = d by rw [List.take_of_length_le]; rw [HNL.out]; exact Nat.le_refl _] at HR
      have HU9 : Aside0 (Buf w.heap.size wr u6 (bytesOf s ++ 49 :: d.map chI ++ ((nums64 (six q)).take 0).map chI)) := ⟨by simpa using HR.out⟩
      have HPL : Aside0 ((bytesOf s ++ 49 :: d.map chI).length ≤ 500) := ⟨by rw [List.length_append, HBL.out, List.length_cons, List.length_map, HNL.out]; omega⟩
      generalize bytesOf s ++ 49 :: d.map chI = pre at HU9 HPL HENC
      clear HR HC HV
      go_wp2
      go_loopw [6, 9] (fun v6 v9 wr => ∃ k : Nat, v9 = .int .i64 (5 - (k : Int)) ∧ k ≤ 6 ∧ Aside0 (Buf w.heap.size wr v6 (pre ++ ((nums64 (six q)).take k).map chI)) ∧ Aside0 (Below w.heap.size w wr)) (fun _ v9 _ => (intOf v9 + 1).toNat)
      case atStart => exact ⟨0, rfl, Nat.zero_le _, HU9, HB⟩
      case round =>
        obtain ⟨k, rfl, hk, HR, HB2⟩ := hrel
        clear HU9 HB
        by_cases hlt : k < 6
        · have HT := Aside0.mk (HQ6.out k hlt)
          have HL : Aside0 ((pre ++ ((nums64 (six q)).take k).map chI).length ≤ 600) := ⟨by rw [List.length_append, List.length_map, List.length_take]; have := HPL.out; omega⟩
          have hks : k = 0 ∨ k = 1 ∨ k = 2 ∨ k = 3 ∨ k = 4 ∨ k = 5 := by omega
          clear hlt hk
          rcases hks with rfl | rfl | rfl | rfl | rfl | rfl
          · obtain ⟨x, hx⟩ : ∃ x, x = q / 33554432 % 32 := ⟨_, rfl⟩
            have hxl : x < 32 := by omega
            have ha : bits .and .u32 ((q : Int) / 33554432) 31 = x := by
              have h := u32_and31 (q / 33554432) (by omega)
              first | (rw [hx]; exact h) | (rw [hx, ← h]; rfl)
            have hgx : (nums64 (six q)).getD 0 0 = (x : Int) := by rw [hx]; rfl
            rw [hgx] at HT
            have HT2 : Aside0 (((nums64 (six q)).take 1).map chI = ((nums64 (six q)).take 0).map chI ++ [chI (x : Int)]) := ⟨by rw [show 1 = 0 + 1 from rfl, HT.out, List.map_append]; rfl⟩
            obtain ⟨_, _, _, _, _, g6⟩ := ch_at (x : Int) (by omega) (by omega)
            have hch : ∀ h : x < csA.size, ((csA[x]'h).toNat : Int) = chI x := fun h => by rw [← g6]; exact bt_at csA x h
            generalize chI (x : Int) = y at HT2 hch
            unfold csA at hch
            clear hx g6 hgx HT
            go_wp2_with (first
              | ((with_reducible refine gate_builtin (b := .append) (xs := #[.tmp 38, .tmp 45]) rfl ?_); refine wpList_buf_append (w0 := w) w.heap.size rfl (.tmp 38) (.tmp 45) 22 5 rfl Tryd.underlying22 info5 _ (pre ++ ((nums64 (six q)).take 0).map chI) y rfl rfl HR.out HB2.out HB2.out.size (by have := HL.out; omega) ?_; intro v7 w7 hU hB7; have HU7 := Aside0.mk hU; have HB7 := Aside0.mk hB7; clear hU hB7)
              | fail)
            go_roundw
            case rel => exact ⟨1, by first | rfl | go_num, by omega, ⟨by rw [HT2.out, ← List.append_assoc]; exact HU7.out⟩, HB7⟩
            case measure => simp [intOf]
          · obtain ⟨x, hx⟩ : ∃ x, x = q / 1048576 % 32 := ⟨_, rfl⟩
            have hxl : x < 32 := by omega
            have ha : bits .and .u32 ((q : Int) / 1048576) 31 = x := by
              have h := u32_and31 (q / 1048576) (by omega)
              first | (rw [hx]; exact h) | (rw [hx, ← h]; rfl)
            have hgx : (nums64 (six q)).getD 1 0 = (x : Int) := by rw [hx]; rfl
            rw [hgx] at HT
            have HT2 : Aside0 (((nums64 (six q)).take 2).map chI = ((nums64 (six q)).take 1).map chI ++ [chI (x : Int)]) := ⟨by rw [show 2 = 1 + 1 from rfl, HT.out, List.map_append]; rfl⟩
            obtain ⟨_, _, _, _, _, g6⟩ := ch_at (x : Int) (by omega) (by omega)
            have hch : ∀ h : x < csA.size, ((csA[x]'h).toNat : Int) = chI x := fun h => by rw [← g6]; exact bt_at csA x h
            generalize chI (x : Int) = y at HT2 hch
            unfold csA at hch
            clear hx g6 hgx HT
            go_wp2_with (first
              | ((with_reducible refine gate_builtin (b := .append) (xs := #[.tmp 38, .tmp 45]) rfl ?_); refine wpList_buf_append (w0 := w) w.heap.size rfl (.tmp 38) (.tmp 45) 22 5 rfl Tryd.underlying22 info5 _ (pre ++ ((nums64 (six q)).take 1).map chI) y rfl rfl HR.out HB2.out HB2.out.size (by have := HL.out; omega) ?_; intro v7 w7 hU hB7; have HU7 := Aside0.mk hU; have HB7 := Aside0.mk hB7; clear hU hB7)
              | fail)
            go_roundw
            case rel => exact ⟨2, by first | rfl | go_num, by omega, ⟨by rw [HT2.out, ← List.append_assoc]; exact HU7.out⟩, HB7⟩
            case measure => simp [intOf]
          · obtain ⟨x, hx⟩ : ∃ x, x = q / 32768 % 32 := ⟨_, rfl⟩
            have hxl : x < 32 := by omega
            have ha : bits .and .u32 ((q : Int) / 32768) 31 = x := by
              have h := u32_and31 (q / 32768) (by omega)
              first | (rw [hx]; exact h) | (rw [hx, ← h]; rfl)
            have hgx : (nums64 (six q)).getD 2 0 = (x : Int) := by rw [hx]; rfl
            rw [hgx] at HT
            have HT2 : Aside0 (((nums64 (six q)).take 3).map chI = ((nums64 (six q)).take 2).map chI ++ [chI (x : Int)]) := ⟨by rw [show 3 = 2 + 1 from rfl, HT.out, List.map_append]; rfl⟩
            obtain ⟨_, _, _, _, _, g6⟩ := ch_at (x : Int) (by omega) (by omega)
            have hch : ∀ h : x < csA.size, ((csA[x]'h).toNat : Int) = chI x := fun h => by rw [← g6]; exact bt_at csA x h
            generalize chI (x : Int) = y at HT2 hch
            unfold csA at hch
            clear hx g6 hgx HT
            go_wp2_with (first
              | ((with_reducible refine gate_builtin (b := .append) (xs := #[.tmp 38, .tmp 45]) rfl ?_); refine wpList_buf_append (w0 := w) w.heap.size rfl (.tmp 38) (.tmp 45) 22 5 rfl Tryd.underlying22 info5 _ (pre ++ ((nums64 (six q)).take 2).map chI) y rfl rfl HR.out HB2.out HB2.out.size (by have := HL.out; omega) ?_; intro v7 w7 hU hB7; have HU7 := Aside0.mk hU; have HB7 := Aside0.mk hB7; clear hU hB7)
              | fail)
            go_roundw
            case rel => exact ⟨3, by first | rfl | go_num, by omega, ⟨by rw [HT2.out, ← List.append_assoc]; exact HU7.out⟩, HB7⟩
            case measure => simp [intOf]
          · obtain ⟨x, hx⟩ : ∃ x, x = q / 1024 % 32 := ⟨_, rfl⟩
            have hxl : x < 32 := by omega
            have ha : bits .and .u32 ((q : Int) / 1024) 31 = x := by
              have h := u32_and31 (q / 1024) (by omega)
              first | (rw [hx]; exact h) | (rw [hx, ← h]; rfl)
            have hgx : (nums64 (six q)).getD 3 0 = (x : Int) := by rw [hx]; rfl
            rw [hgx] at HT
            have HT2 : Aside0 (((nums64 (six q)).take 4).map chI = ((nums64 (six q)).take 3).map chI ++ [chI (x : Int)]) := ⟨by rw [show 4 = 3 + 1 from rfl, HT.out, List.map_append]; rfl⟩
            obtain ⟨_, _, _, _, _, g6⟩ := ch_at (x : Int) (by omega) (by omega)
            have hch : ∀ h : x < csA.size, ((csA[x]'h).toNat : Int) = chI x := fun h => by rw [← g6]; exact bt_at csA x h
            generalize chI (x : Int) = y at HT2 hch
            unfold csA at hch
            clear hx g6 hgx HT
            go_wp2_with (first
              | ((with_reducible refine gate_builtin (b := .append) (xs := #[.tmp 38, .tmp 45]) rfl ?_); refine wpList_buf_append (w0 := w) w.heap.size rfl (.tmp 38) (.tmp 45) 22 5 rfl Tryd.underlying22 info5 _ (pre ++ ((nums64 (six q)).take 3).map chI) y rfl rfl HR.out HB2.out HB2.out.size (by have := HL.out; omega) ?_; intro v7 w7 hU hB7; have HU7 := Aside0.mk hU; have HB7 := Aside0.mk hB7; clear hU hB7)
              | fail)
            go_roundw
            case rel => exact ⟨4, by first | rfl | go_num, by omega, ⟨by rw [HT2.out, ← List.append_assoc]; exact HU7.out⟩, HB7⟩
            case measure => simp [intOf]
          · obtain ⟨x, hx⟩ : ∃ x, x = q / 32 % 32 := ⟨_, rfl⟩
            have hxl : x < 32 := by omega
            have ha : bits .and .u32 ((q : Int) / 32) 31 = x := by
              have h := u32_and31 (q / 32) (by omega)
              first | (rw [hx]; exact h) | (rw [hx, ← h]; rfl)
            have hgx : (nums64 (six q)).getD 4 0 = (x : Int) := by rw [hx]; rfl
            rw [hgx] at HT
            have HT2 : Aside0 (((nums64 (six q)).take 5).map chI = ((nums64 (six q)).take 4).map chI ++ [chI (x : Int)]) := ⟨by rw [show 5 = 4 + 1 from rfl, HT.out, List.map_append]; rfl⟩
            obtain ⟨_, _, _, _, _, g6⟩ := ch_at (x : Int) (by omega) (by omega)
            have hch : ∀ h : x < csA.size, ((csA[x]'h).toNat : Int) = chI x := fun h => by rw [← g6]; exact bt_at csA x h
            generalize chI (x : Int) = y at HT2 hch
            unfold csA at hch
            clear hx g6 hgx HT
            go_wp2_with (first
              | ((with_reducible refine gate_builtin (b := .append) (xs := #[.tmp 38, .tmp 45]) rfl ?_); refine wpList_buf_append (w0 := w) w.heap.size rfl (.tmp 38) (.tmp 45) 22 5 rfl Tryd.underlying22 info5 _ (pre ++ ((nums64 (six q)).take 4).map chI) y rfl rfl HR.out HB2.out HB2.out.size (by have := HL.out; omega) ?_; intro v7 w7 hU hB7; have HU7 := Aside0.mk hU; have HB7 := Aside0.mk hB7; clear hU hB7)
              | fail)
            go_roundw
            case rel => exact ⟨5, by first | rfl | go_num, by omega, ⟨by rw [HT2.out, ← List.append_assoc]; exact HU7.out⟩, HB7⟩
            case measure => simp [intOf]
          · obtain ⟨x, hx⟩ : ∃ x, x = q % 32 := ⟨_, rfl⟩
            have hxl : x < 32 := by omega
            have ha : bits .and .u32 ((q : Int)) 31 = x := by
              have h := u32_and31 (q) (by omega)
              first | (rw [hx]; exact h) | (rw [hx, ← h]; rfl)
            have hgx : (nums64 (six q)).getD 5 0 = (x : Int) := by rw [hx]; rfl
            rw [hgx] at HT
            have HT2 : Aside0 (((nums64 (six q)).take 6).map chI = ((nums64 (six q)).take 5).map chI ++ [chI (x : Int)]) := ⟨by rw [show 6 = 5 + 1 from rfl, HT.out, List.map_append]; rfl⟩
            obtain ⟨_, _, _, _, _, g6⟩ := ch_at (x : Int) (by omega) (by omega)
            have hch : ∀ h : x < csA.size, ((csA[x]'h).toNat : Int) = chI x := fun h => by rw [← g6]; exact bt_at csA x h
            generalize chI (x : Int) = y at HT2 hch
            unfold csA at hch
            clear hx g6 hgx HT
            go_wp2_with (first
              | ((with_reducible refine gate_builtin (b := .append) (xs := #[.tmp 38, .tmp 45]) rfl ?_); refine wpList_buf_append (w0 := w) w.heap.size rfl (.tmp 38) (.tmp 45) 22 5 rfl Tryd.underlying22 info5 _ (pre ++ ((nums64 (six q)).take 5).map chI) y rfl rfl HR.out HB2.out HB2.out.size (by have := HL.out; omega) ?_; intro v7 w7 hU hB7; have HU7 := Aside0.mk hU; have HB7 := Aside0.mk hB7; clear hU hB7)
              | fail)
            go_roundw
            case rel => exact ⟨6, by first | rfl | go_num, by omega, ⟨by rw [HT2.out, ← List.append_assoc]; exact HU7.out⟩, HB7⟩
            case measure => simp [intOf]
        · obtain rfl : k = 6 := by omega
          have HF : Aside0 (Buf w.heap.size wr u6 (encI (bytesOf s) d)) := ⟨by rw [HENC.out]; exact HR.out⟩
          have HFL : Aside0 ((encI (bytesOf s) d).length ≤ 600) := ⟨by rw [HENC.out, List.length_append, List.length_map, nums64_length]; have := HPL.out; have := six_length q; omega⟩
          obtain ⟨g, cg, rfl, _⟩ := HF.out.shape
          obtain ⟨_, _, hCf⟩ := HF.out.reads (by have := HFL.out; omega)
          have hcv := Kd.C_string (P := Tryd.prog) (c := cg) Tryd.underlying22 Tryd.underlying5 Tryd.underlying9 hCf
          clear hCf
          go_wp2
          go_ret
          exact ⟨rfl, HB2.out⟩
end Go.Proofs.YthkijnfpllbdnaaDoor.Bec
