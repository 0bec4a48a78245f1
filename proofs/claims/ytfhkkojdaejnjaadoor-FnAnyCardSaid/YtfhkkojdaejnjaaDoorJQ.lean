/-
  Bits read back out of bytes.
  The reader of bits.
  ReadBits, zzReader.
  readFullUint64.
  The coded bits, read one difference at a time.
  zzReader; Filter.Match finds what was built in.
-/
import Derived.Test.YtfhkkojdaejnjaaDoorJO
import Derived.Laws.Bits64b
import Derived.Test.YtfhkkojdaejnjaaDoorJP
import Derived.Test.YtfhkkojdaejnjaaDoorJN
set_option linter.unusedVariables false
namespace Go.Proofs.YtfhkkojdaejnjaaDoor.Gcs
open Go.RowKit Go.Proofs.YtfhkkojdaejnjaaDoor.Hand Go.Proofs.YtfhkkojdaejnjaaDoor.PFnForms Go.Proofs.YtfhkkojdaejnjaaDoorW.PrintWords Go.Proofs.YtfhkkojdaejnjaaDoorW.PrintLast Go.Proofs.YtfhkkojdaejnjaaDoorW.PrintMore

theorem bitAt_setB (o : List Int) (k : Nat) (b : Int) (i : Nat) (hb : b = 0 ∨ b = 1) (ho : ∀ x ∈ o, 0 ≤ x ∧ x < 256) (hk : k / 8 < o.length) (h0 : bitAt o k = 0) : bitAt (setB o k b) i = if i = k then b else bitAt o i := by
  have hx := ho (o[k / 8]) (List.getElem_mem _)
  have hg : o.getD (k / 8) 0 = o[k / 8] := by rw [List.getD_eq_getElem?_getD, List.getElem?_eq_getElem hk]; rfl
  have hc : (((o[k / 8]).toNat : Nat) : Int) = o[k / 8] := by omega
  by_cases h8 : i / 8 = k / 8
  · have e1 : (setB o k b).getD (i / 8) 0 = Go.bits .or .u8 (o[k / 8]) (IntKind.u8.wrap (b * 2 ^ (7 - k % 8))) := by
      unfold setB
      rw [h8, List.getD_eq_getElem?_getD, List.getElem?_set_self hk, hg]
      rfl
    unfold bitAt at h0 ⊢
    rw [e1, h8, hg]
    rw [hg] at h0
    rcases hb with rfl | rfl
    · have ho := or_none ⟨(o[k / 8]).toNat, by omega⟩ ⟨7 - k % 8, by omega⟩
      simp only [hc] at ho
      rw [ho]
      by_cases hik : i = k
      · rw [if_pos hik, hik]; exact h0
      · rw [if_neg hik]
    · have ho := or_bit ⟨(o[k / 8]).toNat, by omega⟩ ⟨7 - i % 8, by omega⟩ ⟨7 - k % 8, by omega⟩
      simp only [hc] at ho
      rw [ho h0]
      by_cases hik : i = k
      · rw [if_pos hik, if_pos (Fin.ext (by show 7 - i % 8 = 7 - k % 8; rw [hik]))]
      · rw [if_neg hik, if_neg (fun e => hik (by injection e; omega))]
  · have e1 : (setB o k b).getD (i / 8) 0 = o.getD (i / 8) 0 := by
      unfold setB
      rw [List.getD_eq_getElem?_getD, List.getElem?_set_ne (Ne.symm h8), ← List.getD_eq_getElem?_getD]
    rw [if_neg (fun e => h8 (by rw [e]))]
    unfold bitAt
    rw [e1]
theorem bitAt_outB (bs : List Int) (hb : ∀ x ∈ bs, x = 0 ∨ x = 1) : ∀ k, k ≤ bs.length → ∀ i, bitAt (outB bs k) i = if i < k then bs.getD i 0 else 0
  | 0, _, i => by
    rw [if_neg (Nat.not_lt_zero _)]
    unfold bitAt outB
    rw [List.getD_eq_getElem?_getD, List.getElem?_replicate]
    split
    · simp
    · simp
  | k + 1, h, i => by
    have hk : bs.getD k 0 = 0 ∨ bs.getD k 0 = 1 := by
      rw [List.getD_eq_getElem?_getD, List.getElem?_eq_getElem (by omega)]
      exact hb _ (List.getElem_mem _)
    have hf := outB_facts bs k
    show bitAt (setB (outB bs k) k (bs.getD k 0)) i = _
    rw [bitAt_setB _ _ _ _ hk hf.2 (by rw [hf.1]; omega) (by rw [bitAt_outB bs hb k (by omega), if_neg (Nat.lt_irrefl _)]), bitAt_outB bs hb k (by omega)]
    by_cases h1 : i = k
    · rw [if_pos h1, if_pos (by omega), h1]
    · rw [if_neg h1]
      by_cases h2 : i < k
      · rw [if_pos h2, if_pos (by omega)]
      · rw [if_neg h2, if_neg (by omega)]
theorem bitAt_pack (bs : List Int) (hb : ∀ x ∈ bs, x = 0 ∨ x = 1) (i : Nat) : bitAt (packB bs) i = bs.getD i 0 := by
  unfold packB
  rw [bitAt_outB bs hb _ (Nat.le_refl _)]
  by_cases h : i < bs.length
  · rw [if_pos h]
  · rw [if_neg h, List.getD_eq_getElem?_getD, List.getElem?_eq_none (by omega)]
    rfl
/-- So many bits as a number, the greatest first. -/
def numP (D : List Int) (n : Nat) : Nat → Int
  | 0 => 0
  | j + 1 => 2 * numP D n j + bitAt D (n + j)
theorem bitAt_bit (D : List Int) (i : Nat) : bitAt D i = 0 ∨ bitAt D i = 1 := by unfold bitAt; omega
theorem numP_lt (D : List Int) (n : Nat) : ∀ j, 0 ≤ numP D n j ∧ numP D n j < 2 ^ j
  | 0 => ⟨Int.le_refl _, by show (0 : Int) < 2 ^ 0; decide⟩
  | j + 1 => by
    obtain ⟨h1, h2⟩ := numP_lt D n j
    have h3 := bitAt_bit D (n + j)
    show 0 ≤ 2 * numP D n j + bitAt D (n + j) ∧ 2 * numP D n j + bitAt D (n + j) < 2 ^ (j + 1)
    rw [Int.pow_succ]
    generalize (2 : Int) ^ j = p at h2 ⊢
    omega
theorem or_one64 (x : Int) (h0 : 0 ≤ x) (h1 : x < 9223372036854775808) : Go.bits .or .u64 (2 * x) 1 = 2 * x + 1 := by
  obtain ⟨n, rfl⟩ := Int.eq_ofNat_of_zero_le h0
  have e := bits_or_u64_nat (2 ^ 1 * n) 1 (by omega) (by omega)
  rw [← Nat.two_pow_add_eq_or_of_lt (by omega)] at e
  have e1 : (2 * (n : Int)) = ((2 ^ 1 * n : Nat) : Int) := by omega
  rw [e1]
  refine e.trans ?_
  omega
theorem mod_div_bit (p j : Nat) (d : Int) (h : j < p) : d % 2 ^ p / 2 ^ j % 2 = d / 2 ^ j % 2 := by
  have e : (2 : Int) ^ p = 2 ^ j * (2 * 2 ^ (p - (j + 1))) := by
    rw [← Int.pow_succ', ← Int.pow_add, show j + (p - (j + 1) + 1) = p by omega]
  have hj : (0 : Int) < 2 ^ j := Int.pow_pos (by decide)
  generalize p - (j + 1) = k at e
  have e2 : d % (2 ^ j * (2 * 2 ^ k)) = d + 2 ^ j * (2 * -(2 ^ k * (d / (2 ^ j * (2 * 2 ^ k))))) := by
    rw [Int.emod_def, Int.mul_neg, Int.mul_neg, ← Int.sub_eq_add_neg, Int.mul_assoc (2 ^ j), Int.mul_assoc 2]
  rw [e, e2, Int.add_mul_ediv_left _ _ (by omega), Int.add_mul_emod_self_left]
/-- The rest's bits are the rest. -/
theorem numP_rest (D : List Int) (m p : Nat) (d : Int) (h : ∀ i, i < p → bitAt D (m + i) = d / 2 ^ (p - (i + 1)) % 2) : ∀ j, j ≤ p → numP D m j = d % 2 ^ p / 2 ^ (p - j)
  | 0, _ => by
    have hp : (0 : Int) < 2 ^ p := Int.pow_pos (by decide)
    rw [Nat.sub_zero]
    exact (Int.ediv_eq_zero_of_lt (Int.emod_nonneg _ (by omega)) (Int.emod_lt_of_pos _ hp)).symm
  | j + 1, hj => by
    show 2 * numP D m j + bitAt D (m + j) = _
    rw [numP_rest D m p d h j (by omega), h j (by omega), ← mod_div_bit p (p - (j + 1)) d (by omega), show p - j = (p - (j + 1)) + 1 by omega, Int.pow_succ, ← Int.ediv_ediv_of_nonneg (Int.le_of_lt (Int.pow_pos (by decide)))]
    omega
theorem numP_full (D : List Int) (m p : Nat) (d : Int) (h : ∀ i, i < p → bitAt D (m + i) = d / 2 ^ (p - (i + 1)) % 2) : numP D m p = d % 2 ^ p := by
  rw [numP_rest D m p d h p (Nat.le_refl _), Nat.sub_self, Int.pow_zero, Int.ediv_one]
theorem restB_get (p : Nat) (d : Int) : ∀ k, k ≤ p → ∀ i, i < k → (restB p d k).getD i 0 = d / 2 ^ (p - (i + 1)) % 2
  | 0, _, i, h => absurd h (Nat.not_lt_zero _)
  | k + 1, hk, i, h => by
    unfold restB
    by_cases h1 : i < k
    · rw [List.getD_eq_getElem?_getD, List.getElem?_append_left (by rw [restB_length]; exact h1), ← List.getD_eq_getElem?_getD]
      exact restB_get p d k (by omega) i h1
    · obtain rfl : i = k := by omega
      rw [List.getD_eq_getElem?_getD, List.getElem?_append_right (by rw [restB_length]; exact Nat.le_refl _), restB_length, Nat.sub_self]
      rfl
end Go.Proofs.YtfhkkojdaejnjaaDoor.Gcs
namespace Go.Proofs.YtfhkkojdaejnjaaDoor.Gcs
open Go.RowKit Go.Proofs.YtfhkkojdaejnjaaDoor.Hand Go.Proofs.YtfhkkojdaejnjaaDoor.Buf Go.Proofs.YtfhkkojdaejnjaaDoor.PFnForms Go.Proofs.YtfhkkojdaejnjaaDoorW.PrintWords Go.Proofs.YtfhkkojdaejnjaaDoorW.PrintLast Go.Proofs.YtfhkkojdaejnjaaDoorW.PrintMore

/-- The error at the end, as its variable holds it. -/
abbrev eofV (ad : Addr) : Value := .iface 113 (.pointer (some ad))
structure Eof (w : World) (ad : Addr) : Prop where
  c : w.cell? ⟨2, 0, none⟩ = some (eofV ad)
theorem Eof.lt {w : World} {ad : Addr} (h : Eof w ad) : 2 < w.heap.size := World.block_lt_of_cell? w _ h.c
theorem Eof.below {w w1 : World} {ad : Addr} (h : Eof w ad) (hb : Below w.heap.size w w1) : Eof w1 ad := ⟨(hb.cell (p := ⟨2, 0, none⟩) h.lt).trans h.c⟩
/-- A reader in its block: its bytes as they were at w0, its place. -/
structure RdS (w0 w : World) (g : Nat) (A : Option Addr) (c : Nat) (D : List Int) (n : Nat) : Prop where
  hg : w0.heap.size ≤ g
  blk : w.heap[g]? = some (.cells #[.slice A D.length c, .int .i64 n] 87 (0, 0))
  C : Kd.C (Kd.int .u8) w0 A D.length D
  bel : Below w0.heap.size w0 w
def IsRdA (w0 w : World) (g : Nat) (A : Option Addr) (c : Nat) (D : List Int) (n : Nat) (v : Value) (e : Ending) (w' : World) : Prop := e = .returned v ∧ RdS w0 w' g A c D n ∧ Onl g w w'

set_option maxRecDepth 100000 in
set_option maxHeartbeats 8000000 in
theorem rbit_calls (w0 : World) (ad : Addr) (g : Nat) (A : Option Addr) (c : Nat) (D : List Int) (n : Nat) (w : World) (hR : RdS w0 w g A c D n) (hB : Bytes D) (hn : n < 8 * D.length) (hD : D.length ≤ 100000) :
    Calls Tryd.prog 52 #[.pointer (some ⟨g, 0, none⟩)] w (IsRdA w0 w g A c D (n + 1) (.tuple #[.bool (bitAt D n == 1), .nilIface])) := by
  obtain ⟨hg, hblk, hC, hbel⟩ := hR
  obtain ⟨k0, k1, f0, f1⟩ := k87 hblk
  obtain ⟨ad1, rfl, kb⟩ := Kd.at_int (Kd.C_below hC hbel) ((n / 8 : Nat) : Int) (by omega) (by omega)
  rw [Int.toNat_natCast] at kb
  have hy : rd D ((n / 8 : Nat) : Int) = D.getD (n / 8) 0 := by unfold rd; rw [Int.toNat_natCast]
  rw [hy] at kb
  have hyb := hB (D.getD (n / 8) 0) (by rw [List.getD_eq_getElem?_getD, List.getElem?_eq_getElem (by omega)]; exact List.getElem_mem _)
  have HBT : Aside0 (bitAt D n = D.getD (n / 8) 0 / 2 ^ (7 - n % 8) % 2) := ⟨rfl⟩
  have HBK := Aside0.mk hblk
  have HC := Aside0.mk hC
  have HBL := Aside0.mk hbel
  have HO := Aside0.mk (Onl.refl g w)
  obtain ⟨L, hL⟩ : ∃ L, L = D.length := ⟨_, rfl⟩
  have HL := Aside0.mk hL
  rw [← hL] at k0 hn hD
  generalize D.getD (n / 8) 0 = y at kb hyb HBT
  obtain ⟨I8, hI8⟩ : ∃ I8, I8 = n / 8 := ⟨_, rfl⟩
  obtain ⟨S8, hS8⟩ : ∃ S8, S8 = 7 - n % 8 := ⟨_, rfl⟩
  have e8 : (n : Int) / 8 = (I8 : Int) := by omega
  have es : (7 : Int) - (n : Int) % 8 = (S8 : Int) := by omega
  have hS7 : S8 ≤ 7 := by omega
  have hIL : I8 < L := by omega
  rw [← hI8] at kb
  rw [← hS8] at HBT
  have HAND : Aside0 ((Go.bits .and .u8 (y / 2 ^ S8) 1 == 1) = (bitAt D n == 1)) := ⟨by
    have hpos : (0 : Int) < 2 ^ S8 := Int.pow_pos (by decide)
    have h0 : 0 ≤ y / 2 ^ S8 := Int.ediv_nonneg hyb.1 (Int.le_of_lt hpos)
    have h1 : y / 2 ^ S8 ≤ y := Int.ediv_le_self _ hyb.1
    rw [HBT.out, show Go.bits .and .u8 (y / 2 ^ S8) 1 = y / 2 ^ S8 % 2 from bits_mask .u8 8 (by decide) (fun n h0 h1 => by rw [IntKind.wrap_u8]; simp at h1; omega) 1 (by decide) _ h0 (by simp; omega)]⟩
  clear hL hI8 hS8 hC hbel hblk hy
  go_enter Tryd.func52, Tryd.ntmps52
  go_wp2_with fail
  have hIz : ¬ ((L : Int) ≤ (I8 : Int)) := by omega
  go_quiet (fail)
  have HB1 : Aside0 (Onl g w (w.drewN nq)) := ⟨(Onl.refl g w).drewN nq⟩
  have k0a : (w.drewN nq).cell? ⟨g, 0, none⟩ = some (.slice (some ad1) L c) := k0
  have k1a : (w.drewN nq).cell? ⟨g, 1, none⟩ = some (.int .i64 n) := k1
  have kba : (w.drewN nq).cell? (ad1.add I8) = some (.int .u8 y) := kb
  have HK1 : Aside0 ((w.drewN nq).heap[g]? = some (.cells #[.slice (some ad1) D.length c, .int .i64 n] 87 (0, 0))) := ⟨HBK.out⟩
  clear k0 k1 kb f0 f1 HBK HO
  generalize w.drewN nq = w1 at HB1 k0a k1a kba HK1 ⊢
  go_wp2_with fail
  go_quiet (fail)
  have HB2 : Aside0 (Onl g w (w1.drewN nq)) := ⟨HB1.out.drewN nq⟩
  have k1b : (w1.drewN nq).cell? ⟨g, 1, none⟩ = some (.int .i64 n) := k1a
  have HK2 : Aside0 ((w1.drewN nq).heap[g]? = some (.cells #[.slice (some ad1) D.length c, .int .i64 n] 87 (0, 0))) := ⟨HK1.out⟩
  clear k0a k1a kba HK1 HB1
  generalize w1.drewN nq = w2 at HB2 k1b HK2 ⊢
  go_wp2_with (first
    | ((with_reducible refine gate_store (t := 3) (p := 43) rfl ?_); refine st87_1 rfl rfl rfl HK2.out (HB2.out.bel g w (Nat.le_refl _) (Below.refl g w)) (Nat.le_refl _) rfl rfl ?_; intro w3 hK hB hF; have HK3 := Aside0.mk hK; have HO3 : Aside0 (Onl g w w3) := ⟨⟨⟨hB.size, fun k hk hne => (hF k hne).trans (HB2.out.fr.blk k hk hne)⟩, fun B w0 hB0 hb => hb.trans ⟨hB.os, hB.tape, hB.output, hB.size, fun k hk => hB.block k (Nat.lt_of_lt_of_le hk hB0)⟩⟩⟩; clear hK hB hF k1b)
    | fail)
  refine bodyPost_ret (results_tmp2 rfl _ _ _) rfl ⟨?_, ⟨hg, HK3.out, HC.out, HO3.out.bel _ _ hg HBL.out⟩, HO3.out⟩
  rw [← HAND.out]
  rfl
set_option maxRecDepth 100000 in
set_option maxHeartbeats 8000000 in
theorem rbit_eof (w0 : World) (ad : Addr) (g : Nat) (A : Option Addr) (c : Nat) (D : List Int) (n : Nat) (w : World) (hR : RdS w0 w g A c D n) (hE : Eof w ad) (hn : 8 * D.length ≤ n) (hn2 : n ≤ 1000000) :
    Calls Tryd.prog 52 #[.pointer (some ⟨g, 0, none⟩)] w (IsRdA w0 w g A c D n (.tuple #[.bool false, eofV ad])) := by
  obtain ⟨hg, hblk, hC, hbel⟩ := hR
  obtain ⟨k0, k1, f0, f1⟩ := k87 hblk
  have kE := hE.c
  have HBK := Aside0.mk hblk
  have HC := Aside0.mk hC
  have HBL := Aside0.mk hbel
  obtain ⟨L, hL⟩ : ∃ L, L = D.length := ⟨_, rfl⟩
  have HL := Aside0.mk hL
  rw [← hL] at k0 hn
  obtain ⟨I8, hI8⟩ : ∃ I8, I8 = n / 8 := ⟨_, rfl⟩
  have e8 : (n : Int) / 8 = (I8 : Int) := by omega
  have hIz : (L : Int) ≤ (I8 : Int) := by omega
  clear hL hI8 hC hbel hblk hE
  go_enter Tryd.func52, Tryd.ntmps52
  go_wp2_with fail
  go_quiet (fail)
  have HB1 : Aside0 (Onl g w (w.drewN nq)) := ⟨(Onl.refl g w).drewN nq⟩
  have kEa : (w.drewN nq).cell? ⟨2, 0, none⟩ = some (eofV ad) := kE
  have HK1 : Aside0 ((w.drewN nq).heap[g]? = some (.cells #[.slice A D.length c, .int .i64 n] 87 (0, 0))) := ⟨HBK.out⟩
  clear k0 k1 kE f0 f1 HBK
  generalize w.drewN nq = w1 at HB1 kEa HK1 ⊢
  go_wp2_with fail
  go_quiet (fail)
  have HB2 : Aside0 (Onl g w (w1.drewN nq)) := ⟨HB1.out.drewN nq⟩
  have HK2 : Aside0 ((w1.drewN nq).heap[g]? = some (.cells #[.slice A D.length c, .int .i64 n] 87 (0, 0))) := ⟨HK1.out⟩
  clear kEa HK1 HB1
  generalize w1.drewN nq = w2 at HB2 HK2 ⊢
  go_wp2_with fail
  exact bodyPost_ret (results_tmp2 rfl _ _ _) rfl ⟨rfl, ⟨hg, HK2.out, HC.out, HB2.out.bel _ _ hg HBL.out⟩, HB2.out⟩
end Go.Proofs.YtfhkkojdaejnjaaDoor.Gcs
namespace Go.Proofs.YtfhkkojdaejnjaaDoor.Gcs
open Go.RowKit Go.Proofs.YtfhkkojdaejnjaaDoor.Hand Go.Proofs.YtfhkkojdaejnjaaDoor.Buf Go.Proofs.YtfhkkojdaejnjaaDoor.PFnForms Go.Proofs.YtfhkkojdaejnjaaDoorW.PrintWords Go.Proofs.YtfhkkojdaejnjaaDoorW.PrintLast Go.Proofs.YtfhkkojdaejnjaaDoorW.PrintMore

set_option maxRecDepth 100000 in
set_option maxHeartbeats 8000000 in
theorem rbits_calls (w0 : World) (ad : Addr) (g : Nat) (A : Option Addr) (c : Nat) (D : List Int) (n k : Nat) (w : World) (hR : RdS w0 w g A c D n) (hB : Bytes D) (hn : n + k ≤ 8 * D.length) (hk : k ≤ 32) (hD : D.length ≤ 100000) :
    Calls Tryd.prog 53 #[.pointer (some ⟨g, 0, none⟩), .int .i64 k] w (IsRdA w0 w g A c D (n + k) (.tuple #[.int .u64 (numP D n k), .nilIface])) := by
  have HR0 : Aside0 (RdS w0 w g A c D (n + 0)) := ⟨hR⟩
  have HB := Aside0.mk hB
  have HO0 := Aside0.mk (Onl.refl g w)
  clear hR hB
  go_enter Tryd.func53, Tryd.ntmps53
  go_wp2_with fail
  go_loopw [6, 10] (fun v6 v10 wr => ∃ j : Nat, v6 = .int .u64 (numP D n j) ∧ v10 = .int .i64 j ∧ j ≤ k ∧ Aside0 (RdS w0 wr g A c D (n + j)) ∧ Aside0 (Onl g w wr)) (fun _ v10 _ => k - (intOf v10).toNat)
  case atStart => exact ⟨0, rfl, rfl, Nat.zero_le _, HR0, HO0⟩
  case round =>
    obtain ⟨j, rfl, rfl, hj, HR, HO⟩ := hrel
    clear HR0 HO0
    by_cases hjk : j < k
    · have HCL := Aside0.mk (rbit_calls w0 ad g A c D (n + j) wr HR.out HB.out (by omega) hD)
      have hl := numP_lt D n j
      have hp : (2 : Int) ^ j ≤ 4294967296 := by
        have h : (2 : Nat) ^ j ≤ 2 ^ 32 := Nat.pow_le_pow_right (by decide) (by omega)
        have h2 := Int.ofNat_le.2 h
        rw [Int.natCast_pow] at h2
        exact h2
      have HNS : Aside0 (numP D n (j + 1) = 2 * numP D n j + bitAt D (n + j)) := ⟨rfl⟩
      have hx0 := hl.1
      have hx1 : numP D n j < 4294967296 := by omega
      clear hl hp
      generalize numP D n j = x at hx0 hx1 HNS ⊢
      have HWR : Aside0 (IntKind.u64.wrap (x * 2) = 2 * x) := ⟨by rw [IntKind.wrap_u64]; omega⟩
      have HOR : Aside0 (Go.bits .or .u64 (x * 2) 1 = 2 * x + 1) := ⟨by rw [Int.mul_comm]; exact or_one64 x hx0 (by omega)⟩
      rcases bitAt_bit D (n + j) with hb | hb
      · rw [hb] at HCL HNS
        have HCL' : Aside0 (Calls Tryd.prog 52 #[.pointer (some ⟨g, 0, none⟩)] wr (IsRdA w0 wr g A c D (n + (j + 1)) (.tuple #[.bool false, .nilIface]))) := ⟨HCL.out⟩
        clear HCL hb
        go_wp2_with (first
          | (go_at_call 52; (with_reducible refine HCL'.out.mono ?_); intro e2 w2 hq; unfold IsRdA at hq; obtain ⟨rfl, hR2, hO2⟩ := hq; have HR2 := Aside0.mk hR2; have HO2 := Aside0.mk (HO.out.trans hO2); clear hR2 hO2)
          | fail)
        go_roundw
        case rel => exact ⟨j + 1, by first | (rw [HNS.out, Int.add_zero]; go_num; done) | (rw [HNS.out, Int.add_zero, ← HWR.out]), by go_num, by omega, HR2, HO2⟩
        case measure => first | (simp [intOf]; done) | (simp [intOf]; omega)
      · rw [hb] at HCL HNS
        have HCL' : Aside0 (Calls Tryd.prog 52 #[.pointer (some ⟨g, 0, none⟩)] wr (IsRdA w0 wr g A c D (n + (j + 1)) (.tuple #[.bool true, .nilIface]))) := ⟨HCL.out⟩
        clear HCL hb
        go_wp2_with (first
          | (go_at_call 52; (with_reducible refine HCL'.out.mono ?_); intro e2 w2 hq; unfold IsRdA at hq; obtain ⟨rfl, hR2, hO2⟩ := hq; have HR2 := Aside0.mk hR2; have HO2 := Aside0.mk (HO.out.trans hO2); clear hR2 hO2)
          | fail)
        go_roundw
        case rel => exact ⟨j + 1, by rw [HNS.out, ← HOR.out], by go_num, by omega, HR2, HO2⟩
        case measure => first | (simp [intOf]; done) | (simp [intOf]; omega)
    · obtain rfl : j = k := by omega
      go_wp2_with fail
      exact bodyPost_ret (results_tmp2 rfl _ _ _) rfl ⟨rfl, HR.out, HO.out⟩
set_option maxRecDepth 100000 in
set_option maxHeartbeats 8000000 in
theorem rbits_eof (w0 : World) (ad : Addr) (g : Nat) (A : Option Addr) (c : Nat) (D : List Int) (n k : Nat) (w : World) (hR : RdS w0 w g A c D n) (hE : Eof w0 ad) (hB : Bytes D) (hn : 8 * D.length < n + k) (hnl : n ≤ 8 * D.length) (hk : k ≤ 32) (hD : D.length ≤ 100000) :
    Calls Tryd.prog 53 #[.pointer (some ⟨g, 0, none⟩), .int .i64 k] w (IsRdA w0 w g A c D (8 * D.length) (.tuple #[.int .u64 0, eofV ad])) := by
  have HR0 : Aside0 (RdS w0 w g A c D (n + 0)) := ⟨hR⟩
  have HB := Aside0.mk hB
  have HE := Aside0.mk hE
  have HO0 := Aside0.mk (Onl.refl g w)
  obtain ⟨L8, hL8⟩ : ∃ L8, L8 = 8 * D.length := ⟨_, rfl⟩
  have HL8 := Aside0.mk hL8
  rw [← hL8] at hn hnl ⊢
  clear hR hB hE hL8
  go_enter Tryd.func53, Tryd.ntmps53
  go_wp2_with fail
  go_loopw [6, 10] (fun v6 v10 wr => ∃ (j : Nat) (x : Int), v6 = .int .u64 x ∧ v10 = .int .i64 j ∧ n + j ≤ L8 ∧ Aside0 (RdS w0 wr g A c D (n + j)) ∧ Aside0 (Onl g w wr)) (fun _ v10 _ => k - (intOf v10).toNat)
  case atStart => exact ⟨0, 0, rfl, rfl, hnl, HR0, HO0⟩
  case round =>
    obtain ⟨j, x, rfl, rfl, hj, HR, HO⟩ := hrel
    clear HR0 HO0
    have hjk : j < k := by omega
    by_cases hjl : n + j < L8
    · have HCL := Aside0.mk (rbit_calls w0 ad g A c D (n + j) wr HR.out HB.out (by rw [← HL8.out]; exact hjl) hD)
      obtain ⟨bb, hbb⟩ : ∃ bb, bb = (bitAt D (n + j) == 1) := ⟨_, rfl⟩
      rw [← hbb] at HCL
      clear hbb
      cases bb
      · go_wp2_with (first
          | (go_at_call 52; (with_reducible refine HCL.out.mono ?_); intro e2 w2 hq; unfold IsRdA at hq; obtain ⟨rfl, hR2, hO2⟩ := hq; have HR2 := Aside0.mk hR2; have HO2 := Aside0.mk (HO.out.trans hO2); clear hR2 hO2)
          | fail)
        go_roundw
        case rel => exact ⟨j + 1, _, rfl, by go_num, by omega, HR2, HO2⟩
        case measure => first | (simp [intOf]; done) | (simp [intOf]; omega)
      · go_wp2_with (first
          | (go_at_call 52; (with_reducible refine HCL.out.mono ?_); intro e2 w2 hq; unfold IsRdA at hq; obtain ⟨rfl, hR2, hO2⟩ := hq; have HR2 := Aside0.mk hR2; have HO2 := Aside0.mk (HO.out.trans hO2); clear hR2 hO2)
          | fail)
        go_roundw
        case rel => exact ⟨j + 1, _, rfl, by go_num, by omega, HR2, HO2⟩
        case measure => first | (simp [intOf]; done) | (simp [intOf]; omega)
    · have hjL : n + j = L8 := by omega
      have HCL := Aside0.mk (rbit_eof w0 ad g A c D (n + j) wr HR.out (HE.out.below HR.out.bel) (by rw [← HL8.out]; omega) (by have := HL8.out; omega))
      go_wp2_with (first
        | (go_at_call 52; (with_reducible refine HCL.out.mono ?_); intro e2 w2 hq; unfold IsRdA at hq; obtain ⟨rfl, hR2, hO2⟩ := hq; have HR2 := Aside0.mk hR2; have HO2 := Aside0.mk (HO.out.trans hO2); clear hR2 hO2)
        | fail)
      refine bodyPost_ret (results_tmp2 rfl _ _ _) rfl ⟨rfl, ?_, HO2.out⟩
      rw [← hjL]
      exact HR2.out
end Go.Proofs.YtfhkkojdaejnjaaDoor.Gcs
namespace Go.Proofs.YtfhkkojdaejnjaaDoor.Gcs
open Go.RowKit Go.Proofs.YtfhkkojdaejnjaaDoor.Hand Go.Proofs.YtfhkkojdaejnjaaDoor.Buf Go.Proofs.YtfhkkojdaejnjaaDoor.PFnForms Go.Proofs.YtfhkkojdaejnjaaDoorW.PrintWords Go.Proofs.YtfhkkojdaejnjaaDoorW.PrintLast Go.Proofs.YtfhkkojdaejnjaaDoorW.PrintMore

set_option maxRecDepth 100000 in
set_option maxHeartbeats 8000000 in
theorem full_calls (w0 : World) (ad : Addr) (gf g : Nat) (A : Option Addr) (c : Nat) (D : List Int) (n q p : Nat) (w : World) (hF : w0.cell? ⟨gf, 1, none⟩ = some (.int .u8 p)) (hR : RdS w0 w g A c D n) (hB : Bytes D)
    (h1 : ∀ i, i < q → bitAt D (n + i) = 1) (h0 : bitAt D (n + q) = 0) (hn : n + q + 1 + p ≤ 8 * D.length) (hp : p ≤ 24) (hD : D.length ≤ 100000) :
    Calls Tryd.prog 44 #[.pointer (some ⟨gf, 0, none⟩), .pointer (some ⟨g, 0, none⟩)] w (IsRdA w0 w g A c D (n + q + 1 + p) (.tuple #[.int .u64 ((q : Int) * 2 ^ p + numP D (n + q + 1) p), .nilIface])) := by
  have HF := Aside0.mk hF
  have HB := Aside0.mk hB
  have HBIT : Aside0 (∀ j, j ≤ q → (bitAt D (n + j) == 1) = decide (j < q)) := ⟨fun j hj => by
    by_cases h : j < q
    · rw [h1 j h, decide_eq_true h]; rfl
    · obtain rfl : j = q := by omega
      rw [h0, decide_eq_false h]; rfl⟩
  have HR0 : Aside0 (Calls Tryd.prog 52 #[.pointer (some ⟨g, 0, none⟩)] w (IsRdA w0 w g A c D (n + 0 + 1) (.tuple #[.bool (decide (0 < q)), .nilIface]))) := ⟨by rw [← HBIT.out 0 (Nat.zero_le _)]; exact rbit_calls w0 ad g A c D (n + 0) w hR hB (by omega) hD⟩
  have hnum := numP_lt D (n + q + 1) p
  have hpp : (2 : Int) ^ p ≤ 16777216 := by
    have h : (2 : Nat) ^ p ≤ 2 ^ 24 := Nat.pow_le_pow_right (by decide) hp
    have h2 := Int.ofNat_le.2 h
    rw [Int.natCast_pow] at h2
    exact h2
  have HVW : Aside0 (IntKind.u64.wrap (IntKind.u64.wrap ((q : Int) * 2 ^ p) + numP D (n + q + 1) p) = (q : Int) * 2 ^ p + numP D (n + q + 1) p) := ⟨by
    have hq : (q : Int) * 2 ^ p ≤ 800000 * 16777216 := Int.mul_le_mul (by omega) hpp (Int.le_of_lt (Int.pow_pos (by decide))) (by omega)
    have hq0 : 0 ≤ (q : Int) * 2 ^ p := Int.mul_nonneg (by omega) (Int.le_of_lt (Int.pow_pos (by decide)))
    rw [wrap_id (x := (q : Int) * 2 ^ p) hq0 (by omega), wrap_id (by omega) (by omega)]⟩
  have hq8 : q ≤ 800000 := by omega
  clear hF hR hB h1 h0 hnum hpp
  go_enter Tryd.func44, Tryd.ntmps44
  go_wp2_with (first
    | (go_at_call 52; (with_reducible refine HR0.out.mono ?_); intro e2 w2 hq; unfold IsRdA at hq; obtain ⟨rfl, hR2, hO2⟩ := hq; have HR2 := Aside0.mk hR2; have HO2 := Aside0.mk hO2; clear hR2 hO2)
    | fail)
  clear HR0
  go_loopw [6, 7, 8] (fun v6 v7 v8 wr => ∃ j : Nat, v6 = .int .u64 j ∧ v7 = .bool (decide (j < q)) ∧ v8 = .nilIface ∧ j ≤ q ∧ Aside0 (RdS w0 wr g A c D (n + j + 1)) ∧ Aside0 (Onl g w wr)) (fun v6 _ _ _ => q - (intOf v6).toNat)
  case atStart => exact ⟨0, rfl, by first | rfl | (simp; done), rfl, Nat.zero_le _, HR2, HO2⟩
  case round =>
    obtain ⟨j, rfl, rfl, rfl, hj, HR, HO⟩ := hrel
    clear HR2 HO2
    by_cases hjq : j < q
    · have HCL : Aside0 (Calls Tryd.prog 52 #[.pointer (some ⟨g, 0, none⟩)] wr (IsRdA w0 wr g A c D (n + (j + 1) + 1) (.tuple #[.bool (decide (j + 1 < q)), .nilIface]))) := ⟨by rw [← HBIT.out (j + 1) (by omega)]; exact rbit_calls w0 ad g A c D (n + (j + 1)) wr HR.out HB.out (by omega) hD⟩
      rw [decide_eq_true hjq]
      go_wp2_with (first
        | (go_at_call 52; (with_reducible refine HCL.out.mono ?_); intro e2 w2 hq; unfold IsRdA at hq; obtain ⟨rfl, hR2, hO2⟩ := hq; have HR2 := Aside0.mk hR2; have HO2 := Aside0.mk (HO.out.trans hO2); clear hR2 hO2)
        | fail)
      go_roundw
      case rel => exact ⟨j + 1, by go_num, rfl, rfl, by omega, HR2, HO2⟩
      case measure => first | (simp [intOf]; done) | (simp [intOf]; omega)
    · obtain rfl : j = q := by omega
      rw [decide_eq_false hjq]
      have kp : wr.cell? ⟨gf, 1, none⟩ = some (.int .u8 p) := (HR.out.bel.cell (p := ⟨gf, 1, none⟩) (World.block_lt_of_cell? w0 _ HF.out)).trans HF.out
      have HCL : Aside0 (Calls Tryd.prog 53 #[.pointer (some ⟨g, 0, none⟩), .int .i64 p] wr (IsRdA w0 wr g A c D (n + j + 1 + p) (.tuple #[.int .u64 (numP D (n + j + 1) p), .nilIface]))) := ⟨rbits_calls w0 ad g A c D (n + j + 1) p wr HR.out HB.out hn (by omega) hD⟩
      go_wp2_with (first
        | (go_at_call 53; (with_reducible refine HCL.out.mono ?_); intro e2 w2 hq; unfold IsRdA at hq; obtain ⟨rfl, hR2, hO2⟩ := hq; have HR2 := Aside0.mk hR2; have HO2 := Aside0.mk (HO.out.trans hO2); clear kp; have kp : w2.cell? ⟨gf, 1, none⟩ = some (.int .u8 p) := (hR2.bel.cell (p := ⟨gf, 1, none⟩) (World.block_lt_of_cell? w0 _ HF.out)).trans HF.out; clear hR2 hO2)
        | fail)
      refine bodyPost_ret (results_tmp2 rfl _ _ _) rfl ⟨?_, HR2.out, HO2.out⟩
      rw [← HVW.out]
      rfl
def IsEnd (w : World) (ad : Addr) (g : Nat) (e : Ending) (w' : World) : Prop := e = .returned (.tuple #[.int .u64 0, eofV ad]) ∧ Onl g w w'
set_option maxRecDepth 100000 in
set_option maxHeartbeats 8000000 in
theorem full_eof (w0 : World) (ad : Addr) (gf g : Nat) (A : Option Addr) (c : Nat) (D : List Int) (n p : Nat) (w : World) (hF : w0.cell? ⟨gf, 1, none⟩ = some (.int .u8 p)) (hR : RdS w0 w g A c D n) (hE : Eof w0 ad) (hB : Bytes D)
    (hn : n ≤ 8 * D.length) (h0 : n < 8 * D.length → bitAt D n = 0) (hl : 8 * D.length < n + 1 + p) (hp : p ≤ 24) (hD : D.length ≤ 100000) :
    Calls Tryd.prog 44 #[.pointer (some ⟨gf, 0, none⟩), .pointer (some ⟨g, 0, none⟩)] w (IsEnd w ad g) := by
  by_cases hnl : n < 8 * D.length
  · have HF := Aside0.mk hF
    have HB := Aside0.mk hB
    have HE := Aside0.mk hE
    have HR0 : Aside0 (Calls Tryd.prog 52 #[.pointer (some ⟨g, 0, none⟩)] w (IsRdA w0 w g A c D (n + 1) (.tuple #[.bool false, .nilIface]))) := ⟨by
      have h := rbit_calls w0 ad g A c D n w hR hB hnl hD
      rw [h0 hnl] at h
      exact h⟩
    have HQ : Aside0 (∀ W, RdS w0 W g A c D (n + 1) → Calls Tryd.prog 53 #[.pointer (some ⟨g, 0, none⟩), .int .i64 p] W (IsRdA w0 W g A c D (8 * D.length) (.tuple #[.int .u64 0, eofV ad]))) := ⟨fun W h => rbits_eof w0 ad g A c D (n + 1) p W h hE hB (by omega) (by omega) (by omega) hD⟩
    clear hF hR hE hB h0 hn hl
    go_enter Tryd.func44, Tryd.ntmps44
    go_wp2_with (first
      | (go_at_call 52; (with_reducible refine HR0.out.mono ?_); intro e2 w2 hq; unfold IsRdA at hq; obtain ⟨rfl, hR2, hO2⟩ := hq; have HR2 := Aside0.mk hR2; have HO2 := Aside0.mk hO2; clear hR2 hO2)
      | fail)
    go_loopw [6, 7, 8] (fun v6 v7 v8 wr => v6 = .int .u64 0 ∧ v7 = .bool false ∧ v8 = .nilIface ∧ Aside0 (RdS w0 wr g A c D (n + 1)) ∧ Aside0 (Onl g w wr)) (fun _ _ _ _ => 0)
    case atStart => exact ⟨rfl, rfl, rfl, HR2, HO2⟩
    case round =>
      obtain ⟨rfl, rfl, rfl, HR, HO⟩ := hrel
      clear HR2 HO2
      have kp : wr.cell? ⟨gf, 1, none⟩ = some (.int .u8 p) := (HR.out.bel.cell (p := ⟨gf, 1, none⟩) (World.block_lt_of_cell? w0 _ HF.out)).trans HF.out
      go_wp2_with (first
        | (go_at_call 53; (with_reducible refine (HQ.out _ HR.out).mono ?_); intro e2 w2 hq; unfold IsRdA at hq; obtain ⟨rfl, hR2, hO2⟩ := hq; have HO2 := Aside0.mk (HO.out.trans hO2); clear hR2 hO2)
        | fail)
      exact bodyPost_ret (results_tmp2 rfl _ _ _) rfl ⟨rfl, HO2.out⟩
  · have HR0 : Aside0 (Calls Tryd.prog 52 #[.pointer (some ⟨g, 0, none⟩)] w (IsRdA w0 w g A c D n (.tuple #[.bool false, eofV ad]))) := ⟨rbit_eof w0 ad g A c D n w hR (hE.below hR.bel) (by omega) (by omega)⟩
    clear hF hR hE hB h0 hn hl hnl
    go_enter Tryd.func44, Tryd.ntmps44
    go_wp2_with (first
      | (go_at_call 52; (with_reducible refine HR0.out.mono ?_); intro e2 w2 hq; unfold IsRdA at hq; obtain ⟨rfl, hR2, hO2⟩ := hq; have HO2 := Aside0.mk hO2; clear hR2 hO2)
      | fail)
    exact bodyPost_ret (results_tmp2 rfl _ _ _) rfl ⟨rfl, HO2.out⟩
end Go.Proofs.YtfhkkojdaejnjaaDoor.Gcs
namespace Go.Proofs.YtfhkkojdaejnjaaDoor.Gcs
open Go.RowKit Go.Proofs.YtfhkkojdaejnjaaDoor.Hand Go.Proofs.YtfhkkojdaejnjaaDoor.PFnForms Go.Proofs.YtfhkkojdaejnjaaDoorW.PrintWords Go.Proofs.YtfhkkojdaejnjaaDoorW.PrintLast Go.Proofs.YtfhkkojdaejnjaaDoorW.PrintMore

/-- The value before place i, the difference there, where its bits begin. -/
def pv (S : List Int) (i : Nat) : Int := if i = 0 then 0 else S.getD (i - 1) 0
def dl (S : List Int) (i : Nat) : Int := S.getD i 0 - pv S i
def posS (p : Nat) (S : List Int) (i : Nat) : Nat := (bitsB p S i).length
theorem pv_next (S : List Int) (i : Nat) : pv S i + dl S i = pv S (i + 1) := by
  unfold dl
  have : pv S (i + 1) = S.getD i 0 := by unfold pv; rw [if_neg (by omega)]; rfl
  omega
theorem bitsB_next (p : Nat) (S : List Int) (i : Nat) : bitsB p S (i + 1) = bitsB p S i ++ diffB p (dl S i) := rfl
theorem bitsB_at (p : Nat) (S : List Int) (k : Nat) : ∀ n, k ≤ n → posS p S k ≤ posS p S n ∧ ∀ j, j < posS p S k → (bitsB p S n).getD j 0 = (bitsB p S k).getD j 0
  | 0, h => by
    obtain rfl : k = 0 := by omega
    exact ⟨Nat.le_refl _, fun _ _ => rfl⟩
  | n + 1, h => by
    by_cases e : k = n + 1
    · subst e; exact ⟨Nat.le_refl _, fun _ _ => rfl⟩
    · obtain ⟨h1, h2⟩ := bitsB_at p S k n (by omega)
      have hle : posS p S n ≤ posS p S (n + 1) := by unfold posS; rw [bitsB_next, List.length_append]; omega
      refine ⟨Nat.le_trans h1 hle, fun j hj => ?_⟩
      rw [bitsB_next, List.getD_eq_getElem?_getD, List.getElem?_append_left (Nat.lt_of_lt_of_le hj h1), ← List.getD_eq_getElem?_getD]
      exact h2 j hj
theorem bitsB_diff (p : Nat) (S : List Int) (i n : Nat) (hi : i < n) (t : Nat) (ht : t < (diffB p (dl S i)).length) : (bitsB p S n).getD (posS p S i + t) 0 = (diffB p (dl S i)).getD t 0 := by
  have hl : posS p S (i + 1) = posS p S i + (diffB p (dl S i)).length := by unfold posS; rw [bitsB_next, List.length_append]
  rw [(bitsB_at p S (i + 1) n hi).2 _ (by omega), bitsB_next, List.getD_eq_getElem?_getD, List.getElem?_append_right (by unfold posS; omega), ← List.getD_eq_getElem?_getD]
  congr 1
  unfold posS; omega
/-- The stream's bytes. -/
def datS (p : Nat) (S : List Int) (n : Nat) : List Int := packB (bitsB p S n)
theorem datS_bytes (p : Nat) (S : List Int) (n : Nat) : Bytes (datS p S n) := (outB_facts _ _).2
theorem datS_len (p : Nat) (S : List Int) (n : Nat) : posS p S n ≤ 8 * (datS p S n).length ∧ 8 * (datS p S n).length < posS p S n + 8 := by
  unfold datS posS
  rw [packB_length]
  omega
theorem datS_bit (p : Nat) (S : List Int) (n j : Nat) : bitAt (datS p S n) j = (bitsB p S n).getD j 0 := bitAt_pack _ (bitsB_bit p S n) j
theorem datS_pad (p : Nat) (S : List Int) (n j : Nat) (h : posS p S n ≤ j) : bitAt (datS p S n) j = 0 := by
  rw [datS_bit, List.getD_eq_getElem?_getD, List.getElem?_eq_none h]
  rfl
theorem diff_parts (p : Nat) (d : Int) (q : Nat) (hq : d / 2 ^ p = (q : Int)) : diffB p d = List.replicate q 1 ++ [0] ++ restB p d p := by
  unfold diffB
  rw [hq]; rfl
/-- What is read at place i. -/
theorem next_facts (p : Nat) (S : List Int) (i n : Nat) (hi : i < n) (h0 : 0 ≤ dl S i) : ∃ q : Nat, (∀ t, t < q → bitAt (datS p S n) (posS p S i + t) = 1) ∧ bitAt (datS p S n) (posS p S i + q) = 0 ∧
    posS p S i + q + 1 + p = posS p S (i + 1) ∧ posS p S (i + 1) ≤ 8 * (datS p S n).length ∧ (q : Int) * 2 ^ p + numP (datS p S n) (posS p S i + q + 1) p = dl S i := by
  have hpp : (0 : Int) < 2 ^ p := Int.pow_pos (by decide)
  obtain ⟨q, hq⟩ := Int.eq_ofNat_of_zero_le (Int.ediv_nonneg h0 (Int.le_of_lt hpp))
  have hd := diff_parts p (dl S i) q hq
  have hdl : (diffB p (dl S i)).length = q + 1 + p := by rw [hd]; simp only [List.length_append, List.length_replicate, List.length_singleton, restB_length]
  have hle := (bitsB_at p S (i + 1) n hi).1
  have hlen := (datS_len p S n).1
  refine ⟨q, fun t ht => ?_, ?_, ?_, Nat.le_trans hle hlen, ?_⟩
  · rw [datS_bit, bitsB_diff p S i n hi t (by omega), hd, List.getD_eq_getElem?_getD, List.getElem?_append_left (by simp; omega), List.getElem?_append_left (by simpa using ht), List.getElem?_replicate, if_pos ht]
    rfl
  · rw [datS_bit, bitsB_diff p S i n hi q (by omega), hd, List.getD_eq_getElem?_getD, List.getElem?_append_left (by simp), List.getElem?_append_right (by simp), List.length_replicate, Nat.sub_self]
    rfl
  · unfold posS at hdl ⊢
    rw [bitsB_next, List.length_append, hdl]
    omega
  · rw [numP_full (datS p S n) (posS p S i + q + 1) p (dl S i) fun t ht => ?_]
    · rw [← hq, Int.mul_comm]
      exact Int.mul_ediv_add_emod (dl S i) (2 ^ p)
    · rw [Nat.add_assoc (posS p S i), Nat.add_assoc (posS p S i), datS_bit, bitsB_diff p S i n hi (q + 1 + t) (by omega), hd, List.getD_eq_getElem?_getD, List.getElem?_append_right (by simp only [List.length_append, List.length_replicate, List.length_singleton]; omega), ← List.getD_eq_getElem?_getD]
      have e : q + 1 + t - (List.replicate q (1 : Int) ++ [0]).length = t := by simp only [List.length_append, List.length_replicate, List.length_singleton]; omega
      rw [e]
      exact restB_get p (dl S i) p (Nat.le_refl _) t ht
/-- A sorted list of numbers from 0 on: the differences are none below 0. -/
theorem dl_pos {S : List Int} (h : Srt S) (h0 : ∀ x ∈ S, 0 ≤ x) (i : Nat) (hi : i < S.length) : 0 ≤ dl S i ∧ 0 ≤ pv S i := by
  have e : S.getD i 0 = S[i] := getD_mem hi
  have hx := h0 (S[i]) (List.getElem_mem _)
  unfold dl
  rw [e]
  by_cases hz : i = 0
  · have : pv S i = 0 := by unfold pv; rw [if_pos hz]
    omega
  · have e2 : pv S i = S[i - 1] := by unfold pv; rw [if_neg hz, getD_mem (by omega)]
    have := List.pairwise_iff_getElem.1 h (i - 1) i (by omega) hi (by omega)
    have h3 := h0 (S[i - 1]) (List.getElem_mem _)
    omega
end Go.Proofs.YtfhkkojdaejnjaaDoor.Gcs
namespace Go.Proofs.YtfhkkojdaejnjaaDoor.Gcs
open Go.RowKit Go.Proofs.YtfhkkojdaejnjaaDoor.Hand Go.Proofs.YtfhkkojdaejnjaaDoor.Buf Go.Proofs.YtfhkkojdaejnjaaDoor.PFnForms Go.Proofs.YtfhkkojdaejnjaaDoorW.PrintWords Go.Proofs.YtfhkkojdaejnjaaDoorW.PrintLast Go.Proofs.YtfhkkojdaejnjaaDoorW.PrintMore

theorem RdS.below {w0 w w1 : World} {g c n : Nat} {A : Option Addr} {D : List Int} (h : RdS w0 w g A c D n) (hb : Below w.heap.size w w1) : RdS w0 w1 g A c D n :=
  ⟨h.hg, (hb.block g (blk_lt h.blk)).trans h.blk, h.C, below_step h.bel hb⟩
def IsRdr (w : World) (A : Option Addr) (c : Nat) (D : List Int) (e : Ending) (w' : World) : Prop := e = .returned (.pointer (some ⟨w.heap.size, 0, none⟩)) ∧ RdS w w' w.heap.size A c D 0 ∧ Below w.heap.size w w'
theorem reader_calls (A : Option Addr) (c : Nat) (D : List Int) (w : World) (hC : Kd.C (Kd.int .u8) w A D.length D) : Calls Tryd.prog 43 #[.slice A D.length c] w (IsRdr w A c D) := by
  have HC := Aside0.mk hC
  have HB := Aside0.mk (Below.refl w.heap.size w)
  obtain ⟨L, hL⟩ : ∃ L, L = D.length := ⟨_, rfl⟩
  have HL := Aside0.mk hL
  rw [← hL]
  clear hC hL
  go_enter Tryd.func43, Tryd.ntmps43
  go_wp2_with (first
    | ((with_reducible refine gate_dst (N := 5) rfl ?_); refine box_event ?hg (N := 5) ?hd (cs := #[.slice A L c, .int .i64 0]) (t := 87) ?hr ?_; (case hd => rfl); (case hg => rfl); (case hr => first | (go_simp; done) | (go_simp; rfl)); intro g hg w1 hbox hb1; have HX := Aside0.mk hbox; have HB1 := Aside0.mk (below_step HB.out hb1); have HG := Aside0.mk hg; clear hg hbox hb1)
    | fail)
  refine bodyPost_ret (results_tmp rfl _ _ _) rfl ?_
  have hg := HG.out
  have hx := HX.out
  subst hg
  rw [HL.out] at hx
  exact ⟨rfl, ⟨Nat.le_refl _, hx, HC.out, HB1.out⟩, HB1.out⟩
/-- A filter of coded values. -/
structure CF (w : World) (f : Nat) (p n : Nat) (md : Int) (A : Option Addr) (c : Nat) (S : List Int) : Prop where
  flt : Flt w f n p md A c (datS p S n)
  len : S.length = n
  srt : Srt S
  rng : ∀ x ∈ S, 0 ≤ x ∧ x < md
  hn : n ≤ 20
  hp : p ≤ 24
  hm : md ≤ 5368709120
  dlen : (datS p S n).length ≤ 2000
theorem CF.below {w w1 : World} {f p n c : Nat} {md : Int} {A : Option Addr} {S : List Int} (h : CF w f p n md A c S) (hb : Below w.heap.size w w1) : CF w1 f p n md A c S :=
  ⟨h.flt.below hb, h.len, h.srt, h.rng, h.hn, h.hp, h.hm, h.dlen⟩
theorem CF.dl0 {w : World} {f p n c : Nat} {md : Int} {A : Option Addr} {S : List Int} (h : CF w f p n md A c S) (i : Nat) (hi : i < n) : 0 ≤ dl S i ∧ 0 ≤ pv S i := dl_pos h.srt (fun x hx => (h.rng x hx).1) i (by rw [h.len]; exact hi)
theorem CF.val {w : World} {f p n c : Nat} {md : Int} {A : Option Addr} {S : List Int} (h : CF w f p n md A c S) (i : Nat) (hi : i < n) : 0 ≤ S.getD i 0 ∧ S.getD i 0 < md := by
  rw [getD_mem (by rw [h.len]; exact hi)]
  exact h.rng _ (List.getElem_mem _)
theorem CF.le {w : World} {f p n c : Nat} {md : Int} {A : Option Addr} {S : List Int} (h : CF w f p n md A c S) (i j : Nat) (hij : i ≤ j) (hj : j < n) : S.getD i 0 ≤ S.getD j 0 := by
  rw [getD_mem (by rw [h.len]; omega), getD_mem (by rw [h.len]; omega)]
  by_cases e : i = j
  · subst e; exact Int.le_refl _
  · exact List.pairwise_iff_getElem.1 h.srt i j (by rw [h.len]; omega) (by rw [h.len]; omega) (by omega)
/-- The next difference is read. -/
theorem next_calls {w0 : World} (ad : Addr) {f p n c c1 : Nat} {md : Int} {A A1 : Option Addr} {S : List Int} (h : CF w0 f p n md A c S) (g i : Nat) (hi : i < n) (W : World) (hR : RdS w0 W g A1 c1 (datS p S n) (posS p S i)) :
    Calls Tryd.prog 44 #[.pointer (some ⟨f, 0, none⟩), .pointer (some ⟨g, 0, none⟩)] W (IsRdA w0 W g A1 c1 (datS p S n) (posS p S (i + 1)) (.tuple #[.int .u64 (dl S i), .nilIface])) := by
  obtain ⟨q, h1, h2, h3, h4, h5⟩ := next_facts p S i n hi (h.dl0 i hi).1
  have hc := full_calls w0 ad f g A1 c1 (datS p S n) (posS p S i) q p W h.flt.cells.2.1 hR (datS_bytes p S n) h1 h2 (by rw [h3]; exact h4) h.hp (by have := h.dlen; omega)
  rwa [h3, h5] at hc

set_option maxRecDepth 100000 in
set_option maxHeartbeats 16000000 in
theorem match_calls (ad : Addr) (f p n : Nat) (md : Int) (A : Option Addr) (c : Nat) (S ks b : List Int) (A0 : Option Addr) (c0 : Nat) (w : World) (i0 : Nat) (hF : CF w f p n md A c S) (hE : Eof w ad) (hk : ks.length = 16) (hkb : Bytes ks)
    (hC : Kd.C (Kd.int .u8) w A0 b.length b) (hc0 : b.length ≤ c0) (hb60 : b.length ≤ 1000) (hbb : Bytes b) (hi : i0 < n) (ht : S.getD i0 0 = valI ks md b) :
    Calls Tryd.prog 24 #[.pointer (some ⟨f, 0, none⟩), .agg (ks.map (Value.int .u8)).toArray, .slice A0 b.length c0] w fun e w' => e = .returned (.tuple #[.bool true, .nilIface]) ∧ Below w.heap.size w w' := by
  obtain ⟨X, hX⟩ : ∃ X, X = (ks.map (Value.int .u8)).toArray := ⟨_, rfl⟩
  rw [← hX]
  have HX := Aside0.mk hX
  have HF := Aside0.mk hF
  have HE := Aside0.mk hE
  have HC := Aside0.mk hC
  have HT := Aside0.mk ht
  have HK := Aside0.mk hk
  have HKY := Aside0.mk hkb
  have HBB := Aside0.mk hbb
  have hn20 := hF.hn
  have hmd := hF.hm
  have hmd0 : 0 ≤ md := by have := hF.val i0 hi; omega
  obtain ⟨D, hD⟩ : ∃ D, D = datS p S n := ⟨_, rfl⟩
  have HD := Aside0.mk hD
  have HBY := Aside0.mk (bytes_calls f n p md A c (datS p S n))
  rw [← hD] at HBY
  obtain ⟨L, hL⟩ : ∃ L, L = D.length := ⟨_, rfl⟩
  have HL := Aside0.mk hL
  have hsl := sip_lo ks b
  have HB := Aside0.mk (Below.refl w.heap.size w)
  obtain ⟨bl, hbl⟩ : ∃ bl, bl = b.length := ⟨_, rfl⟩
  have HBLN := Aside0.mk hbl
  rw [← hbl]
  clear hX hF hE hC ht hk hkb hbb hD hL hbl
  go_enter Tryd.func24, Tryd.ntmps24
  go_wp2_with (first
    | ((with_reducible refine gate_dst (N := 4) rfl ?_); refine box_event ?hg (N := 4) ?hd (cs := X) (t := 23) ?hr ?_; (case hd => rfl); (case hg => rfl); (case hr => first | (go_simp; done) | (go_simp; rfl)); intro gk hg w1 hbox hb1; have HKB := Aside0.mk hbox; have HB1 := Aside0.mk (below_step HB.out hb1); have HF1 := Aside0.mk (HF.out.below HB1.out); clear hg hbox hb1)
    | (go_at_call 18; (with_reducible refine (HBY.out _ (by rw [HD.out]; exact HF1.out.flt) (by have := HF1.out.dlen; rw [HD.out]; omega)).mono ?_); intro e2 w2 hq; unfold IsCopy at hq; obtain ⟨gb, rfl, hby, _, hb2⟩ := hq; rw [← HL.out]; have HC2 := Aside0.mk (C_by8 hby (by have := HF1.out.dlen; rw [HD.out]; omega)); have HB2 := Aside0.mk (below_step HB1.out hb2); have HK2 := Aside0.mk ((hb2.block gk (blk_lt HKB.out)).trans HKB.out); clear hby hb2)
    | (go_at_call 43; (with_reducible refine (show Calls Tryd.prog 43 #[.slice (some ⟨gb, 0, none⟩) L L] w2 (IsRdr w2 (some ⟨gb, 0, none⟩) L D) by rw [HL.out]; exact reader_calls _ _ D w2 HC2.out).mono ?_); intro e3 w3 hq; unfold IsRdr at hq; obtain ⟨rfl, hR3, hb3⟩ := hq; have HR3 := Aside0.mk hR3; have HB3 := Aside0.mk (below_step HB2.out hb3); have HK3 := Aside0.mk ((hb3.block gk (blk_lt HK2.out)).trans HK2.out); have k2 : w3.cell? ⟨f, 2, none⟩ = some (.int .u64 md) := (HF.out.below HB3.out).flt.cells.2.2.1; clear hR3 hb3)
    | (go_at_call 34; (with_reducible refine (show Calls Tryd.prog 34 #[.slice A0 bl c0, .pointer (some ⟨gk, 0, none⟩)] w3 (IsU64 w3 (sipP ks b)) by rw [HBLN.out]; exact zzsip_calls ks gk A0 b.length c0 b w3 HK.out HKY.out (by have h := C_of_block (w := w3) (g := gk) (k := .u8) (xs := ks) (e := 23) (fr := (0, 0)) (by rw [HK3.out, HX.out]) (by rw [HK.out]; omega); rwa [HK.out] at h) (Kd.C_below HC.out HB3.out) rfl hc0 hb60 HBB.out).mono ?_); intro e4 w4 hq; unfold IsU64 at hq; obtain ⟨rfl, hb4⟩ := hq; have HR4 := Aside0.mk (HR3.out.below hb4); have HB4 := Aside0.mk (below_step HB3.out hb4); clear hb4 k2)
    | (go_at_call 35; (with_reducible refine (fast_calls (sipP ks b) md _ hsl.1 hsl.2 hmd0 (by omega)).mono ?_); rintro e5 w5 ⟨rfl, hw5⟩; have HW5 := Aside0.mk hw5; have HR5 := Aside0.mk (by rw [← hw5] at HR4; exact HR4.out); have HB5 : Aside0 (Below w.heap.size w w5) := ⟨by rw [hw5]; exact HB4.out⟩; clear hw5)
    | fail)
  have HTV : Aside0 (sipP ks b * md / 18446744073709551616 = S.getD i0 0) := ⟨HT.out.symm⟩
  rw [HTV.out]
  have HF2 := Aside0.mk (HF.out.below HB2.out)
  obtain ⟨gr, hgr⟩ : ∃ gr, gr = w2.heap.size := ⟨_, rfl⟩
  rw [← hgr] at HR5 ⊢
  have HGR : Aside0 (w.heap.size ≤ gr) := ⟨by rw [hgr]; exact HB2.out.size⟩
  have HR0 : Aside0 (RdS w2 w5 gr (some ⟨gb, 0, none⟩) L (datS p S n) (posS p S 0)) := ⟨by rw [← HD.out]; exact HR5.out⟩
  clear hgr HR3 HR4 HR5 HB1 HB2 HB3 HB4 HF1 HC2 HK2 HK3 HKB HTV HW5 hsl HBY hc0 hb60
  go_loopw [14, 15] (fun v14 v15 wr => ∃ i : Nat, v14 = .int .u64 (pv S i) ∧ v15 = .int .u32 i ∧ i ≤ i0 ∧ Aside0 (RdS w2 wr gr (some ⟨gb, 0, none⟩) L (datS p S n) (posS p S i)) ∧ Aside0 (Below w.heap.size w wr)) (fun _ v15 _ => n - (intOf v15).toNat)
  case atStart => exact ⟨0, rfl, rfl, Nat.zero_le _, HR0, HB5⟩
  case round =>
    obtain ⟨i, rfl, rfl, hii, HR, HBr⟩ := hrel
    clear HR0 HB5
    have hin : i < n := by omega
    have HNC := Aside0.mk (N_calls f n p md A c (datS p S n) wr (HF.out.below HBr.out).flt)
    have HNX := Aside0.mk (next_calls ad HF2.out gr i hin wr HR.out)
    have HPN := Aside0.mk (pv_next S i)
    have HPS : Aside0 (pv S (i + 1) = S.getD i 0) := ⟨by unfold pv; rw [if_neg (by omega)]; rfl⟩
    obtain ⟨hd0, hp0⟩ := HF2.out.dl0 i hin
    obtain ⟨hv0, hv1⟩ := HF2.out.val i hin
    have hle := HF2.out.le i i0 hii hi
    have hsum : pv S i + dl S i = S.getD i 0 := by rw [HPN.out, HPS.out]
    have hne : S.getD i 0 ≠ S.getD i0 0 → i < i0 := fun h => by
      by_cases e : i = i0
      · subst e; exact absurd rfl h
      · omega
    generalize dl S i = d at HNX hd0 hsum
    generalize pv S i = a at hp0 hsum ⊢
    generalize S.getD i0 0 = t at hle hne ⊢
    generalize S.getD i 0 = v at hv0 hv1 hle hsum hne HPS
    clear HPN
    have hw : IntKind.u64.wrap (a + d) = v := by rw [IntKind.wrap_u64, hsum]; omega
    by_cases hvt : v = t
    · clear hne hle
      subst hvt
      go_wp2_with (first
        | (go_at_call 19; (with_reducible refine HNC.out.mono ?_); rintro e6 w6 ⟨rfl, hw6⟩; have HW6 := Aside0.mk hw6; clear hw6)
        | (go_at_call 44; (with_reducible refine (show Calls Tryd.prog 44 _ w6 _ by rw [HW6.out]; exact HNX.out).mono ?_); intro e7 w7 hq; unfold IsRdA at hq; obtain ⟨rfl, hR7, hO7⟩ := hq; have HB7 := Aside0.mk (hO7.bel _ _ HGR.out HBr.out); clear hR7 hO7)
        | fail)
      exact bodyPost_ret (results_tmp2 rfl _ _ _) rfl ⟨rfl, HB7.out⟩
    · have hi1 := hne hvt
      have hgt : ¬ t < v := by omega
      clear hne hle
      go_wp2_with (first
        | (go_at_call 19; (with_reducible refine HNC.out.mono ?_); rintro e6 w6 ⟨rfl, hw6⟩; have HW6 := Aside0.mk hw6; clear hw6)
        | (go_at_call 44; (with_reducible refine (show Calls Tryd.prog 44 _ w6 _ by rw [HW6.out]; exact HNX.out).mono ?_); intro e7 w7 hq; unfold IsRdA at hq; obtain ⟨rfl, hR7, hO7⟩ := hq; have HR7 := Aside0.mk hR7; have HB7 := Aside0.mk (hO7.bel _ _ HGR.out HBr.out); clear hR7 hO7)
        | fail)
      go_roundw
      case rel => exact ⟨i + 1, by rw [HPS.out], by go_num, by omega, HR7, HB7⟩
      case measure => first | (simp [intOf]; done) | (simp [intOf]; omega)
end Go.Proofs.YtfhkkojdaejnjaaDoor.Gcs
