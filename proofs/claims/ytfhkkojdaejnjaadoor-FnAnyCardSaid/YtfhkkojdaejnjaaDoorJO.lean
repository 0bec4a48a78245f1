/-
  Bits in bytes: written one by one, read one by one.
  Eight bytes as a number, two ways of reckoning.
  gcs.zzWord, binary.LittleEndian.Uint64, gcs.zzSip: SipHash as the package reckons it.
  gcs.zzSip: what spec.Sip says.
  gcs.fastReduction is the upper half of the product.
-/
import Derived.Test.YtfhkkojdaejnjaaDoorJA
import Derived.Laws.Bits64b
import Derived.Lib.EndianZ
import Derived.Test.YtfhkkojdaejnjaaDoorJN
import Derived.Shelf.Bin.ReadersZ
import Derived.Ground.MnProg
import Derived.Deep.RegionWith
import Derived.Deep.Cut
set_option linter.unusedVariables false
namespace Go.Proofs.YtfhkkojdaejnjaaDoor.Gcs
open Go.RowKit Go.Proofs.YtfhkkojdaejnjaaDoor.Hand Go.Proofs.YtfhkkojdaejnjaaDoor.PFnForms Go.Proofs.YtfhkkojdaejnjaaDoorW.PrintWords Go.Proofs.YtfhkkojdaejnjaaDoorW.PrintLast Go.Proofs.YtfhkkojdaejnjaaDoorW.PrintMore

/-- The bytes of bits, whole. -/
def packB (bs : List Int) : List Int := outB bs bs.length
theorem packB_length (bs : List Int) : (packB bs).length = (bs.length + 7) / 8 := (outB_facts bs _).1
theorem setB_append (o z : List Int) (i : Nat) (b : Int) (h : i / 8 < o.length) : setB (o ++ z) i b = setB o i b ++ z := by
  unfold setB
  rw [List.set_append_left _ _ h, List.getD_eq_getElem?_getD, List.getD_eq_getElem?_getD, List.getElem?_append_left h]
theorem outB_more (bs : List Int) (b : Int) : ∀ k, k ≤ bs.length → outB (bs ++ [b]) k = outB bs k ++ List.replicate ((bs.length + 8) / 8 - (bs.length + 7) / 8) 0
  | 0, _ => by
    unfold outB
    rw [List.length_append, List.length_singleton, List.replicate_append_replicate]
    congr 1; omega
  | k + 1, h => by
    show setB (outB (bs ++ [b]) k) k ((bs ++ [b]).getD k 0) = setB (outB bs k) k (bs.getD k 0) ++ _
    rw [outB_more bs b k (by omega), setB_append _ _ _ _ (by rw [(outB_facts bs k).1]; omega)]
    congr 1
    rw [List.getD_eq_getElem?_getD, List.getD_eq_getElem?_getD, List.getElem?_append_left (by omega)]
theorem packB_snoc (bs : List Int) (b : Int) : packB (bs ++ [b]) = setB (if bs.length % 8 = 0 then packB bs ++ [0] else packB bs) bs.length b := by
  unfold packB
  rw [List.length_append, List.length_singleton]
  show setB (outB (bs ++ [b]) bs.length) bs.length ((bs ++ [b]).getD bs.length 0) = _
  rw [outB_more bs b _ (Nat.le_refl _)]
  have e : (bs ++ [b]).getD bs.length 0 = b := by simp [List.getD_eq_getElem?_getD]
  rw [e]
  by_cases h : bs.length % 8 = 0
  · rw [if_pos h, show (bs.length + 8) / 8 - (bs.length + 7) / 8 = 1 by omega]
    rfl
  · rw [if_neg h, show (bs.length + 8) / 8 - (bs.length + 7) / 8 = 0 by omega, List.replicate_zero, List.append_nil]
/-- The bit at a place of bytes. -/
def bitAt (D : List Int) (i : Nat) : Int := D.getD (i / 8) 0 / 2 ^ (7 - i % 8) % 2
theorem or_bit : ∀ x : Fin 256, ∀ k j : Fin 8, (x.val : Int) / 2 ^ j.val % 2 = 0 → Go.bits .or .u8 (x.val : Int) (IntKind.u8.wrap (1 * 2 ^ j.val)) / 2 ^ k.val % 2 = (if k = j then 1 else (x.val : Int) / 2 ^ k.val % 2) := by decide +kernel
theorem or_none : ∀ x : Fin 256, ∀ j : Fin 8, Go.bits .or .u8 (x.val : Int) (IntKind.u8.wrap (0 * 2 ^ j.val)) = (x.val : Int) := by decide +kernel
end Go.Proofs.YtfhkkojdaejnjaaDoor.Gcs
namespace Go.Proofs.YtfhkkojdaejnjaaDoor.Gcs
open Go.RowKit Go.Proofs.YtfhkkojdaejnjaaDoor.Hand Go.Proofs.YtfhkkojdaejnjaaDoor.PFnForms Go.Proofs.YtfhkkojdaejnjaaDoorW.PrintWords Go.Proofs.YtfhkkojdaejnjaaDoorW.PrintLast Go.Proofs.YtfhkkojdaejnjaaDoorW.PrintMore

def Bytes (l : List Int) : Prop := ∀ x ∈ l, 0 ≤ x ∧ x < 256
theorem leZ_lt : ∀ (t : List Int), Bytes t → 0 ≤ Lib.leZ t ∧ Lib.leZ t < 256 ^ t.length
  | [], _ => ⟨Int.le_refl _, by decide⟩
  | z :: r, h => by
    obtain ⟨h1, h2⟩ := leZ_lt r (fun x hx => h x (List.mem_cons_of_mem _ hx))
    obtain ⟨h3, h4⟩ := h z List.mem_cons_self
    show 0 ≤ z + 256 * Lib.leZ r ∧ z + 256 * Lib.leZ r < 256 ^ (r.length + 1)
    rw [Int.pow_succ]
    generalize (256 : Int) ^ r.length = p at h2 ⊢
    omega
theorem or_low (x b : Int) (hx : 0 ≤ x) (hx2 : x < 72057594037927936) (hb : 0 ≤ b) (hb2 : b < 256) : wstep x b = b + 256 * x := by
  obtain ⟨n, rfl⟩ := Int.eq_ofNat_of_zero_le hx
  obtain ⟨m, rfl⟩ := Int.eq_ofNat_of_zero_le hb
  unfold wstep
  rw [IntKind.wrap_u64, IntKind.wrap_u64, show ((n : Int) * 256 % 18446744073709551616) = ((2 ^ 8 * n : Nat) : Int) by omega, show ((m : Int) % 18446744073709551616) = (m : Int) by omega, bits_or_u64_nat _ _ (by omega) (by omega), ← Nat.two_pow_add_eq_or_of_lt (by omega)]
  omega
theorem foldr_leZ : ∀ (t : List Int), Bytes t → t.length ≤ 8 → t.foldr (fun b x => wstep x b) 0 = Lib.leZ t
  | [], _, _ => rfl
  | z :: r, h, hl => by
    have hr : Bytes r := fun x hx => h x (List.mem_cons_of_mem _ hx)
    obtain ⟨h1, h2⟩ := leZ_lt r hr
    obtain ⟨h3, h4⟩ := h z List.mem_cons_self
    rw [List.length_cons] at hl
    rw [List.foldr_cons, foldr_leZ r hr (by omega)]
    have h5 : (256 : Int) ^ r.length ≤ 72057594037927936 := by
      have h6 : (256 : Nat) ^ r.length ≤ 256 ^ 7 := Nat.pow_le_pow_right (by decide) (by omega)
      have h7 := Int.ofNat_le.2 h6
      rw [Int.natCast_pow] at h7
      exact h7
    rw [or_low _ _ h1 (by omega) h3 h4]
    rfl
theorem wordP_le (l : List Int) (h : Bytes l) : wordP l = Lib.leZ (l.take 8) := by
  unfold wordP
  exact foldr_leZ _ (fun x hx => h x (List.take_subset _ _ hx)) (by rw [List.length_take]; omega)
theorem leZ_append : ∀ (a b : List Int), Lib.leZ (a ++ b) = Lib.leZ a + 256 ^ a.length * Lib.leZ b
  | [], b => by
    show Lib.leZ b = 0 + 256 ^ 0 * Lib.leZ b
    simp
  | z :: r, b => by
    show z + 256 * Lib.leZ (r ++ b) = z + 256 * Lib.leZ r + 256 ^ (r.length + 1) * Lib.leZ b
    rw [leZ_append r b, Int.pow_succ, Int.mul_add, Int.mul_comm ((256 : Int) ^ r.length) 256, Int.mul_assoc]
    omega
theorem leZ_zeros : ∀ k, Lib.leZ (List.replicate k 0) = 0
  | 0 => rfl
  | k + 1 => by
    rw [List.replicate_succ]
    show 0 + 256 * Lib.leZ (List.replicate k 0) = 0
    rw [leZ_zeros k]; rfl
/-- The last word on its way: the length on top, so many bytes below. -/
def lastP (n : Int) (r : List Int) (k : Nat) : Int := Lib.leZ (r.take k) + n % 256 * 72057594037927936
theorem lastP_zero (n : Int) (r : List Int) : IntKind.u64.wrap (n * 72057594037927936) = lastP n r 0 := by
  unfold lastP
  rw [IntKind.wrap_u64]
  show _ = 0 + n % 256 * 72057594037927936
  omega
theorem or_mid (k x c N : Nat) (hk : k ≤ 6) (hx : x < 2 ^ (8 * k)) (hc : c < 256) : (x + N * 2 ^ 56) ||| (c * 2 ^ (8 * k)) = x + c * 2 ^ (8 * k) + N * 2 ^ 56 := by
  have h56 : 2 ^ (8 * k) ≤ 2 ^ 48 := Nat.pow_le_pow_right (by decide) (by omega)
  have hb : c * 2 ^ (8 * k) + x < 2 ^ 56 := by
    have h1 : c * 2 ^ (8 * k) + x < c * 2 ^ (8 * k) + 2 ^ (8 * k) := by omega
    have h2 : c * 2 ^ (8 * k) + 2 ^ (8 * k) ≤ 256 * 2 ^ (8 * k) := by
      rw [← Nat.succ_mul]; exact Nat.mul_le_mul_right _ (by omega)
    have h3 : 256 * 2 ^ (8 * k) ≤ 2 ^ 56 := by omega
    omega
  have e1 : x + N * 2 ^ 56 = 2 ^ 56 * N ||| x := by rw [← Nat.two_pow_add_eq_or_of_lt (by omega)]; omega
  have e2 : x ||| c * 2 ^ (8 * k) = c * 2 ^ (8 * k) + x := by
    rw [Nat.or_comm, Nat.mul_comm c, ← Nat.two_pow_add_eq_or_of_lt hx]
  rw [e1, Nat.or_assoc, e2, ← Nat.two_pow_add_eq_or_of_lt hb]
  omega
theorem lastP_step (n : Int) (r : List Int) (k : Nat) (h : Bytes r) (hk : k < r.length) (hr : r.length ≤ 7) : Go.bits .or .u64 (lastP n r k) (IntKind.u64.wrap (r.getD k 0 * 2 ^ (8 * k))) = lastP n r (k + 1) := by
  have ht : r.take (k + 1) = r.take k ++ [r.getD k 0] := by
    rw [List.getD_eq_getElem?_getD, List.getElem?_eq_getElem hk]
    exact List.take_succ_eq_append_getElem hk
  have hB : Bytes (r.take k) := fun x hx => h x (List.take_subset _ _ hx)
  have hc : 0 ≤ r.getD k 0 ∧ r.getD k 0 < 256 := by
    rw [List.getD_eq_getElem?_getD, List.getElem?_eq_getElem hk]
    exact h _ (List.getElem_mem _)
  have hl : (r.take k).length = k := by rw [List.length_take]; omega
  obtain ⟨h1, h2⟩ := leZ_lt _ hB
  rw [hl] at h2
  unfold lastP
  rw [ht, leZ_append, hl]
  show _ = Lib.leZ (r.take k) + 256 ^ k * (r.getD k 0 + 256 * 0) + n % 256 * 72057594037927936
  generalize Lib.leZ (r.take k) = x at h1 h2 ⊢
  generalize r.getD k 0 = c at hc ⊢
  obtain ⟨x, rfl⟩ := Int.eq_ofNat_of_zero_le h1
  obtain ⟨c, rfl⟩ := Int.eq_ofNat_of_zero_le hc.1
  obtain ⟨N, hN⟩ := Int.eq_ofNat_of_zero_le (show 0 ≤ n % 256 by omega)
  have hN2 : N < 256 := by omega
  rw [hN]
  have e256 : (256 : Nat) ^ k = 2 ^ (8 * k) := by rw [Nat.pow_mul]
  have hx : x < 2 ^ (8 * k) := by
    rw [← e256]
    have : ((x : Nat) : Int) < ((256 ^ k : Nat) : Int) := by rw [Int.natCast_pow]; exact h2
    omega
  have h48 : 2 ^ (8 * k) ≤ 2 ^ 48 := Nat.pow_le_pow_right (by decide) (by omega)
  have hcc : c * 2 ^ (8 * k) ≤ 255 * 2 ^ 48 := Nat.mul_le_mul (by omega) h48
  have ew : IntKind.u64.wrap ((c : Int) * 2 ^ (8 * k)) = ((c * 2 ^ (8 * k) : Nat) : Int) := by
    rw [IntKind.wrap_u64, show ((c : Int) * 2 ^ (8 * k)) = ((c * 2 ^ (8 * k) : Nat) : Int) by rw [Int.natCast_mul, Int.natCast_pow]; rfl]
    omega
  have ex : (x : Int) + (N : Int) * 72057594037927936 = ((x + N * 2 ^ 56 : Nat) : Int) := by omega
  rw [ew, ex, bits_or_u64_nat _ _ (by omega) (by omega), or_mid k x c N (by omega) hx (by omega)]
  have e3 : (256 : Int) ^ k * ((c : Int) + 256 * 0) = ((c * 2 ^ (8 * k) : Nat) : Int) := by
    rw [← e256, Int.natCast_mul, Int.natCast_pow, Int.mul_comm]; simp
  rw [e3]
  omega
/-- The text's words, and the last. -/
theorem pad_word (b : List Int) (q : Nat) (hq : 8 * q + 8 ≤ b.length) : wordP ((padded b).drop (8 * q)) = wordP (b.drop (8 * q)) := by
  unfold wordP padded
  congr 1
  rw [List.append_assoc, List.drop_append_of_le_length (by omega), List.take_append_of_le_length (by rw [List.length_drop]; omega)]
theorem u8_wrap (x : Int) : IntKind.u8.wrap x = x % 256 := IntKind.wrap_u8 x
theorem pad_last (b : List Int) (h : Bytes b) : wordP ((padded b).drop (8 * (b.length / 8))) = lastP b.length (b.drop (8 * (b.length / 8))) (b.length % 8) := by
  have hB : Bytes (padded b) := by
    intro x hx
    unfold padded at hx
    rcases List.mem_append.1 hx with hx | hx
    · rcases List.mem_append.1 hx with hx | hx
      · exact h x hx
      · rw [List.eq_of_mem_replicate hx]; decide
    · rw [List.mem_singleton.1 hx, u8_wrap]; omega
  rw [wordP_le _ (fun x hx => hB x (List.drop_subset _ _ hx))]
  have hl : (b.drop (8 * (b.length / 8))).length = b.length % 8 := by rw [List.length_drop]; omega
  unfold lastP
  rw [List.take_of_length_le (by rw [List.length_drop, padded_length]; omega), List.take_of_length_le (by omega)]
  unfold padded
  rw [List.append_assoc, List.drop_append_of_le_length (by omega), leZ_append, leZ_append, leZ_zeros, hl, List.length_replicate, u8_wrap]
  show _ + 256 ^ (b.length % 8) * (0 + 256 ^ (7 - b.length % 8) * ((b.length : Int) % 256 + 256 * 0)) = _
  have e : (256 : Int) ^ (b.length % 8) * 256 ^ (7 - b.length % 8) = 72057594037927936 := by
    rw [← Int.pow_add, show b.length % 8 + (7 - b.length % 8) = 7 by omega]; decide
  rw [Int.zero_add, ← Int.mul_assoc, e]
  omega
end Go.Proofs.YtfhkkojdaejnjaaDoor.Gcs
namespace Go.Proofs.YtfhkkojdaejnjaaDoor.Gcs
open Go.Shelf Go.RowKit Go.Proofs.YtfhkkojdaejnjaaDoor.Hand Go.Proofs.YtfhkkojdaejnjaaDoor.PFnForms Go.Proofs.YtfhkkojdaejnjaaDoorW.PrintWords Go.Proofs.YtfhkkojdaejnjaaDoorW.PrintLast Go.Proofs.YtfhkkojdaejnjaaDoorW.PrintMore

def lays33_ren : Go.Shelf.Ren := ⟨fun | 33 => 47 | n => n, fun | 25 => 88 | 22 => 29 | 33 => 22 | 0 => 0 | 5 => 5 | 45 => 65 | n => n, fun | n => n⟩
theorem lays33 : Go.Proofs.LaysBin.n33 Tryd.prog lays33_ren where
  mixed := by kernel_rfl
  f33 := Tryd.func47.trans (congrArg some (by kernel_rfl))
  t0 := Tryd.underlying0
  a0 := Tryd.isAgg0
  z0 := Tryd.sizeOf0
  v0 := Tryd.zeroValue0
  i0 := by kernel_rfl
  t5 := Tryd.underlying5
  a5 := Tryd.isAgg5
  z5 := Tryd.sizeOf5
  v5 := Tryd.zeroValue5
  i5 := by kernel_rfl
  t22 := Tryd.underlying29
  a22 := Tryd.isAgg29
  z22 := Tryd.sizeOf29
  v22 := Tryd.zeroValue29
  i22 := by kernel_rfl
  t25 := Tryd.underlying88
  a25 := Tryd.isAgg88
  z25 := Tryd.sizeOf88
  v25 := Tryd.zeroValue88
  i25 := by kernel_rfl
  t33 := Tryd.underlying22
  a33 := Tryd.isAgg22
  z33 := Tryd.sizeOf22
  v33 := Tryd.zeroValue22
  i33 := by kernel_rfl
  t45 := Tryd.underlying65
  a45 := Tryd.isAgg65
  z45 := Tryd.sizeOf65
  v45 := Tryd.zeroValue65
  i45 := by kernel_rfl

theorem wf_byte {T : List Int} (h : Bytes T) : ∀ z ∈ T, (Lit.int .u8 z).wf = true := fun z hz => by
  have := h z hz
  simp [Lit.wf, IntKind.min, IntKind.max, IntKind.signed, IntKind.bits]
  omega
theorem cell_at8 {w : World} {ad : Addr} {T : List Int} (h : ∀ j v, (T.map (Value.int .u8))[j]? = some v → w.cell? (ad.add j) = some v) (i : Nat) (hi : i < T.length) : w.cell? (ad.add i) = some (.int .u8 (T.getD i 0)) := by
  refine h i _ ?_
  rw [List.getElem?_map, List.getElem?_eq_getElem hi, List.getD_eq_getElem?_getD, List.getElem?_eq_getElem hi]
  rfl
theorem le64_calls (A : Option Addr) (n c : Nat) (zs : List Int) (w : World) (hC : Kd.C (Kd.int .u8) w A n zs) (hn : zs.length = n) (h8 : 8 ≤ n) (hr : Bytes zs) :
    Calls Tryd.prog 47 #[.agg #[], .slice A n c] w (IsU64 w (wordP zs)) := by
  obtain ⟨ad, rfl, hcell⟩ := C_cells hC (by omega)
  rw [wordP_le zs hr]
  exact Any.binary_LE_Uint64_z lays33 ad n c zs w h8 (by omega) (fun i hi => cell_at8 hcell i hi) (wf_byte hr)
theorem round4 (v : N4) (g : Nat) (w : World) (hX : BxV w g v) : Calls Tryd.prog 49 #[.pointer (some ⟨g, 0, none⟩)] w (IsRound w g (stir v)) := round_calls v.1 v.2.1 v.2.2.1 v.2.2.2 g w hX
set_option maxRecDepth 100000 in
set_option maxHeartbeats 8000000 in
theorem zzword_calls (v : N4) (m : Int) (g : Nat) (w : World) (hX : BxV w g v) : Calls Tryd.prog 48 #[.pointer (some ⟨g, 0, none⟩), .int .u64 m] w (IsRound w g (sstep v m)) := by
  obtain ⟨a, b, c, d⟩ := v
  replace hX : Bx w g a b c d := hX
  have k0 := hX.k0
  have k1 := hX.k1
  have k2 := hX.k2
  have k3 := hX.k3
  have f0 := hX.fz 0
  have f3 := hX.fz 3
  have HX := Aside0.mk hX
  have HO := Aside0.mk (Onl.refl g w)
  clear hX
  go_enter Tryd.func48, Tryd.ntmps48
  go_wp2_with fail
  go_region
  go_wp2_with fail
  obtain ⟨x, hx⟩ : ∃ x, x = Go.bits .xor .u64 d m := ⟨_, rfl⟩
  rw [← hx]
  have HP := Aside0.mk hx
  have hX := (HX.out.s3 (x := x)).drew
  have hO := (HO.out.set (i := 3) (v := .int .u64 x)).drew
  clear hx k0 k1 k2 k3 f0 f3 HX HO
  generalize (World.setCell w ⟨g, 3, none⟩ (.int .u64 x)).drew = w0 at hX hO ⊢
  have HX := Aside0.mk (show BxV w0 g (a, b, c, x) from hX)
  have HO := Aside0.mk hO
  clear hX hO
  go_wp2_with (first
    | (go_at_call 49; (with_reducible refine (round4 (a, b, c, x) g _ HX.out).mono ?_); intro e1 w1 hq; unfold IsRound at hq; obtain ⟨rfl, hX1, hO1⟩ := hq; obtain ⟨y1, hy1⟩ : ∃ y, y = stir (a, b, c, x) := ⟨_, rfl⟩; rw [← hy1] at hX1; have HX1 := Aside0.mk hX1; have HO1 := Aside0.mk (HO.out.trans hO1); have HY1 := Aside0.mk hy1; clear hX1 hO1 hy1)
    | (go_at_call 49; (with_reducible refine (round4 y1 g _ HX1.out).mono ?_); intro e2 w2 hq; unfold IsRound at hq; obtain ⟨rfl, hX2, hO2⟩ := hq; obtain ⟨y2, hy2⟩ : ∃ y, y = stir y1 := ⟨_, rfl⟩; rw [← hy2] at hX2; have HX2 := Aside0.mk hX2; have HO2 := Aside0.mk (HO1.out.trans hO2); have HY2 := Aside0.mk hy2; clear hX2 hO2 hy2)
    | fail)
  obtain ⟨p, q, r, s⟩ := y2
  have hX : Bx w2 g p q r s := HX2.out
  have k0 := hX.k0
  have k1 := hX.k1
  have k2 := hX.k2
  have k3 := hX.k3
  have f0 := hX.fz 0
  have f3 := hX.fz 3
  have HX3 := Aside0.mk hX
  clear hX
  go_region
  go_wp2_with fail
  refine bodyPost_ret (results_none rfl _ _ _) rfl ⟨rfl, ?_, (HO2.out.set (i := 0) (v := .int .u64 (Go.bits .xor .u64 p m))).drew⟩
  have e : sstep (a, b, c, d) m = (Go.bits .xor .u64 p m, q, r, s) := by
    show (Go.bits .xor .u64 (stir (stir (a, b, c, Go.bits .xor .u64 d m))).1 m, (stir (stir (a, b, c, Go.bits .xor .u64 d m))).2.1, (stir (stir (a, b, c, Go.bits .xor .u64 d m))).2.2.1, (stir (stir (a, b, c, Go.bits .xor .u64 d m))).2.2.2) = _
    rw [← HP.out, ← HY1.out, ← HY2.out]
  rw [e]
  exact (HX3.out.s0 (x := Go.bits .xor .u64 p m)).drew
end Go.Proofs.YtfhkkojdaejnjaaDoor.Gcs
namespace Go.Proofs.YtfhkkojdaejnjaaDoor.Gcs
open Go.RowKit Go.Proofs.YtfhkkojdaejnjaaDoor.Hand Go.Proofs.YtfhkkojdaejnjaaDoor.PFnForms Go.Proofs.YtfhkkojdaejnjaaDoorW.PrintWords Go.Proofs.YtfhkkojdaejnjaaDoorW.PrintLast Go.Proofs.YtfhkkojdaejnjaaDoorW.PrintMore

def itS : Nat → N4 → N4
  | 0, v => v
  | k + 1, v => stir (itS k v)
theorem ending_it (v : N4) : ending4 v = xor4 (itS 4 (v.1, v.2.1, Go.bits .xor .u64 v.2.2.1 255, v.2.2.2)) := rfl
set_option maxRecDepth 100000 in
set_option maxHeartbeats 16000000 in
theorem zzsip_calls (ks : List Int) (gk : Nat) (A : Option Addr) (n c : Nat) (b : List Int) (w : World) (hk : ks.length = 16) (hkb : Bytes ks) (hK : Kd.C (Kd.int .u8) w (some ⟨gk, 0, none⟩) 16 ks) (hC : Kd.C (Kd.int .u8) w A n b) (hn : b.length = n) (hc : n ≤ c) (hs : n ≤ 1000) (hbb : Bytes b) :
    Calls Tryd.prog 34 #[.slice A n c, .pointer (some ⟨gk, 0, none⟩)] w (IsU64 w (sipP ks b)) := by
  have HKC := Aside0.mk hK
  have HK := Aside0.mk hk
  have HKB := Aside0.mk hkb
  have HC := Aside0.mk hC
  have HN := Aside0.mk hn
  have HBB := Aside0.mk hbb
  have HKL : Aside0 (Kd.C (Kd.int .u8) w (some ⟨gk, 0, none⟩) ks.length ks) := ⟨by rw [hk]; exact hK⟩
  have HQ1 : Aside0 (∀ W, Below w.heap.size w W → Calls Tryd.prog 47 #[.agg #[], .slice (some ⟨gk, 0, none⟩) 8 16] W (IsU64 W (wordP ks))) := ⟨fun W hB => by
    have h1 := Kd.C_take (k := Kd.int .u8) HKL.out (m := 8) (by rw [HK.out]; omega)
    have hl : (ks.take 8).length = 8 := by rw [List.length_take, HK.out]; rfl
    rw [hl] at h1
    have h2 := le64_calls (some ⟨gk, 0, none⟩) 8 16 (ks.take 8) W (Kd.C_below h1 hB) hl (Nat.le_refl _) (fun x hx => HKB.out x (List.take_subset _ _ hx))
    rwa [show wordP (ks.take 8) = wordP ks by unfold wordP; rw [List.take_take]; rfl] at h2⟩
  have HQ2 : Aside0 (∀ W, Below w.heap.size w W → Calls Tryd.prog 47 #[.agg #[], .slice (some ⟨gk, 8, none⟩) 8 8] W (IsU64 W (wordP (ks.drop 8)))) := ⟨fun W hB => by
    have h1 := Kd.C_drop (k := Kd.int .u8) HKL.out (m := 8) (c := 16) (by rw [HK.out]; omega) (by rw [HK.out]; omega)
    have hl : (ks.drop 8).length = 8 := by rw [List.length_drop, HK.out]
    rw [hl] at h1
    exact le64_calls (some ⟨gk, 8, none⟩) 8 8 (ks.drop 8) W (Kd.C_below h1 hB) hl (Nat.le_refl _) (fun x hx => HKB.out x (List.drop_subset _ _ hx))⟩
  clear hK hk hkb hC hn hbb
  have HB := Aside0.mk (Below.refl w.heap.size w)
  go_enter Tryd.func34, Tryd.ntmps34
  go_wp2_with fail
  go_cut [5, 6] from 11 (fun s5 s6 wx => s5 = .int .u64 (wordP ks) ∧ s6 = .int .u64 (wordP (ks.drop 8)) ∧ Aside0 (Below w.heap.size w wx))
  case first =>
    go_region_with (first
      | (go_at_call 47; (with_reducible refine (HQ1.out _ (by first | exact HB2.out | exact below_drew (Below.refl _ _))).mono ?_); intro e1 w1 hq; unfold IsU64 at hq; obtain ⟨rfl, hb⟩ := hq; have HB1 : Aside0 (Below w.heap.size w w1) := ⟨below_step (by first | exact HB2.out | exact below_drew (Below.refl _ _)) hb⟩; clear hb)
      | (go_at_call 47; (with_reducible refine (HQ2.out _ (by first | exact HB1.out | exact below_drew (Below.refl _ _))).mono ?_); intro e2 w2 hq; unfold IsU64 at hq; obtain ⟨rfl, hb⟩ := hq; have HB2 : Aside0 (Below w.heap.size w w2) := ⟨below_step (by first | exact HB1.out | exact below_drew (Below.refl _ _)) hb⟩; clear hb))
    all_goals (go_wp2_with fail; go_meet; first | exact ⟨rfl, rfl, HB2⟩ | exact ⟨rfl, rfl, HB1⟩)
  obtain ⟨rfl, rfl, HB1⟩ := hcut
  clear HQ1 HQ2 HB HKC HKB
  go_wp2_with (first
    | ((with_reducible refine gate_dst (N := 7) rfl ?_); refine box_event ?hg (N := 7) ?hd (cs := #[.int .u64 0, .int .u64 0, .int .u64 0, .int .u64 0]) (t := 74) ?hr ?_; (case hd => rfl); (case hg => rfl); (case hr => first | (go_simp; done) | (go_simp; rfl)); intro gx hg w3 hbox hb3; have HZ := Aside0.mk (Bx.mk hbox); have HB3 := Aside0.mk (below_step HB1.out hb3); have HG : Aside0 (w.heap.size ≤ gx) := ⟨by rw [hg]; exact HB1.out.size⟩; clear hg hbox hb3)
    | ((with_reducible refine gate_store (t := 74) (p := 7) rfl ?_); refine stA rfl rfl rfl HZ.out HB3.out HG.out rfl rfl ?_; intro w4 hX hB hK; have HX4 := Aside0.mk hX; have HB4 := Aside0.mk hB; clear hX hB hK)
    | fail)
  have HX4a : Aside0 (BxV w4 gx (start4 ks)) := ⟨HX4.out⟩
  obtain ⟨V, hV⟩ : ∃ V, V = start4 ks := ⟨_, rfl⟩
  rw [← hV] at HX4a
  have HVV := Aside0.mk hV
  have HL0 := Aside0.mk (lastP_zero (n : Int) (b.drop (8 * (n / 8))))
  rw [HL0.out]
  have HX40 : Aside0 (BxV w4 gx (run8 V (padded b) 0)) := ⟨HX4a.out⟩
  have HC0 : Aside0 (Kd.C (Kd.int .u8) w A (n - 8 * 0) (b.drop (8 * 0))) := ⟨HC.out⟩
  have hc0 : n - 8 * 0 ≤ c := hc
  clear hV HX4 HX4a HZ HB3 HB1 HL0
  go_loopw [0] (fun v0 wr => ∃ (q : Nat) (A1 : Option Addr) (c1 : Nat), 8 * q ≤ n ∧ v0 = .slice A1 (n - 8 * q) c1 ∧ n - 8 * q ≤ c1 ∧ Aside0 (Kd.C (Kd.int .u8) w A1 (n - 8 * q) (b.drop (8 * q))) ∧ Aside0 (BxV wr gx (run8 V (padded b) q)) ∧ Aside0 (Below w.heap.size w wr)) (fun v0 _ => lenV v0)
  case atStart => exact ⟨0, A, c, Nat.zero_le _, rfl, hc0, HC0, HX40, HB4⟩
  case round =>
    obtain ⟨q, A1, c1, hq, rfl, hc1, HCq, HXq, HBq⟩ := hrel
    clear HC0 HX40 HB4 hc0
    have HTL : Aside0 ((b.drop (8 * q)).length = n - 8 * q) := ⟨by rw [List.length_drop, HN.out]⟩
    obtain ⟨m, hm⟩ : ∃ m, m = n - 8 * q := ⟨_, rfl⟩
    rw [← hm] at hc1 HCq HTL ⊢
    have HMM := Aside0.mk hm
    by_cases h8 : 8 ≤ m
    · have hm2 : m ≤ 1000 := by omega
      have HWD : Aside0 (∀ W, Below w.heap.size w W → Calls Tryd.prog 47 #[.agg #[], .slice A1 m c1] W (IsU64 W (wordP (b.drop (8 * q))))) := ⟨fun W hB => le64_calls A1 m c1 _ W (Kd.C_below HCq.out hB) HTL.out h8 (fun x hx => HBB.out x (List.drop_subset _ _ hx))⟩
      have HSS : Aside0 (run8 V (padded b) (q + 1) = sstep (run8 V (padded b) q) (wordP (b.drop (8 * q)))) := ⟨by rw [← pad_word b q (by rw [HN.out]; omega)]; rfl⟩
      have HTD : Aside0 (b.drop (8 * (q + 1)) = (b.drop (8 * q)).drop 8) := ⟨by rw [List.drop_drop]; rfl⟩
      have HM2 : Aside0 (m - 8 = n - 8 * (q + 1)) := ⟨by omega⟩
      have hM2 := HM2.out
      have hq2 : 8 * (q + 1) ≤ n := by omega
      clear hm
      generalize b.drop (8 * q) = T at HCq HTL HWD HSS HTD
      generalize run8 V (padded b) q = v at HXq HSS
      generalize wordP T = wd at HWD HSS
      have HTF : Aside0 (Kd.C (Kd.int .u8) w (if c1 = 8 then A1 else A1.map (·.add (8 * 1))) (m - 8) (T.drop 8)) := ⟨by
        have h1 : Kd.C (Kd.int .u8) w A1 T.length T := by rw [HTL.out]; exact HCq.out
        have h2 := Kd.C_drop (k := Kd.int .u8) h1 (m := 8) (c := c1) (by rw [HTL.out]; exact h8) (by rw [HTL.out]; exact hc1)
        rwa [List.length_drop, HTL.out] at h2⟩
      go_wp2_with (first
        | (go_at_call 47; (with_reducible refine (HWD.out _ HBq.out).mono ?_); intro e2 w2 hqq; unfold IsU64 at hqq; obtain ⟨rfl, hb2⟩ := hqq; have HX2 : Aside0 (BxV w2 gx v) := ⟨Bx.below HXq.out hb2⟩; have HB2 := Aside0.mk (below_step HBq.out hb2); clear hb2)
        | (go_at_call 48; (with_reducible refine (zzword_calls v wd gx _ HX2.out).mono ?_); intro e3 w3 hq3; unfold IsRound at hq3; obtain ⟨rfl, hX3, hO3⟩ := hq3; have HX3 := Aside0.mk hX3; have HB3 := Aside0.mk (hO3.bel _ _ HG.out HB2.out); clear hX3 hO3)
        | fail)
      go_roundw
      case rel => exact ⟨q + 1, _, _, hq2, rfl, by omega, ⟨by rw [HTD.out, ← HM2.out]; exact HTF.out⟩, ⟨by rw [HSS.out]; exact HX3.out⟩, HB3⟩
      case measure => first | (show m - 8 < m; omega) | (simp [lenV]; omega)
    · have hqn : q = n / 8 := by omega
      have hm7 : m ≤ 7 := by omega
      have hmr : m = n % 8 := by omega
      obtain ⟨r, hr⟩ : ∃ r, r = b.drop (8 * (n / 8)) := ⟨_, rfl⟩
      have HTR : Aside0 (Kd.C (Kd.int .u8) w A1 m r) := ⟨by rw [hr, ← hqn]; exact HCq.out⟩
      have HRL : Aside0 (r.length = m) := ⟨by rw [hr, ← hqn]; exact HTL.out⟩
      have HRB : Aside0 (Bytes r) := ⟨fun x hx => HBB.out x (by rw [hr] at hx; exact List.drop_subset _ _ hx)⟩
      have HLW : Aside0 (run8 V (padded b) (n / 8 + 1) = sstep (run8 V (padded b) q) (lastP n r m)) := ⟨by
        have h := pad_last b HBB.out
        rw [HN.out, ← hr] at h
        rw [hmr, ← h, hqn]
        rfl⟩
      rw [← hr]
      clear hm hr hqn hmr HCq HTL HMM
      generalize run8 V (padded b) q = v at HXq HLW
      go_wp2_with fail
      go_loopw [8, 45] (fun v8 v45 wr => ∃ k : Nat, v8 = .int .u64 (lastP n r k) ∧ v45 = .int .i64 k ∧ k ≤ m ∧ Aside0 (BxV wr gx v) ∧ Aside0 (Below w.heap.size w wr)) (fun _ v45 _ => m - (intOf v45).toNat)
      case atStart => exact ⟨0, rfl, rfl, Nat.zero_le _, HXq, HBq⟩
      case round =>
        obtain ⟨k, rfl, rfl, hkm, HXk, HBk⟩ := hrel
        clear HXq HBq
        by_cases hk : k < m
        · obtain ⟨ad, e, hx⟩ := Kd.at_int (Kd.C_below HTR.out HBk.out) (k : Int) (by omega) (by omega)
          subst e
          rw [Int.toNat_natCast] at hx
          have HST : Aside0 (Go.bits .or .u64 (lastP n r k) (IntKind.u64.wrap (rd r (k : Int) * 2 ^ (8 * k))) = lastP n r (k + 1)) := ⟨by
            have h := lastP_step n r k HRB.out (by rw [HRL.out]; exact hk) (by rw [HRL.out]; exact hm7)
            rw [show r.getD k 0 = rd r (k : Int) by unfold rd; rw [Int.toNat_natCast]] at h
            exact h⟩
          have HCB : Aside0 (IntKind.u64.wrap (rd r (k : Int)) = rd r (k : Int)) := ⟨by
            have h := HRB.out (r.getD k 0) (by rw [List.getD_eq_getElem?_getD, List.getElem?_eq_getElem (by rw [HRL.out]; exact hk)]; exact List.getElem_mem _)
            rw [show rd r (k : Int) = r.getD k 0 by unfold rd; rw [Int.toNat_natCast], IntKind.wrap_u64]
            omega⟩
          generalize rd r (k : Int) = cb at hx HST HCB
          go_wp2_with fail
          go_roundw
          case rel => exact ⟨k + 1, by rw [HCB.out, HST.out], by go_num, by omega, HXk, HBk⟩
          case measure => first | (simp [intOf]; done) | (simp [intOf]; omega)
        · obtain rfl : k = m := by omega
          go_wp2_with (first
            | (go_at_call 48; (with_reducible refine (zzword_calls v (lastP n r k) gx _ HXk.out).mono ?_); intro e3 w3 hq3; unfold IsRound at hq3; obtain ⟨rfl, hX3, hO3⟩ := hq3; obtain ⟨y, hy⟩ : ∃ y, y = run8 V (padded b) (n / 8 + 1) := ⟨_, rfl⟩; rw [← HLW.out, ← hy] at hX3; have HY := Aside0.mk hy; have HB3 := Aside0.mk (hO3.bel _ _ HG.out HBk.out); clear hO3 hy; obtain ⟨ya, yb, yc, yd⟩ := y; have HX3 := Aside0.mk (show Bx w3 gx ya yb yc yd from hX3); clear hX3; have k0 := HX3.out.k0; have k1 := HX3.out.k1; have k2 := HX3.out.k2; have k3 := HX3.out.k3)
            | ((with_reducible refine gate_store (t := 22) (p := 63) rfl ?_); refine st2 rfl rfl rfl HX3.out HB3.out HG.out rfl rfl ?_; intro x2 w5 hx2 hX hB hK; have HX5 := Aside0.mk (show BxV w5 gx (itS 0 (ya, yb, x2, yd)) from hX); have HB5 := Aside0.mk hB; have HP2 := Aside0.mk hx2; clear k0 k1 k2 k3 hX hB hK hx2)
            | fail)
          clear HXk HBk HX3 HB3 HLW
          go_loopw [64] (fun v64 wr => ∃ j : Nat, v64 = .int .i64 j ∧ j ≤ 4 ∧ Aside0 (BxV wr gx (itS j (ya, yb, x2, yd))) ∧ Aside0 (Below w.heap.size w wr)) (fun v64 _ => 4 - (intOf v64).toNat)
          case atStart => exact ⟨0, rfl, Nat.zero_le _, HX5, HB5⟩
          case round =>
            obtain ⟨j, rfl, hj, HXj, HBj⟩ := hrel
            clear HX5 HB5
            by_cases hj4 : j < 4
            · have HIT : Aside0 (itS (j + 1) (ya, yb, x2, yd) = stir (itS j (ya, yb, x2, yd))) := ⟨rfl⟩
              generalize itS j (ya, yb, x2, yd) = z at HXj HIT
              go_wp2_with (first
                | (go_at_call 49; (with_reducible refine (round4 z gx _ HXj.out).mono ?_); intro e6 w6 hq6; unfold IsRound at hq6; obtain ⟨rfl, hX6, hO6⟩ := hq6; have HX6 := Aside0.mk hX6; have HB6 := Aside0.mk (hO6.bel _ _ HG.out HBj.out); clear hX6 hO6)
                | fail)
              go_roundw
              case rel => exact ⟨j + 1, by go_num, by omega, ⟨by rw [HIT.out]; exact HX6.out⟩, HB6⟩
              case measure => first | (simp [intOf]; done) | (simp [intOf]; omega)
            · obtain rfl : j = 4 := by omega
              have HFI : Aside0 (sipP ks b = xor4 (itS 4 (ya, yb, x2, yd))) := ⟨by
                unfold sipP
                rw [HN.out, ← HVV.out, ← HY.out, ending_it, HP2.out]⟩
              generalize itS 4 (ya, yb, x2, yd) = z at HXj HFI
              obtain ⟨za, zb, zc, zd⟩ := z
              have hXz : Bx wr gx za zb zc zd := HXj.out
              have k0 := hXz.k0
              have k1 := hXz.k1
              have k2 := hXz.k2
              have k3 := hXz.k3
              clear hXz
              go_wp2_with fail
              refine bodyPost_ret (results_tmp rfl _ _ _) rfl ⟨?_, HBj.out⟩
              rw [HFI.out]
              rfl
end Go.Proofs.YtfhkkojdaejnjaaDoor.Gcs
namespace Go.Proofs.YtfhkkojdaejnjaaDoor.Gcs
open Go.RowKit Go.Proofs.YtfhkkojdaejnjaaDoor.Hand Go.Proofs.YtfhkkojdaejnjaaDoor.PFnForms Go.Proofs.YtfhkkojdaejnjaaDoorW.PrintWords Go.Proofs.YtfhkkojdaejnjaaDoorW.PrintLast Go.Proofs.YtfhkkojdaejnjaaDoorW.PrintMore

theorem fast_eq (a b : Int) (ha0 : 0 ≤ a) (ha1 : a < 18446744073709551616) (hb0 : 0 ≤ b) (hb1 : b < 18446744073709551616) :
    IntKind.u64.wrap (IntKind.u64.wrap (IntKind.u64.wrap (IntKind.u64.wrap (a / 4294967296 * (b / 4294967296)) + IntKind.u64.wrap (a / 4294967296 * (b % 4294967296)) / 4294967296) + IntKind.u64.wrap (b / 4294967296 * (a % 4294967296)) / 4294967296) +
      IntKind.u64.wrap (IntKind.u64.wrap (a / 4294967296 * (b % 4294967296)) % 4294967296 + IntKind.u64.wrap (b / 4294967296 * (a % 4294967296)) % 4294967296 + IntKind.u64.wrap (a % 4294967296 * (b % 4294967296)) / 4294967296) / 4294967296) = a * b / 18446744073709551616 := by
  have hA : a = a / 4294967296 * 4294967296 + a % 4294967296 := by omega
  have hB : b = b / 4294967296 * 4294967296 + b % 4294967296 := by omega
  have hL := limbs a b _ _ _ _ _ _ _ _ hA hB rfl rfl rfl rfl
  have p1 := mul_bd (x := a % 4294967296) (y := b % 4294967296) (by omega) (by omega) (by omega) (by omega)
  have p2 := mul_bd (x := a / 4294967296) (y := b % 4294967296) (by omega) (by omega) (by omega) (by omega)
  have p3 := mul_bd (x := a % 4294967296) (y := b / 4294967296) (by omega) (by omega) (by omega) (by omega)
  have p4 := mul_bd (x := a / 4294967296) (y := b / 4294967296) (by omega) (by omega) (by omega) (by omega)
  rw [Int.mul_comm (b / 4294967296) (a % 4294967296)]
  have hlt : a * b < 18446744073709551616 * 18446744073709551616 :=
    Int.lt_of_le_of_lt (Int.mul_le_mul (show a ≤ 18446744073709551615 by omega) (show b ≤ 18446744073709551615 by omega) hb0 (by omega)) (by decide)
  rw [hL] at hlt ⊢
  clear hL hA hB
  generalize a % 4294967296 * (b % 4294967296) = p at *
  generalize a / 4294967296 * (b % 4294967296) = q at *
  generalize a % 4294967296 * (b / 4294967296) = r at *
  generalize a / 4294967296 * (b / 4294967296) = s at *
  rw [wrap_id (x := p) (by omega) (by omega), wrap_id (x := q) (by omega) (by omega), wrap_id (x := r) (by omega) (by omega), wrap_id (x := s) (by omega) (by omega)]
  rw [wrap_id (x := q % 4294967296 + r % 4294967296 + p / 4294967296) (by omega) (by omega)]
  rw [IntKind.wrap_u64, IntKind.wrap_u64, IntKind.wrap_u64]
  have hab : (s * 18446744073709551616 + (q + r) * 4294967296 + p) / 18446744073709551616 = s + q / 4294967296 + r / 4294967296 + (q % 4294967296 + r % 4294967296 + p / 4294967296) / 4294967296 := by omega
  rw [hab]
  omega
theorem fast_calls (a b : Int) (w : World) (ha0 : 0 ≤ a) (ha1 : a < 18446744073709551616) (hb0 : 0 ≤ b) (hb1 : b < 18446744073709551616) :
    Calls Tryd.prog 35 #[.int .u64 a, .int .u64 (b / 4294967296), .int .u64 (b % 4294967296)] w fun e w' => e = .returned (.int .u64 (a * b / 18446744073709551616)) ∧ w' = w := by
  have HE := Aside0.mk (fast_eq a b ha0 ha1 hb0 hb1)
  go_enter Tryd.func35, Tryd.ntmps35
  go_wp2
  go_ret
  refine ⟨?_, rfl⟩
  rw [← HE.out]
  rfl
end Go.Proofs.YtfhkkojdaejnjaaDoor.Gcs
