/-
  The walk of bech32VerifyChecksum.
-/
import Derived.Test.YthkijnfpllbdnaaDoorExpWalk
namespace Go.Proofs.YthkijnfpllbdnaaDoor.Bec
open Go.RowKit Go.Proofs.YthkijnfpllbdnaaDoor.Hand Go.Proofs.YthkijnfpllbdnaaDoorW.PrintWords Go.Proofs.YthkijnfpllbdnaaDoorW.PrintLast Go.Proofs.YthkijnfpllbdnaaDoorW.PrintMore

/-- A row of zeros, the first i of them filled. -/
def padded (xs : List Int) (i : Nat) : List Int := xs.take i ++ List.replicate (xs.length - i) 0
theorem padded_length (xs : List Int) (i : Nat) (h : i ≤ xs.length) : (padded xs i).length = xs.length := by simp [padded]; omega
theorem padded_all (xs : List Int) : padded xs xs.length = xs := by simp [padded]
theorem padded_more (xs : List Int) (i : Nat) (h : i < xs.length) : (padded xs i).set i (xs.getD i 0) = padded xs (i + 1) := by
  unfold padded
  rw [List.set_append_right _ _ (by simp; omega), List.take_succ_eq_append_getElem h, show i - (List.take i xs).length = 0 by simp; omega, show xs.length - i = (xs.length - (i + 1)) + 1 by omega, List.replicate_succ, List.getD_eq_getElem?_getD, List.getElem?_eq_getElem h]
  simp only [List.set_cons_zero, List.append_assoc, List.cons_append, List.nil_append, Option.getD_some]
theorem padded_start {w : World} {B e g n c : Nat} {xs : List Int} (hl : xs.length = n) (h : w.ownsRow B e 1 (.slice (some ⟨g, 0, none⟩) n c) n (madeCells (Value.int .i64 0).cells (n * 1)).toList) :
    w.ownsRow B e 1 (.slice (some ⟨g, 0, none⟩) n c) n (nums .i64 (padded xs 0)) := by
  rw [made_zeros] at h
  have e : nums .i64 (padded xs 0) = List.replicate n (Value.int .i64 0) := by simp [padded, nums, hl]
  rw [e]
  exact h
theorem nums_append (a b : List Nat) : nums64 (a ++ b) = nums64 a ++ nums64 b := by simp [nums64]
theorem expN_length (l : List Int) : (expN l).length = 2 * l.length + 1 := by simp [expN, hiL, loL]; omega
theorem expN_lt {l : List Int} (hl : ∀ c ∈ l, 0 ≤ c ∧ c < 256) : ∀ v ∈ expN l, v < 32 := by
  intro v hv
  rcases List.mem_append.1 hv with h | h
  · obtain ⟨c, hc, rfl⟩ := List.mem_map.1 h
    have := hl c hc
    omega
  · rcases List.mem_cons.1 h with h | h
    · omega
    · obtain ⟨c, hc, rfl⟩ := List.mem_map.1 h
      omega
theorem bytesOf_range (s : ByteArray) : ∀ c ∈ bytesOf s, 0 ≤ c ∧ c < 256 := by
  intro c hc
  obtain ⟨b, _, rfl⟩ := List.mem_map.1 hc
  have := b.toNat_lt
  omega

set_option maxHeartbeats 8000000 in
theorem verify_calls (s : ByteArray) (hs : s.size ≤ 1000000) (A : Option Addr) (cA : Nat) (ds : List Nat) (w : World) (hG : genAt w) (h0 : 0 < w.heap.size) (hC : Kd.C (Kd.int .u8) w A ds.length (nums64 ds)) (hl : ds.length ≤ 1000000) (hv : ∀ v ∈ ds, v < 256) :
    Calls Tryd.prog 25 #[.string s, .slice A ds.length cA] w fun e w' => e = .returned (.bool (decide (poly 1 (expN (bytesOf s) ++ ds) = 1))) ∧ Below w.heap.size w w' := by
  obtain ⟨i0, hi, hz0, hz1, hz2⟩ := info_parts info3
  have HII := Aside0.mk (show Tryd.prog.info? 3 = some i0 ∧ i0.zero = some (.int .i64 0) ∧ i0.size = 1 ∧ i0.bytes = 8 from ⟨hi, hz0, hz1, hz2⟩)
  obtain ⟨n, hn⟩ : ∃ n, n = ds.length := ⟨_, rfl⟩
  have HN := Aside0.mk hn
  have HNL : Aside0 ((nums64 ds).length = n) := ⟨by rw [hn, nums64_length]⟩
  obtain ⟨p, hp⟩ : ∃ p, p = poly 1 (expN (bytesOf s) ++ ds) := ⟨_, rfl⟩
  obtain ⟨M, hM⟩ : ∃ M, M = (expN (bytesOf s) ++ ds).length := ⟨_, rfl⟩
  have HPM : Aside0 (∀ (A : Option Addr) (c : Nat) (w2 : World), Below w.heap.size w w2 → Kd.C (Kd.int .i64) w2 A M (nums64 (expN (bytesOf s) ++ ds)) → Calls Tryd.prog 37 #[.slice A M c] w2 fun e w' => e = .returned (.int .i64 p) ∧ Below w2.heap.size w2 w') := ⟨fun A c w2 hb h => by
    rw [hp, hM]
    refine polymod_calls A c _ w2 (hG.below hb h0) (Nat.lt_of_lt_of_le h0 hb.size) (by rw [← hM]; exact h) (fun v hv' => ?_)
    rcases List.mem_append.1 hv' with g | g
    · have := expN_lt (bytesOf_range s) v g; omega
    · have := hv v g; omega⟩
  have HEX : Aside0 (∀ w2 : World, Calls Tryd.prog 36 #[.string s] w2 fun e w' => ∃ v, e = .returned v ∧ Kd.R (Kd.int .i64) 3 w' w2.heap.size (fun _ => True) v (nums64 (expN (bytesOf s))) ∧ Below w2.heap.size w2 w') := ⟨fun w2 => expand_calls s hs w2⟩
  have HEL : Aside0 ((nums64 (expN (bytesOf s))).length ≤ 2000001) := ⟨by rw [nums64_length, expN_length, bytesOf_length]; omega⟩
  have HML : Aside0 (M = (nums64 (expN (bytesOf s))).length + n) := ⟨by rw [hM, List.length_append, nums64_length, hn]⟩
  rw [← hp]
  rw [← hn] at hC hl ⊢
  have HC := Aside0.mk hC
  have HEQ : Aside0 (nums64 (expN (bytesOf s) ++ ds) = nums64 (expN (bytesOf s)) ++ nums64 ds) := ⟨nums_append _ _⟩
  have HXR : Aside0 (∀ x ∈ nums64 ds, 0 ≤ x ∧ x < 256) := ⟨fun x hx => by
    obtain ⟨v, hv', rfl⟩ := List.mem_map.1 hx
    have := hv v hv'
    omega⟩
  clear hG h0 hC hv hp hn hM hi hz0 hz1 hz2 hs
  generalize nums64 (expN (bytesOf s)) = E at HEX HEL HML HEQ
  generalize nums64 (expN (bytesOf s) ++ ds) = F at HPM HEQ
  generalize nums64 ds = xs at HNL HC HEQ HXR
  go_enter Tryd.func25, Tryd.ntmps25
  go_wp2_with (first
    | (at_make; refine wpList_make_full w rfl _ _ 27 rfl w.heap.size 3 i0 (.int .i64 0) 1 Tryd.underlying27 HII.out.1 HII.out.2.1 HII.out.2.2.1 .i64 .i64 _ _ n rfl rfl rfl rfl (by rw [HII.out.2.2.2]; omega) (by unfold maxLen; omega) (Nat.le_refl _) ?_; intro w1 hown hgrow; have HO1 := Aside0.mk (padded_start HNL.out hown); have HB1 := Aside0.mk ((Below.refl w.heap.size w).grown hgrow (Nat.le_refl _) (fun _ h => by cases h)); clear hown hgrow)
    | fail)
  clear HII
  obtain ⟨g, hg⟩ : ∃ g, g = w.heap.size := ⟨_, rfl⟩
  have HGE := Aside0.mk hg
  have HO2 : Aside0 (w1.ownsRow w.heap.size 3 1 (.slice (some ⟨g, 0, none⟩) n n) n (nums .i64 (padded xs 0))) := ⟨by rw [hg]; exact HO1.out⟩
  rw [← hg]
  clear hg HO1
  go_loopw [14] (fun v14 wr => ∃ i : Nat, v14 = .int .i64 i ∧ i ≤ n ∧ Aside0 (wr.ownsRow w.heap.size 3 1 (.slice (some ⟨g, 0, none⟩) n n) n (nums .i64 (padded xs i))) ∧ Aside0 (Below w.heap.size w wr)) (fun v14 _ => n - (intOf v14).toNat)
  case atStart => exact ⟨0, rfl, Nat.zero_le _, HO2, HB1⟩
  case round =>
    obtain ⟨i, rfl, hi, HO, HB⟩ := hrel
    clear HO2 HB1
    by_cases hlt : i < n
    · obtain ⟨ad, rfl, _⟩ := C_cells HC.out (by omega)
      have kd := Kd.foot_int (Kd.C_below HC.out HB.out) (i : Int) (by omega) (by omega)
      obtain ⟨f1, f2⟩ := own_at HO.out (i : Int) (by omega) (by omega)
      have HP := Aside0.mk (padded_more xs i (by rw [HNL.out]; exact hlt))
      rw [show rd xs (i : Int) = xs.getD i 0 by simp [rd], Int.toNat_natCast] at kd
      rw [Int.toNat_natCast] at f1 f2
      obtain ⟨x, hx⟩ : ∃ x, x = xs.getD i 0 := ⟨_, rfl⟩
      have hxr : 0 ≤ x ∧ x < 256 := by
        rw [hx, List.getD_eq_getElem?_getD, List.getElem?_eq_getElem (by rw [HNL.out]; exact hlt)]
        exact HXR.out _ (List.getElem_mem _)
      obtain ⟨hx0, hx1⟩ := hxr
      rw [← hx] at kd HP
      generalize rd (padded xs i) (i : Int) = y at f1
      have HST := Aside0.mk (own_store HO.out (i : Int) x).1
      rw [Int.toNat_natCast, HP.out] at HST
      clear hx
      go_wp2
      go_roundw
      case rel => exact ⟨i + 1, by go_num, by omega, HST, ⟨HB.out.setCell (by rw [HGE.out]; exact Nat.le_refl _) _⟩⟩
      case measure => simp [intOf]; omega
    · obtain rfl : i = n := by omega
      have HCX : Aside0 (Kd.C (Kd.int .i64) wr (some ⟨g, 0, none⟩) i xs) := ⟨by
        have h := HO.out
        have e : padded xs i = xs := by rw [← HNL.out]; exact padded_all xs
        rw [e] at h
        have h2 := Kd.R_reads' (Kd.R_of_own (enc := Value.int .i64) (h1 := fun _ => rfl) (xs := xs) (ok := fun _ => True) (by rw [HNL.out]; exact h) (fun _ _ => trivial))
        have h3 := h2.2.2
        rw [HNL.out] at h3
        exact h3⟩
      clear HO
      go_wp2_with (first
        | (go_at_call 36; refine (HEX.out wr).mono ?_; rintro e w2 ⟨v2, rfl, hR2, hb2⟩; obtain ⟨A2, c2, rfl⟩ := Kd.R_slice hR2; have HB2 := Aside0.mk (below_step HB.out hb2); have HR2 := Aside0.mk (Kd.R_lower hR2 HB.out.size); have HCX2 := Aside0.mk (Kd.C_below HCX.out hb2); clear hR2 hb2)
        | ((with_reducible refine gate_builtin (b := .append) (xs := #[.tmp 26, .tmp 27]) rfl ?_); refine Kd.R_append_row (h1 := fun _ => rfl) (w0 := w) (Value.int .i64) (0 : Int) w.heap.size rfl _ _ 27 3 (.int .i64 0) 8 rfl Tryd.underlying27 info3 rfl (by decide) (.slice A2 E.length c2) E xs (some ⟨g, 0, none⟩) i i (fun _ => True) rfl rfl (fun _ _ => trivial) HR2.out HCX2.out HB2.out HB2.out.size (by have := HEL.out; omega) ?_; intro v3 w3 hR3 hB3 _ _; obtain ⟨A3, c3, e3⟩ := Kd.R_slice hR3; rw [List.length_append, HNL.out, ← HML.out] at e3; subst e3; have HR3 := Aside0.mk hR3; have HB3 := Aside0.mk hB3; clear hR3 hB3)
        | (go_at_call 37; refine (HPM.out A3 c3 w3 HB3.out (by have h := Kd.R_reads' HR3.out; have h2 := h.2.2; rw [HEQ.out, HML.out]; rw [List.length_append, HNL.out] at h2; exact h2)).mono ?_; rintro e w4 ⟨rfl, hb4⟩; have HB4 := Aside0.mk (below_step HB3.out hb4); clear hb4)
        | fail)
      go_ret
      refine ⟨?_, HB4.out⟩
      congr 2
      by_cases hp : p = 1
      · subst hp; rfl
      · have : ¬ (p : Int) = 1 := by omega
        simp [hp, this]
end Go.Proofs.YthkijnfpllbdnaaDoor.Bec
