/-
  The walk of toChars.
-/
import Derived.Test.YthkijnfpllbdnaaDoorBytWalk
namespace Go.Proofs.YthkijnfpllbdnaaDoor.Bec
open Go.RowKit Go.Proofs.YthkijnfpllbdnaaDoor.Hand Go.Proofs.YthkijnfpllbdnaaDoorW.PrintWords Go.Proofs.YthkijnfpllbdnaaDoorW.PrintLast Go.Proofs.YthkijnfpllbdnaaDoorW.PrintMore

theorem bytesOf_nums (l : List Int) (h : ∀ x ∈ l, 0 ≤ x ∧ x < 256) : bytesOf (strOfNums l) = l := by
  unfold bytesOf
  rw [strOfNums_data, List.map_map]
  have e : ∀ x ∈ l, ((fun b : UInt8 => (b.toNat : Int)) ∘ fun n : Int => UInt8.ofNat n.toNat) x = x := by
    intro x hx
    have := h x hx
    simp only [Function.comp_apply, UInt8.toNat_ofNat']
    omega
  rw [List.map_congr_left e]; simp
theorem ch_take (xs : List Int) (i : Nat) (h : i < xs.length) : (xs.take (i + 1)).map chI = (xs.take i).map chI ++ [chI (xs.getD i 0)] := by
  rw [List.take_succ_eq_append_getElem h, List.map_append, List.getD_eq_getElem?_getD, List.getElem?_eq_getElem h]
  rfl

set_option maxHeartbeats 8000000 in
theorem toChars_calls (A : Option Addr) (cA : Nat) (xs : List Int) (w : World) (hC : Kd.C (Kd.int .u8) w A xs.length xs) (hl : xs.length ≤ 1000000) (hv : ∀ x ∈ xs, 0 ≤ x ∧ x < 32) :
    Calls Tryd.prog 27 #[.slice A xs.length cA] w fun e w' => e = .returned (.tuple #[.string (strOfNums (xs.map chI)), .nilIface]) ∧ Below w.heap.size w w' := by
  obtain ⟨i0, hi, hz0, hz1, hz2⟩ := info_parts info5
  have HII := Aside0.mk (show Tryd.prog.info? 5 = some i0 ∧ i0.zero = some (.int .u8 0) ∧ i0.size = 1 ∧ i0.bytes = 1 from ⟨hi, hz0, hz1, hz2⟩)
  obtain ⟨n, hn⟩ : ∃ n, n = xs.length := ⟨_, rfl⟩
  have HN := Aside0.mk hn
  rw [← hn] at hC hl ⊢
  have HC := Aside0.mk hC
  have HV := Aside0.mk hv
  clear hi hz0 hz1 hz2 hn hC hv
  go_enter Tryd.func27, Tryd.ntmps27
  go_wp2_with (first
    | (at_make; refine wpList_make_own w rfl _ _ 22 rfl w.heap.size 5 i0 (.int .u8 0) 1 Tryd.underlying22 HII.out.1 HII.out.2.1 HII.out.2.2.1 .i64 .i64 _ n rfl rfl (by simp) (by rw [HII.out.2.2.2]; omega) (by unfold maxLen; omega) (Nat.le_refl _) ?_; intro w1 hown hgrow; have HR1 := Aside0.mk (Kd.R_of_own (enc := Value.int .u8) (h1 := fun _ => rfl) (xs := []) (ok := fun _ => True) hown (fun _ _ => trivial)); have HB1 := Aside0.mk ((Below.refl w.heap.size w).grown hgrow (Nat.le_refl _) (fun _ h => by cases h)); clear hown hgrow)
    | fail)
  clear HII
  go_loopw [4, 12] (fun v4 v12 wr => ∃ i : Nat, v12 = .int .i64 i ∧ i ≤ n ∧ Aside0 ((Kd.int .u8).R 5 wr w.heap.size (fun _ => True) v4 ((xs.take i).map chI)) ∧ Aside0 (Below w.heap.size w wr)) (fun _ v12 _ => n - (intOf v12).toNat)
  case atStart => exact ⟨0, rfl, Nat.zero_le _, HR1, HB1⟩
  case round =>
    obtain ⟨i, rfl, hi, HR, HB⟩ := hrel
    clear HR1 HB1
    by_cases hlt : i < n
    · obtain ⟨ad, rfl, _⟩ := C_cells HC.out (by omega)
      have kd := Kd.foot_int (Kd.C_below HC.out HB.out) (i : Int) (by omega) (by omega)
      rw [show rd xs (i : Int) = xs.getD i 0 by simp [rd], Int.toNat_natCast] at kd
      have HT := Aside0.mk (ch_take xs i (by rw [← HN.out]; exact hlt))
      obtain ⟨x, hx⟩ : ∃ x, x = xs.getD i 0 := ⟨_, rfl⟩
      have hxr : 0 ≤ x ∧ x < 32 := by
        rw [hx, List.getD_eq_getElem?_getD, List.getElem?_eq_getElem (by rw [← HN.out]; exact hlt)]
        exact HV.out _ (List.getElem_mem _)
      obtain ⟨hx0, hx1⟩ := hxr
      rw [← hx] at kd HT
      obtain ⟨_, _, _, _, _, g6⟩ := ch_at x hx0 hx1
      have hch : ∀ h : x.toNat < csA.size, ((csA[x.toNat]'h).toNat : Int) = chI x := fun h => by rw [← g6]; exact bt_at csA x h
      have hxn : x.toNat < 32 := by omega
      have HL : Aside0 (((xs.take i).map chI).length = i) := ⟨by simp; have := HN.out; omega⟩
      generalize chI x = y at HT hch
      clear hx g6
      unfold csA at hch
      go_wp2_with (first
        | (at_builtin; refine Kd.R_append (Kd.int .u8) (w0 := w) w.heap.size rfl (.tmp 20) (.tmp 23) 22 5 (.int .u8 0) 1 rfl Tryd.underlying22 info5 rfl (by decide) (by decide) _ _ y [.int .u8 y] (fun _ => True) (fun _ => False) rfl rfl rfl (fun _ hk => hk.elim) (fun _ _ => trivial) HR.out HB.out HB.out.size (by rw [HL.out]; omega) ?_; intro v6 w6 hR6 hb6 _ _; have HR6 := Aside0.mk hR6; have HB6 := Aside0.mk hb6; clear hR6 hb6)
        | fail)
      go_roundw
      case rel => exact ⟨i + 1, by go_num, by omega, ⟨by rw [HT.out]; exact HR6.out⟩, HB6⟩
      case measure => simp [intOf]; omega
    · obtain rfl : i = n := by omega
      rw [show xs.take i = xs by rw [List.take_of_length_le]; rw [HN.out]; exact Nat.le_refl _] at HR
      have hcv := own_string (P := Tryd.prog) Tryd.underlying22 Tryd.underlying5 Tryd.underlying9 (Kd.own_of_R HR.out)
      go_wp2
      go_ret2
      exact ⟨rfl, HB.out⟩
end Go.Proofs.YthkijnfpllbdnaaDoor.Bec
