/-
  The walks of errors.New, toBytes and toChars.
-/
import Derived.Test.YthkijnfpllbdnaaDoorChkWalk
import Derived.Test.YthkijnfpllbdnaaDoorPFnUnBech32x2
namespace Go.Proofs.YthkijnfpllbdnaaDoor.Bec
open Go.RowKit Go.Proofs.YthkijnfpllbdnaaDoor.Hand Go.Proofs.YthkijnfpllbdnaaDoorW.PrintWords Go.Proofs.YthkijnfpllbdnaaDoorW.PrintLast Go.Proofs.YthkijnfpllbdnaaDoorW.PrintMore

def csA : ByteArray := ⟨#[113, 112, 122, 114, 121, 57, 120, 56, 103, 102, 50, 116, 118, 100, 119, 48, 115, 51, 106, 110, 53, 52, 107, 104, 99, 101, 54, 109, 117, 97, 55, 108]⟩
def csL : List Int := [113, 112, 122, 114, 121, 57, 120, 56, 103, 102, 50, 116, 118, 100, 119, 48, 115, 51, 106, 110, 53, 52, 107, 104, 99, 101, 54, 109, 117, 97, 55, 108]
def pos (c : Int) : List Int → Nat → Int
  | [], _ => -1
  | x :: l, i => if x = c then i else pos c l (i + 1)
/-- The place of a letter in the alphabet; -1 of none. -/
def idxI (c : Int) : Int := pos c csL 0
/-- The letter of a group. -/
def chI (g : Int) : Int := csL.getD g.toNat 0
theorem idx_all : (List.range 256).all (fun n => decide (PFnUnBech32.bech32_zzIndexByte.f 40 csA (n : Int) = some (idxI (n : Int)) ∧ PFnUnBech32.spec_indexOf.f 40 csA (n : Int) = some (idxI (n : Int)) ∧ -1 ≤ idxI (n : Int) ∧ idxI (n : Int) < 32)) = true := by decide +kernel
theorem idx_at (c : Int) (h0 : 0 ≤ c) (h1 : c < 256) : PFnUnBech32.bech32_zzIndexByte.f 40 csA c = some (idxI c) ∧ PFnUnBech32.spec_indexOf.f 40 csA c = some (idxI c) ∧ -1 ≤ idxI c ∧ idxI c < 32 := by
  have h := of_decide_eq_true (List.all_eq_true.1 idx_all c.toNat (List.mem_range.2 (by omega)))
  rwa [show ((c.toNat : Nat) : Int) = c from by omega] at h
theorem ch_all : (List.range 32).all (fun n => decide (idxI (chI (n : Int)) = (n : Int) ∧ 33 ≤ chI (n : Int) ∧ chI (n : Int) ≤ 122 ∧ chI (n : Int) ≠ 49 ∧ ¬ (65 ≤ chI (n : Int) ∧ chI (n : Int) ≤ 90) ∧ bt csA (n : Int) = chI (n : Int))) = true := by decide +kernel
theorem ch_at (g : Int) (h0 : 0 ≤ g) (h1 : g < 32) : idxI (chI g) = g ∧ 33 ≤ chI g ∧ chI g ≤ 122 ∧ chI g ≠ 49 ∧ ¬ (65 ≤ chI g ∧ chI g ≤ 90) ∧ bt csA g = chI g := by
  have h := of_decide_eq_true (List.all_eq_true.1 ch_all g.toNat (List.mem_range.2 (by omega)))
  rwa [show ((g.toNat : Nat) : Int) = g from by omega] at h

theorem errnew_calls (s : ByteArray) (w : World) : Calls Tryd.prog 20 #[.string s] w fun e w' => ∃ x, e = .returned (.iface 53 x) ∧ Below w.heap.size w w' := by
  go_enter Tryd.func20, Tryd.ntmps20
  go_wp2
  go_ret
  exact ⟨_, rfl, below_alloc (Below.refl _ _) _⟩

/-- What toBytes answers. -/
def okL (l : List Int) : Bool := l.all fun c => decide (0 ≤ idxI c)
def IsBytes (l : List Int) (w : World) (e : Ending) (w' : World) : Prop :=
  (okL l = true → ∃ v, e = .returned (.tuple #[v, .nilIface]) ∧ Kd.R (Kd.int .u8) 5 w' w.heap.size (fun _ => True) v (l.map idxI)) ∧ (okL l = false → ∃ x, e = .returned (.tuple #[.slice none 0 0, .iface 53 x]))
theorem ok_snoc (l : List Int) (c : Int) (h : okL l = true) (hc : 0 ≤ idxI c) : okL (l ++ [c]) = true := by
  unfold okL at *
  rw [List.all_append, h]
  simp [hc]
theorem ok_bad (l : List Int) (c : Int) (hm : c ∈ l) (hc : idxI c < 0) : okL l = false := by
  unfold okL
  rw [List.all_eq_false]
  exact ⟨c, hm, by simp; omega⟩

set_option maxHeartbeats 8000000 in
theorem toBytes_calls (s : ByteArray) (hs : s.size ≤ 1000000) (w : World) :
    Calls Tryd.prog 24 #[.string s] w fun e w' => IsBytes (bytesOf s) w e w' ∧ Below w.heap.size w w' := by
  obtain ⟨i0, hi, hz0, hz1, hz2⟩ := info_parts info5
  have hbl := bytesOf_length s
  have HBL := Aside0.mk hbl
  have HII := Aside0.mk (show Tryd.prog.info? 5 = some i0 ∧ i0.zero = some (.int .u8 0) ∧ i0.size = 1 ∧ i0.bytes = 1 from ⟨hi, hz0, hz1, hz2⟩)
  clear hbl hi hz0 hz1 hz2
  go_enter Tryd.func24, Tryd.ntmps24
  go_wp2_with (first
    | (at_make; refine wpList_make_own w rfl _ _ 22 rfl w.heap.size 5 i0 (.int .u8 0) 1 Tryd.underlying22 HII.out.1 HII.out.2.1 HII.out.2.2.1 .i64 .i64 _ (s.size) rfl rfl (by simp) (by rw [HII.out.2.2.2]; omega) (by unfold maxLen; omega) (Nat.le_refl _) ?_; intro w1 hown hgrow; have HR1 := Aside0.mk (Kd.R_of_own (enc := Value.int .u8) (h1 := fun _ => rfl) (xs := []) (ok := fun _ => True) hown (fun _ _ => trivial)); have HB1 := Aside0.mk ((Below.refl w.heap.size w).grown hgrow (Nat.le_refl _) (fun _ h => by cases h)); clear hown hgrow)
    | fail)
  clear HII
  go_loopw [4, 5] (fun v4 v5 wr => ∃ i : Nat, v5 = .int .i64 i ∧ i ≤ s.size ∧ Aside0 (okL ((bytesOf s).take i) = true) ∧ Aside0 ((Kd.int .u8).R 5 wr w.heap.size (fun _ => True) v4 (((bytesOf s).take i).map idxI)) ∧ Aside0 (Below w.heap.size w wr)) (fun _ v5 _ => s.size - (intOf v5).toNat)
  case atStart => exact ⟨0, rfl, Nat.zero_le _, ⟨rfl⟩, HR1, HB1⟩
  case round =>
    obtain ⟨i, rfl, hi, HV, HR, HB⟩ := hrel
    clear HR1 HB1
    by_cases hlt : i < s.size
    · obtain ⟨c, hcE⟩ : ∃ c, c = bt s (i : Int) := ⟨_, rfl⟩
      have hrng := bt_range s (i : Int)
      rw [← hcE] at hrng
      obtain ⟨hc0, hc1⟩ := hrng
      have hx8 : ∀ h : i < s.size, ((s[i]'h).toNat : Int) = c := fun h => by rw [hcE]; simpa using bt_at s (i : Int) (by simpa using h)
      obtain ⟨g1, _, g2, g3⟩ := idx_at c hc0 (by omega)
      have HIX := Aside0.mk (fun w2 => PFnUnBech32.bech32_zzIndexByte.calls 40 csA c (idxI c) w2 g1)
      have HTK := Aside0.mk (take_snoc s i hlt)
      rw [← hcE] at HTK
      have HMEM : Aside0 (c ∈ bytesOf s) := ⟨by
        have h : c ∈ (bytesOf s).take (i + 1) := by rw [HTK.out]; simp
        exact List.mem_of_mem_take h⟩
      have HID : Aside0 (∃ x, x = idxI c) := ⟨_, rfl⟩
      obtain ⟨x, hxE⟩ := HID.out
      rw [← hxE] at HIX g2 g3
      have HXE := Aside0.mk hxE
      have HL : Aside0 ((((bytesOf s).take i).map idxI).length = i) := ⟨by simp [HBL.out]; omega⟩
      clear hcE g1 hxE HID
      by_cases hneg : x < 0
      · have HBAD : Aside0 (okL (bytesOf s) = false) := ⟨ok_bad _ c HMEM.out (by rw [← HXE.out]; exact hneg)⟩
        go_wp2_with (first
          | (go_at_call 35; refine (HIX.out _).mono ?_; rintro e w2 ⟨rfl, d2⟩; have HB2 := Aside0.mk (below_step HB.out d2.below); clear d2)
          | (go_at_call 20; refine (errnew_calls _ _).mono ?_; rintro e w3 ⟨y, rfl, hb3⟩; have HB3 := Aside0.mk (below_step HB2.out hb3); clear hb3)
          | fail)
        go_ret2
        exact ⟨⟨fun h => (by rw [HBAD.out] at h; cases h), fun _ => ⟨_, rfl⟩⟩, HB3.out⟩
      · have hx0 : 0 ≤ x := by omega
        go_wp2_with (first
          | (go_at_call 35; refine (HIX.out _).mono ?_; rintro e w2 ⟨rfl, d2⟩; have HB2 := Aside0.mk (below_step HB.out d2.below); have HR2 := Aside0.mk (Kd.R_below HR.out d2.below); clear d2)
          | (at_builtin; refine Kd.R_append (Kd.int .u8) (w0 := w) w.heap.size rfl (.tmp 23) (.tmp 26) 22 5 (.int .u8 0) 1 rfl Tryd.underlying22 info5 rfl (by decide) (by decide) _ _ x [.int .u8 x] (fun _ => True) (fun _ => False) rfl rfl rfl (fun _ hk => hk.elim) (fun _ _ => trivial) HR2.out HB2.out HB2.out.size (by rw [HL.out]; omega) ?_; intro v6 w6 hR6 hb6 _ _; have HR6 := Aside0.mk hR6; have HB6 := Aside0.mk hb6; clear hR6 hb6)
          | fail)
        go_roundw
        case rel => exact ⟨i + 1, by go_num, by omega, ⟨by rw [HTK.out]; exact ok_snoc _ _ HV.out (by rw [← HXE.out]; exact hx0)⟩, ⟨by rw [HTK.out, List.map_append, List.map_cons, List.map_nil, ← HXE.out]; exact HR6.out⟩, HB6⟩
        case measure => simp [intOf]; omega
    · obtain rfl : i = s.size := by omega
      rw [show (bytesOf s).take s.size = bytesOf s by rw [List.take_of_length_le]; rw [HBL.out]; omega] at HR HV
      go_wp2
      go_ret2
      exact ⟨⟨fun _ => ⟨_, rfl, HR.out⟩, fun h => by rw [HV.out] at h; cases h⟩, HB.out⟩
end Go.Proofs.YthkijnfpllbdnaaDoor.Bec
