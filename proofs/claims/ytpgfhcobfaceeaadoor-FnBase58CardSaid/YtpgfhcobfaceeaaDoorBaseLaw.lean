/-
  The law FnBase58, walked: by the contracts of what it calls.
-/
import Derived.Test.YtpgfhcobfaceeaaDoorEncWalk
import Derived.Test.YtpgfhcobfaceeaaDoorUnLaw
namespace Go.Proofs.YtpgfhcobfaceeaaDoor.PFnBase58
open Go.RowKit Go.Proofs.YtpgfhcobfaceeaaDoor.Hand Go.Proofs.YtpgfhcobfaceeaaDoorW.PrintWords Go.Proofs.YtpgfhcobfaceeaaDoorW.PrintLast Go.Proofs.YtpgfhcobfaceeaaDoorW.PrintMore Val PFnUnBase58

theorem base_calls (A : Option Addr) (c : Nat) (b : List Int) (w : World) (hC : Kd.C (Kd.int .u8) w A b.length b) (hb : b.length ≤ 200) (hr : ∀ x ∈ b, 0 ≤ x ∧ x < 256) :
    Calls Tryd.prog 10 #[.slice A b.length c] w fun e w' => e = .returned (.string (strOfNums (txt b))) ∧ Below w.heap.size w w' := by
  have HC := Aside0.mk hC
  have HR := Aside0.mk hr
  clear hC hr
  have h2 : (b.length : Int) ≤ 200 := by omega
  go_enter Tryd.func10, Tryd.ntmps10
  go_wp2_with (first
    | (go_at_call 19; refine (clone_calls A c b w HC.out (by omega)).mono ?_; rintro e w1 ⟨v1, rfl, hR, b1⟩; obtain ⟨A1, c1, rfl⟩ := Kd.R_slice hR; have HR1 := Aside0.mk (Kd.R_reads' hR).2; have B1 := Aside0.mk b1; clear hR b1)
    | (go_at_call 18; refine (enc_calls A1 c1 b w1 HR1.out.2 HR1.out.1 hb HR.out).mono ?_; rintro e w2 ⟨rfl, b2⟩; have B2 := Aside0.mk (below_step B1.out b2); clear b2)
    | fail)
  go_ret
  exact ⟨rfl, B2.out⟩

theorem law_far (A : Option Addr) (c : Nat) (b : List Int) (w : World) (hs : 140 < b.length) :
    Calls Tryd.prog 4 #[.slice A b.length c] w fun e w' => e = .returned (.bool true) ∧ Below w.heap.size w w' := by
  by_cases h : (2147483647 : Int) < (b.length : Int)
  · go_enter Tryd.func4, Tryd.ntmps4
    go_wp2
    all_goals first | (exfalso; omega) | (go_ret; exact ⟨rfl, Below.refl _ _⟩)
  · have h2 : (140 : Int) < (b.length : Int) := by omega
    go_enter Tryd.func4, Tryd.ntmps4
    go_wp2
    all_goals first | (exfalso; omega) | (go_ret; exact ⟨rfl, Below.refl _ _⟩)

theorem twelve_str : strOfNums [49, 50] = ⟨#[49, 50]⟩ := by decide +kernel

theorem law_near (A : Option Addr) (c : Nat) (b : List Int) (w : World) (hC : Kd.C (Kd.int .u8) w A b.length b) (hc : b.length ≤ c) (hs : b.length ≤ 140) (hr : ∀ x ∈ b, 0 ≤ x ∧ x < 256) (hT : tabAt w) (hg : 1 < w.heap.size) :
    Calls Tryd.prog 4 #[.slice A b.length c] w fun e w' => e = .returned (.bool true) ∧ Below w.heap.size w w' := by
  obtain ⟨k, hk⟩ := spec_f b hr hs
  have hsz := (txt_short b hr hs).1
  have hback := unB_txt b hr
  rw [← bytesOf_nums (txt b) (txt_range hr)] at hback
  obtain ⟨s, hse⟩ : ∃ s, s = strOfNums (txt b) := ⟨_, rfl⟩
  have hss : s.size ≤ 200 := by rw [hse, strOfNums_size]; exact hsz
  have BC : Aside0 (∀ w1, Below w.heap.size w w1 → Calls Tryd.prog 10 #[.slice A b.length c] w1 fun e w' => e = .returned (.string s) ∧ Below w1.heap.size w1 w') := ⟨fun w1 hw => by rw [hse]; exact base_calls A c b w1 (Kd.C_below hC hw) (by omega) hr⟩
  have SC : Aside0 (∀ w1, Below w.heap.size w w1 → Calls Tryd.prog 11 #[.slice A b.length c] w1 fun e w' => e = .returned (.string s) ∧ Below w1.heap.size w1 w') := ⟨fun w1 hw => by rw [hse]; exact spec_Base58.calls k A c b _ w1 (Kd.C_below hC hw) hc hk⟩
  have UC : Aside0 (∀ w1, Below w.heap.size w w1 → Calls Tryd.prog 9 #[.string s] w1 fun e w' => ∃ A' c', e = .returned (.slice A' b.length c') ∧ b.length ≤ c' ∧ Kd.C (Kd.int .u8) w' A' b.length b ∧ Below w1.heap.size w1 w') := ⟨fun w1 hw => by
    have := impl_calls s hss w1 (hT.below hw hg) (Nat.lt_of_lt_of_le hg hw.size)
    rw [hse, hback] at this
    rw [hse]
    exact this⟩
  have HC := Aside0.mk hC
  have HCc := Aside0.mk hc
  have h2 : (b.length : Int) ≤ 140 := by omega
  clear hk hsz hback hse hss hC hc hT hg
  go_enter Tryd.func4, Tryd.ntmps4
  go_wp2_with fail
  refine (BC.out _ (Below.refl _ _)).mono ?_
  rintro e w1 ⟨rfl, b1⟩
  have B1 := Aside0.mk b1
  clear b1
  go_wp2_with fail
  refine (SC.out _ B1.out).mono ?_
  rintro e w2 ⟨rfl, b2⟩
  have B2 := Aside0.mk (below_step B1.out b2)
  clear b2
  go_wp2_with fail
  refine (UC.out _ B2.out).mono ?_
  rintro e w3 ⟨A3, c3, rfl, l3, k3, b3⟩
  have B3 := Aside0.mk (below_step B2.out b3)
  have K3 := Aside0.mk k3
  have L3 := Aside0.mk l3
  clear b3 k3 l3
  go_wp2_with fail
  refine (laws_same.calls A3 c3 b A c b true w3 K3.out L3.out (Kd.C_below HC.out B3.out) HCc.out (by simp [laws_same.f])).mono ?_
  rintro e w4 ⟨rfl, hd4⟩
  have B4 := Aside0.mk (below_step B3.out hd4.below)
  clear hd4
  go_wp2_with fail
  have HN : (w4.alloc (Obj.cells #[Value.int IntKind.u8 0, Value.int IntKind.u8 1] 5)).heap[w4.heap.size]? = some (.cells (([0, 1] : List Int).map (Value.int .u8)).toArray 5 (0, 0)) := by
    show (w4.heap.push _)[w4.heap.size]? = _
    simp
  have HCN := C_of_block HN (by simp)
  have B5 := Aside0.mk (B4.out.alloc B4.out.size (Obj.cells #[Value.int IntKind.u8 0, Value.int IntKind.u8 1] 5))
  have BC2 := base_calls (some ⟨w4.heap.size, 0, none⟩) 2 [0, 1] _ HCN (by decide) (by decide)
  rw [txt_twelve, twelve_str] at BC2
  refine BC2.mono ?_
  rintro e w6 ⟨rfl, b6⟩
  have B6 := Aside0.mk (below_step B5.out b6)
  clear b6 HN HCN BC2
  go_wp2
  go_ret
  exact ⟨rfl, B6.out⟩

/-- The law, at all bytes. -/
theorem law_calls (A : Option Addr) (c : Nat) (b : List Int) (w : World) (hC : Kd.C (Kd.int .u8) w A b.length b) (hc : b.length ≤ c) (hr : ∀ x ∈ b, 0 ≤ x ∧ x < 256) (hT : tabAt w) (hg : 1 < w.heap.size) :
    Calls Tryd.prog 4 #[.slice A b.length c] w fun e w' => e = .returned (.bool true) ∧ Below w.heap.size w w' := by
  by_cases h : b.length ≤ 140
  · exact law_near A c b w hC hc h hr hT hg
  · exact law_far A c b w (by omega)
end Go.Proofs.YtpgfhcobfaceeaaDoor.PFnBase58
