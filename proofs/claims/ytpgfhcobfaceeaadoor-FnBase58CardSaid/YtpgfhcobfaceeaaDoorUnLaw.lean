/-
  The law FnUnBase58, walked: by the contracts of what it calls.
-/
import Derived.Test.YtpgfhcobfaceeaaDoorUnWalk
import Derived.Lib.LaidTab
namespace Go.Proofs.YtpgfhcobfaceeaaDoor.PFnUnBase58
open Go.RowKit Go.Proofs.YtpgfhcobfaceeaaDoor.Hand Go.Proofs.YtpgfhcobfaceeaaDoorW.PrintWords Go.Proofs.YtpgfhcobfaceeaaDoorW.PrintLast Go.Proofs.YtpgfhcobfaceeaaDoorW.PrintMore

theorem impl_calls (s : ByteArray) (hs : s.size ≤ 200) (w : World) (hT : tabAt w) (hg : 1 < w.heap.size) :
    Calls Tryd.prog 9 #[.string s] w fun e w' => ∃ A c, e = .returned (.slice A (unB (bytesOf s)).length c) ∧ (unB (bytesOf s)).length ≤ c ∧ Kd.C (Kd.int .u8) w' A (unB (bytesOf s)).length (unB (bytesOf s)) ∧ Below w.heap.size w w' := by
  have D := Aside0.mk (decode_calls s hs w hT hg)
  clear hT hg
  go_enter Tryd.func9, Tryd.ntmps9
  go_wp2_with fail
  refine D.out.mono ?_
  rintro e w' ⟨A, l, c, rfl, hl, hc, hb⟩
  have hl' : (unB (bytesOf s)).length = l := hc.1
  subst hl'
  have HC := Aside0.mk hc
  have HB := Aside0.mk hb
  have HL := Aside0.mk hl
  clear hc hb hl
  go_wp2
  go_ret
  exact ⟨A, c, rfl, HL.out, HC.out, HB.out⟩

theorem law_far (s : ByteArray) (hs : 200 < s.size) (hs2 : s.size ≤ maxLen) (w : World) :
    Calls Tryd.prog 3 #[.string s] w fun e w' => e = .returned (.bool true) ∧ Below w.heap.size w w' := by
  unfold maxLen at hs2
  by_cases h : 2147483647 < s.size
  · go_enter Tryd.func3, Tryd.ntmps3
    go_wp2
    all_goals first | (exfalso; omega) | (go_ret; exact ⟨rfl, Below.refl _ _⟩)
  · go_enter Tryd.func3, Tryd.ntmps3
    go_wp2
    all_goals first | (exfalso; omega) | (go_ret; exact ⟨rfl, Below.refl _ _⟩)

theorem un_twelve : unB (bytesOf ⟨#[49, 50]⟩) = [0, 1] := by decide +kernel

theorem law_near (s : ByteArray) (hs : s.size ≤ 200) (w : World) (hT : tabAt w) (hg : 1 < w.heap.size) :
    Calls Tryd.prog 3 #[.string s] w fun e w' => e = .returned (.bool true) ∧ Below w.heap.size w w' := by
  obtain ⟨b, hev⟩ := un_f s hs
  obtain ⟨k, hk⟩ := hev.rounds
  have SP := Aside0.mk (spec_UnBase58.calls k s _ b w hk)
  have HT := Aside0.mk hT
  have HG := Aside0.mk hg
  obtain ⟨T, hTE⟩ : ∃ T, T = unB (bytesOf s) := ⟨_, rfl⟩
  rw [← hTE] at SP
  have HTE := Aside0.mk hTE
  clear hTE hT hg hk hev
  go_enter Tryd.func3, Tryd.ntmps3
  go_wp2_with fail
  refine SP.out.mono ?_
  rintro e w1 ⟨v1, rfl, hr1, hb1⟩
  have HB1 := Aside0.mk hb1
  obtain ⟨A1, c1, ev, hl1, hc1⟩ := Kd.R_reads hr1
  subst ev
  have HC1 := Aside0.mk hc1
  have HL1 := Aside0.mk hl1
  clear hr1 hb1 hc1 hl1
  go_wp2_with fail
  refine (impl_calls s hs w1 (HT.out.below HB1.out HG.out) (Nat.lt_of_lt_of_le HG.out HB1.out.size)).mono ?_
  rintro e w2 ⟨A2, c2, rfl, hl2, hc2, hb2⟩
  rw [← HTE.out] at hl2 hc2 ⊢
  have HC1' := Aside0.mk (Kd.C_below HC1.out hb2)
  have HB2 := Aside0.mk (below_step HB1.out hb2)
  have HC2 := Aside0.mk hc2
  have HL2 := Aside0.mk hl2
  clear hl2 hc2 hb2
  go_wp2_with fail
  refine (laws_same.calls A2 c2 T A1 c1 T true w2 HC2.out HL2.out HC1'.out HL1.out (by simp [laws_same.f])).mono ?_
  rintro e w3 ⟨rfl, hd3⟩
  have HB3 := Aside0.mk (below_step HB2.out hd3.below)
  clear hd3
  go_wp2_with fail
  refine (impl_calls ⟨#[49, 50]⟩ (by decide) w3 (HT.out.below HB3.out HG.out) (Nat.lt_of_lt_of_le HG.out HB3.out.size)).mono ?_
  rintro e w4 ⟨A4, c4, rfl, hl4, hc4, hb4⟩
  rw [un_twelve] at hl4 hc4 ⊢
  have HC4 := Aside0.mk hc4
  have HL4 := Aside0.mk hl4
  have HB4 := Aside0.mk (below_step HB3.out hb4)
  clear hl4 hc4 hb4
  go_wp2_with fail
  have HN : (w4.alloc (Obj.cells #[Value.int IntKind.u8 0, Value.int IntKind.u8 1] 5)).heap[w4.heap.size]? = some (.cells (([0, 1] : List Int).map (Value.int .u8)).toArray 5 (0, 0)) := by
    show (w4.heap.push _)[w4.heap.size]? = _
    simp
  have HCN := C_of_block HN (by simp)
  have HB5 := Aside0.mk (HB4.out.alloc HB4.out.size (Obj.cells #[Value.int IntKind.u8 0, Value.int IntKind.u8 1] 5))
  have HC4' := Kd.C_below HC4.out ((Below.refl w4.heap.size w4).alloc (Nat.le_refl _) (Obj.cells #[Value.int IntKind.u8 0, Value.int IntKind.u8 1] 5))
  refine (laws_same.calls A4 c4 [0, 1] (some ⟨w4.heap.size, 0, none⟩) 2 [0, 1] true _ HC4' HL4.out HCN (Nat.le_refl _) (by simp [laws_same.f])).mono ?_
  rintro e w6 ⟨rfl, hd6⟩
  have HB6 := Aside0.mk (below_step HB5.out hd6.below)
  clear hd6 HN HCN HC4'
  go_wp2
  go_ret
  exact ⟨rfl, HB6.out⟩

/-- The law, at every text. -/
theorem law_calls (s : ByteArray) (hs : s.size ≤ maxLen) (w : World) (hT : tabAt w) (hg : 1 < w.heap.size) :
    Calls Tryd.prog 3 #[.string s] w fun e w' => e = .returned (.bool true) ∧ Below w.heap.size w w' := by
  by_cases h : s.size ≤ 200
  · exact law_near s h w hT hg
  · exact law_far s (by omega) hs w
end Go.Proofs.YtpgfhcobfaceeaaDoor.PFnUnBase58
