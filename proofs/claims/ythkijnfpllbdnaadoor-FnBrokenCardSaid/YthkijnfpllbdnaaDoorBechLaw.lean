/-
  The law FnBech32, walked.
-/
import Derived.Test.YthkijnfpllbdnaaDoorSbechWalk
import Derived.Test.YthkijnfpllbdnaaDoorUnLaw
namespace Go.Proofs.YthkijnfpllbdnaaDoor.Bec
open Go.RowKit Go.Proofs.YthkijnfpllbdnaaDoor.Hand Go.Proofs.YthkijnfpllbdnaaDoorW.PrintWords Go.Proofs.YthkijnfpllbdnaaDoorW.PrintLast Go.Proofs.YthkijnfpllbdnaaDoorW.PrintMore

theorem enc_range {h d : List Int} (hh : ∀ c ∈ h, 0 ≤ c ∧ c < 256) (hd : ∀ g ∈ d, 0 ≤ g ∧ g < 32) : ∀ x ∈ encI h d, 0 ≤ x ∧ x < 256 := by
  intro x hx
  rcases List.mem_append.1 hx with a | a
  · exact hh x a
  · rcases List.mem_cons.1 a with rfl | a
    · omega
    · obtain ⟨g, hg, rfl⟩ := List.mem_map.1 a
      have hg2 : 0 ≤ g ∧ g < 32 := by
        rcases List.mem_append.1 hg with b | b
        · exact hd g b
        · exact nums_range (six_lt _) g b
      have := ch_at g hg2.1 hg2.2
      omega
/-- What is written is read. -/
theorem unb_of_enc (s : ByteArray) (d : List Int) (n : Nat) (hn : d.length = n) (hp : partB (bytesOf s) = true) (hg : groupsB s.size d = true) (hd : ∀ g ∈ d, 0 ≤ g ∧ g < 32) (w : World) (hG : genAt w) (h0 : 0 < w.heap.size) :
    Calls Tryd.prog 7 #[.string (strOfNums (encI (bytesOf s) d))] w fun e w' => ∃ A c, e = .returned (.tuple #[.string s, .slice A n c, .bool true]) ∧ Kd.C (Kd.int .u8) w' A n d ∧ n ≤ c ∧ Below w.heap.size w w' := by
  refine (unb_calls _ w hG h0).mono ?_
  rintro e w' ⟨a, b⟩
  have hb : bytesOf (strOfNums (encI (bytesOf s) d)) = encI (bytesOf s) d := bytesOf_nums _ (enc_range (bytesOf_range s) hd)
  rw [hb, dec_enc hp (by rw [bytesOf_length]; exact hg) (fun g hgm => (hd g hgm).1)] at a
  obtain ⟨A, c, h1, h2, h3⟩ := a.2 _ _ rfl
  rw [str_bytes, hn] at h1
  rw [hn] at h2 h3
  exact ⟨A, c, h1, h2, h3, b⟩

set_option maxHeartbeats 8000000 in
theorem bech_law (s : ByteArray) (A : Option Addr) (n c : Nat) (d : List Int) (w : World) (hG : genAt w) (h0 : 0 < w.heap.size) (hn : d.length = n) (hC : Kd.C (Kd.int .u8) w A n d) (hc : n ≤ c) (hr : ∀ g ∈ d, 0 ≤ g) :
    Calls Tryd.prog 5 #[.string s, .slice A n c] w fun e w' => e = .returned (.bool true) ∧ Below w.heap.size w w' := by
  by_cases hbig : (2147483647 : Int) < s.size
  · clear hG h0 hn hC hc hr
    go_enter Tryd.func5, Tryd.ntmps5
    go_wp2
    go_ret
    exact ⟨rfl, Below.refl _ _⟩
  by_cases hbig2 : (2147483647 : Int) < n
  · clear hG h0 hn hC hc hr
    go_enter Tryd.func5, Tryd.ntmps5
    go_wp2
    go_ret
    exact ⟨rfl, Below.refl _ _⟩
  have HIP : Aside0 (Calls Tryd.prog 9 #[.string s] w fun e w' => e = .returned (.bool (partB (bytesOf s))) ∧ Below w.heap.size w w') := ⟨by
    obtain ⟨k, hk⟩ := part_f s (by omega)
    exact (PFnBech32.spec_IsPart.calls k s _ w hk).mono fun e w' ⟨a, b⟩ => ⟨a, b.below⟩⟩
  have HGR : Aside0 (∀ w2, Below w.heap.size w w2 → Calls Tryd.prog 10 #[.string s, .slice A n c] w2 fun e w' => e = .returned (.bool (groupsB s.size d)) ∧ Below w2.heap.size w2 w') := ⟨fun w2 hb => by
    obtain ⟨k, hk⟩ := groups_f s d (by omega) (by omega)
    have h := PFnBech32.spec_AreGroups.calls k s A c d _ w2 (by rw [hn]; exact Kd.C_below hC hb) (by rw [hn]; exact hc) hk
    rw [hn] at h
    exact h.mono fun e w' ⟨a, b⟩ => ⟨a, b.below⟩⟩
  cases hp : partB (bytesOf s) with
  | false =>
    rw [hp] at HIP
    clear hG h0 hn hC hc hr HGR hp
    go_enter Tryd.func5, Tryd.ntmps5
    go_wp2_with (first | (go_at_call 9; refine HIP.out.mono ?_; rintro e w1 ⟨rfl, hb1⟩) | fail)
    go_ret
    exact ⟨rfl, hb1⟩
  | true =>
    rw [hp] at HIP
    cases hg : groupsB s.size d with
    | false =>
      rw [hg] at HGR
      clear hG h0 hn hC hc hr hp hg
      go_enter Tryd.func5, Tryd.ntmps5
      go_wp2_with (first | (go_at_call 9; refine HIP.out.mono ?_; rintro e w1 ⟨rfl, hb1⟩; have HB1 := Aside0.mk hb1; clear hb1) | (go_at_call 10; refine (HGR.out _ HB1.out).mono ?_; rintro e w2 ⟨rfl, hb2⟩) | fail)
      go_ret
      exact ⟨rfl, below_step HB1.out hb2⟩
    | true =>
      rw [hg] at HGR
      have hg' := hg
      have hp' := hp
      unfold groupsB at hg'
      unfold partB at hp'
      simp only [Bool.and_eq_true, decide_eq_true_eq, List.all_eq_true] at hg' hp'
      have hd : ∀ g ∈ d, 0 ≤ g ∧ g < 32 := fun g hgm => ⟨hr g hgm, by have := hg'.1 g hgm; omega⟩
      have hs2 : s.size ≤ 90 := by omega
      have hn2 : n ≤ 90 := by omega
      have HBE : Aside0 (∀ w2, Below w.heap.size w w2 → Calls Tryd.prog 13 #[.string s, .slice A n c] w2 fun e w' => e = .returned (.tuple #[.string (strOfNums (encI (bytesOf s) d)), .bool true]) ∧ Below w2.heap.size w2 w') :=
        ⟨fun w2 hb => bech_calls s (by omega) A n c d w2 (hG.below hb h0) (Nat.lt_of_lt_of_le h0 hb.size) hn (Kd.C_below hC hb) hd (by omega)⟩
      have HUN : Aside0 (∀ w2, Below w.heap.size w w2 → Calls Tryd.prog 7 #[.string (strOfNums (encI (bytesOf s) d))] w2 fun e w' => ∃ A c, e = .returned (.tuple #[.string s, .slice A n c, .bool true]) ∧ Kd.C (Kd.int .u8) w' A n d ∧ n ≤ c ∧ Below w2.heap.size w2 w') :=
        ⟨fun w2 hb => unb_of_enc s d n hn hp hg hd w2 (hG.below hb h0) (Nat.lt_of_lt_of_le h0 hb.size)⟩
      have HSB : Aside0 (∀ w2, Below w.heap.size w w2 → Calls Tryd.prog 11 #[.string s, .slice A n c] w2 fun e w' => e = .returned (.string (strOfNums (encI (bytesOf s) d))) ∧ Below w2.heap.size w2 w') :=
        ⟨fun w2 hb => sbech_calls s (by omega) A n c d w2 hn (Kd.C_below hC hb) hd (by omega)⟩
      have HSM : Aside0 (∀ (W : World) A1 c1, Below w.heap.size w W → Kd.C (Kd.int .u8) W A1 n d → n ≤ c1 → Calls Tryd.prog 8 #[.slice A1 n c1, .slice A n c] W fun e w' => e = .returned (.bool true) ∧ Below W.heap.size W w') := ⟨fun W A1 c1 hb h1 h2 => by
        have h := PFnUnBech32.laws_same.calls A1 c1 d A c d true W (by rw [hn]; exact h1) (by rw [hn]; exact h2) (by rw [hn]; exact Kd.C_below hC hb) (by rw [hn]; exact hc) (by simp [PFnUnBech32.laws_same.f])
        rw [hn] at h
        exact h.mono fun e w' ⟨a, b⟩ => ⟨a, b.below⟩⟩
      clear hG h0 hn hC hc hr hp hg hg' hp' hd
      generalize strOfNums (encI (bytesOf s) d) = R at HBE HUN HSB
      go_enter Tryd.func5, Tryd.ntmps5
      go_wp2_with (first
        | (go_at_call 9; refine HIP.out.mono ?_; rintro e w1 ⟨rfl, hb1⟩; have HB1 := Aside0.mk hb1; clear hb1)
        | (go_at_call 10; refine (HGR.out _ HB1.out).mono ?_; rintro e w2 ⟨rfl, hb2⟩; have HB2 := Aside0.mk (below_step HB1.out hb2); clear hb2)
        | (go_at_call 13; refine (HBE.out _ HB2.out).mono ?_; rintro e w3 ⟨rfl, hb3⟩; have HB3 := Aside0.mk (below_step HB2.out hb3); clear hb3)
        | (go_at_call 7; refine (HUN.out _ HB3.out).mono ?_; rintro e w4 ⟨A4, c4, rfl, hC4, hc4, hb4⟩; have HB4 := Aside0.mk (below_step HB3.out hb4); have HC4 := Aside0.mk hC4; have HCc4 := Aside0.mk hc4; clear hb4 hC4 hc4)
        | (go_at_call 11; refine (HSB.out _ HB4.out).mono ?_; rintro e w5 ⟨rfl, hb5⟩; have HB5 := Aside0.mk (below_step HB4.out hb5); have HC5 := Aside0.mk (Kd.C_below HC4.out hb5); clear hb5)
        | (go_at_call 8; refine (HSM.out _ A4 c4 HB5.out HC5.out HCc4.out).mono ?_; rintro e w6 ⟨rfl, hb6⟩; have HB6 := Aside0.mk (below_step HB5.out hb6); clear hb6)
        | fail)
      go_ret
      exact ⟨rfl, HB6.out⟩
end Go.Proofs.YthkijnfpllbdnaaDoor.Bec
