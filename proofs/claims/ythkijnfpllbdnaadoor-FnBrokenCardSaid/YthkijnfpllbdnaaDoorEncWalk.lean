/-
  The walks of impl.clone, bech32.Encode and impl.Bech32.
-/
import Derived.Test.YthkijnfpllbdnaaDoorBchPure
namespace Go.Proofs.YthkijnfpllbdnaaDoor.Bec
open Go.RowKit Go.Proofs.YthkijnfpllbdnaaDoor.Hand Go.Proofs.YthkijnfpllbdnaaDoorW.PrintWords Go.Proofs.YthkijnfpllbdnaaDoorW.PrintLast Go.Proofs.YthkijnfpllbdnaaDoorW.PrintMore

theorem clone_calls (A : Option Addr) (c : Nat) (b : List Int) (w : World) (hC : Kd.C (Kd.int .u8) w A b.length b) (hb : b.length ≤ 1000) :
    Calls Tryd.prog 19 #[.slice A b.length c] w fun e w' => ∃ v, e = .returned v ∧ Kd.R (Kd.int .u8) 5 w' w.heap.size (fun _ => True) v b ∧ Below w.heap.size w w' := by
  have HC := Aside0.mk hC
  have HB := Aside0.mk (Below.refl w.heap.size w)
  clear hC
  go_enter Tryd.func19, Tryd.ntmps19
  go_wp2_with (first | (refine Kd.R_append_row (h1 := fun _ => rfl) (w0 := w) (Value.int .u8) (0 : Int) w.heap.size rfl _ _ 22 5 (.int .u8 0) 1 rfl Tryd.underlying22 info5 rfl (by decide) (.slice none 0 0) [] b A b.length c (fun _ => True) rfl rfl (fun _ _ => trivial) (Kd.R_nil _ _ _ _ _) HC.out HB.out (Nat.le_refl _) (by simp; omega) ?_; intro v1 w1 hR hB1 _ _) | fail)
  go_ret
  exact ⟨_, rfl, by rw [List.nil_append] at hR; exact hR, hB1⟩

theorem nat_nums {d : List Int} (h : ∀ g ∈ d, 0 ≤ g ∧ g < 32) : nums64 (d.map Int.toNat) = d := by
  unfold nums64
  rw [List.map_map]
  exact map_same fun g hg => by have := h g hg; simp only [Function.comp_apply]; omega
theorem str_append (a b : List Int) : strOfNums (a ++ b) = strOfNums a ++ strOfNums b := by
  unfold strOfNums
  rw [List.map_append]
  apply ByteArray.ext
  simp [ByteArray.data_append]
theorem str_bytes (s : ByteArray) : strOfNums (bytesOf s) = s := bytes_inj (bytesOf_nums _ (bytesOf_range s))

set_option maxHeartbeats 8000000 in
theorem encode_calls (s : ByteArray) (hs : s.size ≤ 1000) (A : Option Addr) (n c : Nat) (d : List Int) (w0 w : World) (hG : genAt w) (h0 : 0 < w.heap.size) (hn : d.length = n)
    (hR : Kd.R (Kd.int .u8) 5 w w0.heap.size (fun _ => True) (.slice A n c) d) (hB : Below w0.heap.size w0 w) (hd : ∀ g ∈ d, 0 ≤ g ∧ g < 32) (hl : n ≤ 1000) :
    Calls Tryd.prog 18 #[.string s, .slice A n c] w fun e w' => e = .returned (.tuple #[.string (strOfNums (encI (bytesOf s) d)), .nilIface]) ∧ Below w0.heap.size w0 w' := by
  have hC : Kd.C (Kd.int .u8) w A n d := by have h := (Kd.R_reads' hR).2.2; rw [hn] at h; exact h
  obtain ⟨S, hS⟩ : ∃ S, S = nums64 (six (chkN (bytesOf s) d)) := ⟨_, rfl⟩
  have hSl : S.length = 6 := by rw [hS, nums64_length]; exact six_length _
  have HCK : Aside0 (Calls Tryd.prog 26 #[.string s, .slice A n c] w fun e w' => ∃ v, e = .returned v ∧ Kd.R (Kd.int .u8) 5 w' w.heap.size (fun _ => True) v S ∧ Below w.heap.size w w') := ⟨by
    have h := checksum_calls s (by omega) A c (d.map Int.toNat) w hG h0 (by rw [List.length_map, nat_nums hd, hn]; exact hC) (by rw [List.length_map]; omega) (fun v hv => by
      obtain ⟨x, hx, rfl⟩ := List.mem_map.1 hv
      have := hd x hx
      omega)
    rw [List.length_map, hn] at h
    rw [hS]
    exact h⟩
  obtain ⟨D, hD⟩ : ∃ D, D = d ++ S := ⟨_, rfl⟩
  have hDl : D.length = n + 6 := by rw [hD, List.length_append, hn, hSl]
  have hDr : ∀ x ∈ D, 0 ≤ x ∧ x < 32 := fun x hx => by
    rw [hD] at hx
    rcases List.mem_append.1 hx with a | a
    · exact hd x a
    · rw [hS] at a; exact nums_range (six_lt _) x a
  have HTC : Aside0 (∀ A c w2, Kd.C (Kd.int .u8) w2 A (n + 6) D → Calls Tryd.prog 27 #[.slice A (n + 6) c] w2 fun e w' => e = .returned (.tuple #[.string (strOfNums (D.map chI)), .nilIface]) ∧ Below w2.heap.size w2 w') := ⟨fun A c w2 h => by
    have := toChars_calls A c D w2 (by rw [hDl]; exact h) (by omega) hDr
    rw [hDl] at this
    exact this⟩
  have HRES : Aside0 (strOfNums (encI (bytesOf s) d) = s ++ ⟨#[49]⟩ ++ strOfNums (D.map chI)) := ⟨by
    unfold encI
    rw [← hS, ← hD, show (49 :: D.map chI) = [49] ++ D.map chI from rfl, ← List.append_assoc, str_append, str_append, str_bytes]
    rfl⟩
  have hTs : (strOfNums (D.map chI)).size ≤ 2000 := by
    rw [← bytesOf_length, bytesOf_nums _ (fun x hx => by
      obtain ⟨g, hg, rfl⟩ := List.mem_map.1 hx
      have := ch_at g (hDr g hg).1 (hDr g hg).2
      omega), List.length_map]
    omega
  have HR := Aside0.mk hR
  have HB := Aside0.mk hB
  have HDE := Aside0.mk hD
  have HSL := Aside0.mk hSl
  have HNL := Aside0.mk hn
  clear hR hB hD hS hC hG h0 hDl hDr hSl hd hn
  generalize strOfNums (D.map chI) = T at HTC HRES hTs
  generalize strOfNums (encI (bytesOf s) d) = R at HRES ⊢
  go_enter Tryd.func18, Tryd.ntmps18
  go_wp2_with (first
    | (go_at_call 26; refine HCK.out.mono ?_; rintro e w2 ⟨v2, rfl, hR2, hb2⟩; obtain ⟨A2, c2, e2⟩ := Kd.R_slice hR2; rw [HSL.out] at e2; subst e2; have HB2 := Aside0.mk (below_then HB.out HB.out.size hb2); have HR1 := Aside0.mk (Kd.R_below HR.out hb2); have HC2 : Aside0 (Kd.C (Kd.int .u8) w2 A2 6 S) := ⟨(by have h := (Kd.R_reads' hR2).2.2; rw [HSL.out] at h; exact h)⟩; clear hR2 hb2)
    | ((with_reducible refine gate_builtin (b := .append) (xs := #[.tmp 13, .tmp 14]) rfl ?_); refine Kd.R_append_row (h1 := fun _ => rfl) (w0 := w0) (Value.int .u8) (0 : Int) w0.heap.size rfl _ _ 22 5 (.int .u8 0) 1 rfl Tryd.underlying22 info5 rfl (by decide) (.slice A n c) d S A2 6 c2 (fun _ => True) rfl rfl (fun _ _ => trivial) HR1.out HC2.out HB2.out HB2.out.size (by rw [HNL.out]; omega) ?_; intro v3 w3 hR3 hB3 _ _; obtain ⟨A3, c3, e3⟩ := Kd.R_slice hR3; rw [List.length_append, HNL.out, HSL.out] at e3; subst e3; rw [← HDE.out] at hR3; have HC3 : Aside0 (Kd.C (Kd.int .u8) w3 A3 (n + 6) D) := ⟨(by have h := (Kd.R_reads' hR3).2.2; rw [HDE.out, List.length_append, HNL.out, HSL.out] at h; rw [HDE.out]; exact h)⟩; have HB3 := Aside0.mk hB3; clear hR3 hB3)
    | (go_at_call 27; refine (HTC.out A3 c3 w3 HC3.out).mono ?_; rintro e w4 ⟨rfl, hb4⟩; have HB4 := Aside0.mk (below_then HB3.out HB3.out.size hb4); clear hb4)
    | fail)
  go_ret2
  exact ⟨by rw [HRES.out]; rfl, HB4.out⟩

set_option maxHeartbeats 8000000 in
theorem bech_calls (s : ByteArray) (hs : s.size ≤ 200) (A : Option Addr) (n c : Nat) (d : List Int) (w : World) (hG : genAt w) (h0 : 0 < w.heap.size) (hn : d.length = n)
    (hC : Kd.C (Kd.int .u8) w A n d) (hd : ∀ g ∈ d, 0 ≤ g ∧ g < 32) (hl : n ≤ 200) :
    Calls Tryd.prog 13 #[.string s, .slice A n c] w fun e w' => e = .returned (.tuple #[.string (strOfNums (encI (bytesOf s) d)), .bool true]) ∧ Below w.heap.size w w' := by
  have HCL : Aside0 (Calls Tryd.prog 19 #[.slice A n c] w fun e w' => ∃ v, e = .returned v ∧ Kd.R (Kd.int .u8) 5 w' w.heap.size (fun _ => True) v d ∧ Below w.heap.size w w') := ⟨by
    have h := clone_calls A c d w (by rw [hn]; exact hC) (by omega)
    rw [hn] at h
    exact h⟩
  have HEN : Aside0 (∀ A2 c2 w2, Below w.heap.size w w2 → Kd.R (Kd.int .u8) 5 w2 w.heap.size (fun _ => True) (.slice A2 n c2) d → Calls Tryd.prog 18 #[.string s, .slice A2 n c2] w2 fun e w' => e = .returned (.tuple #[.string (strOfNums (encI (bytesOf s) d)), .nilIface]) ∧ Below w.heap.size w w') :=
    ⟨fun A2 c2 w2 hb h => encode_calls s (by omega) A2 n c2 d w w2 (hG.below hb h0) (Nat.lt_of_lt_of_le h0 hb.size) hn h hb hd (by omega)⟩
  have HNL := Aside0.mk hn
  clear hC hG h0 hd hn
  generalize strOfNums (encI (bytesOf s) d) = R at HEN ⊢
  go_enter Tryd.func13, Tryd.ntmps13
  go_wp2_with (first
    | (go_at_call 19; refine HCL.out.mono ?_; rintro e w2 ⟨v2, rfl, hR2, hb2⟩; obtain ⟨A2, c2, e2⟩ := Kd.R_slice hR2; rw [HNL.out] at e2; subst e2; have HB2 := Aside0.mk hb2; have HR2 := Aside0.mk hR2; clear hR2 hb2)
    | (go_at_call 18; refine (HEN.out A2 c2 w2 HB2.out HR2.out).mono ?_; rintro e w3 ⟨rfl, hb3⟩; have HB3 := Aside0.mk hb3; clear hb3)
    | fail)
  go_region
  all_goals
    go_wp2
    go_ret2
    exact ⟨rfl, below_drew HB3.out⟩
end Go.Proofs.YthkijnfpllbdnaaDoor.Bec
