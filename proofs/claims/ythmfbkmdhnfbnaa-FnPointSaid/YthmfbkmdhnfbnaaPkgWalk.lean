/-
  The package's filter: hash, add, matches.
-/
import Derived.Test.YthmfbkmdhnfbnaaMightWalk
import Derived.Laws.BitsAllLaws
namespace Go.Proofs.Ythmfbkmdhnfbnaa.BloomW
open Go.RowKit Go.Proofs.Ythmfbkmdhnfbnaa.Hand Go.Proofs.YthmfbkmdhnfbnaaW.PrintWords Go.Proofs.YthmfbkmdhnfbnaaW.PrintLast Go.Proofs.YthmfbkmdhnfbnaaW.PrintMore Mur Blo

/-- A filter in memory: its two blocks. -/
structure FB (w : World) (f m : Nat) (A : Option Addr) (n c : Nat) (fu : Nat) (tw fl : Int) : Prop where
  hF : w.heap[f]? = some (.cells #[.pointer (some ⟨m, 0, none⟩)] 78 (0, 0))
  hM : w.heap[m]? = some (.cells #[.slice A n c, .int .u32 fu, .int .u32 tw, .int .u8 fl] 73 (0, 0))
theorem FB.below {w W : World} {f m n c fu : Nat} {A : Option Addr} {tw fl : Int} (h : FB w f m A n c fu tw fl) (hb : Below w.heap.size w W) : FB W f m A n c fu tw fl := ⟨blk_below h.hF hb, blk_below h.hM hb⟩
theorem FB.filt {w : World} {f m n c fu : Nat} {A : Option Addr} {tw fl : Int} (h : FB w f m A n c fu tw fl) : PFnNew.Filt w f m A n c fu tw fl :=
  ⟨by rw [blk_cell h.hF]; rfl, by rw [blk_cell h.hM]; rfl, by rw [blk_cell h.hM]; rfl, by rw [blk_cell h.hM]; rfl, by rw [blk_cell h.hM]; rfl⟩

set_option maxHeartbeats 2000000 in
theorem hash_calls (f m n c fu : Nat) (A : Option Addr) (tw fl : Int) (i : Nat) (Ai : Option Addr) (ci : Nat) (l : List Int) (w : World) (hF : FB w f m A n c fu tw fl) (hC : Kd.C (Kd.int .u8) w Ai l.length l) (hc : l.length ≤ ci) (hl : l.length ≤ 100) (hr : ∀ x ∈ l, 0 ≤ x ∧ x < 256)
    (hn0 : 0 < n) (hn : n ≤ 2000) (hi : i ≤ 50) :
    Calls Try.prog 44 #[.pointer (some ⟨f, 0, none⟩), .int .u32 i, .slice Ai l.length ci] w fun e w' => e = .returned (.int .u32 (ix tw n l i)) ∧ Below w.heap.size w w' := by
  have HF := Aside0.mk hF
  have HC := Aside0.mk hC
  have HR := Aside0.mk hr
  obtain ⟨k0, k1, k2, k3, k4⟩ := hF.filt
  obtain ⟨s, hs⟩ : ∃ s, ((i : Int) * 4221880213 % 4294967296 + tw) % 4294967296 = s := ⟨_, rfl⟩
  obtain ⟨M, hM⟩ : ∃ M, mur s l = M := ⟨_, rfl⟩
  have hM0 := mur_range s l
  rw [hM] at hM0
  obtain ⟨J, hJ⟩ : ∃ J, ix tw n l i = J := ⟨_, rfl⟩
  have hJ2 : M % (8 * (n : Int)) = J := by rw [← hJ, ← hM, ← hs]; rfl
  have HP : Aside0 (Calls Try.prog 23 #[.int .u32 s, .slice Ai l.length ci] w fun e w' => e = .returned (.int .u32 M) ∧ Below w.heap.size w w') := ⟨by rw [← hM]; exact PFnMurmur.pkg_calls s Ai ci l w hC hc hl hr⟩
  rw [hJ]
  obtain ⟨hM1, hM2⟩ := hM0
  have i1 : (i : Int) ≤ 50 := by omega
  have hz : ¬ 8 * (n : Int) = 0 := by omega
  have hz2 : ¬ (n : Int) * 8 = 0 := by omega
  have hJ3 : M % ((n : Int) * 8) = J := by rw [Int.mul_comm]; exact hJ2
  clear hF hC hr hM hJ
  go_enter Try.func44, Try.ntmps44
  go_wp2_with (first
    | (go_at_call 23; refine HP.out.mono ?_; rintro e w1 ⟨rfl, hb1⟩; have HB1 := Aside0.mk hb1; obtain ⟨g0, g1, g2, g3, g4⟩ := (HF.out.below hb1).filt; clear hb1)
    | fail)
  go_ret
  exact ⟨by rw [← hJ3]; rfl, HB1.out⟩

theorem and7 (j : Int) (h0 : 0 ≤ j) (h1 : j < 4294967296) : Go.bits .and .u32 7 j = j % 8 ∧ Go.bits .and .u32 j 7 = j % 8 := by
  have e1 := u32_and 7 j (by omega) (by omega) h0 h1
  have e2 := u32_and j 7 h0 h1 (by omega) (by omega)
  have n1 : (7 : Int).toNat = 7 := rfl
  rw [n1, nat_mask3'] at e1
  rw [n1, nat_mask3] at e2
  exact ⟨by rw [e1]; omega, by rw [e2]; omega⟩

set_option maxHeartbeats 4000000 in
theorem add_calls (f m c fu go : Nat) (D : List Int) (n : Nat) (tw fl : Int) (Ai : Option Addr) (ci : Nat) (l : List Int) (w0 w : World) (hB : Below w0.heap.size w0 w) (hF : FB w f m (some ⟨go, 0, none⟩) n c fu tw fl) (hD : (Kd.int .u8).R 5 w w0.heap.size (fun _ => True) (.slice (some ⟨go, 0, none⟩) n c) D)
    (hC : ∀ W, KeepBut w W go none → Kd.C (Kd.int .u8) W Ai l.length l) (hc : l.length ≤ ci) (hl : l.length ≤ 100) (hr : ∀ x ∈ l, 0 ≤ x ∧ x < 256) (hn0 : 0 < n) (hn : n ≤ 2000) (hf : fu ≤ 50) :
    Calls Try.prog 37 #[.pointer (some ⟨f, 0, none⟩), .slice Ai l.length ci] w fun e w' => e = .returned (.tuple #[]) ∧ (Kd.int .u8).R 5 w' w0.heap.size (fun _ => True) (.slice (some ⟨go, 0, none⟩) n c) (added D (bitsL fu tw n l)) ∧ Below w0.heap.size w0 w' ∧ KeepBut w w' go none := by
  have HC := Aside0.mk hC
  have HR := Aside0.mk hr
  have HF := Aside0.mk hF
  have HD := Aside0.mk hD
  have HB := Aside0.mk hB
  have HGB : Aside0 (w0.heap.size ≤ go) := ⟨((Kd.R_bound hD).1 go rfl).2.1⟩
  obtain ⟨cs, hgo⟩ := own_typed (Kd.own_of_R hD) go rfl
  have HNE : Aside0 (f ≠ go ∧ m ≠ go) := ⟨⟨fun e => by have h := hF.hF; rw [e, hgo] at h; simp at h, fun e => by have h := hF.hM; rw [e, hgo] at h; simp at h⟩⟩
  have HN : Aside0 (n = D.length) := ⟨(Kd.R_reads' hD).1⟩
  obtain ⟨k0, k1, k2, k3, k4⟩ := hF.filt
  have i1 : (fu : Int) ≤ 50 := by omega
  clear hC hr hD hB hgo hF
  go_enter Try.func37, Try.ntmps37
  go_wp2
  go_loopw [4] (fun v4 wr => ∃ (i : Nat) (cur : List Int), v4 = .int .u32 i ∧ i ≤ fu ∧ Aside0 (cur = added D (bitsL i tw n l)) ∧ Aside0 ((Kd.int .u8).R 5 wr w0.heap.size (fun _ => True) (.slice (some ⟨go, 0, none⟩) n c) cur) ∧ Aside0 (KeepBut w wr go none) ∧ Aside0 (Below w0.heap.size w0 wr)) (fun v4 _ => fu - (intOf v4).toNat)
  case atStart => exact ⟨0, D, rfl, Nat.zero_le _, ⟨rfl⟩, HD, ⟨KeepBut.refl _ _ _⟩, HB⟩
  case round =>
    obtain ⟨i, cur, rfl, hi, HCu, HS, HK, HB1⟩ := hrel
    clear k0 k1 k2 k3 k4
    have hFr : FB wr f m (some ⟨go, 0, none⟩) n c fu tw fl := ⟨HK.out.blk HF.out.hF HNE.out.1 (by simp), HK.out.blk HF.out.hM HNE.out.2 (by simp)⟩
    have HFr := Aside0.mk hFr
    obtain ⟨k0, k1, k2, k3, k4⟩ := hFr.filt
    clear hFr
    by_cases hlt : i < fu
    · obtain ⟨j, hj⟩ : ∃ j, ix tw n l i = j := ⟨_, rfl⟩
      have hjr := ix_range tw n l i hn0
      rw [hj] at hjr
      obtain ⟨j0, j1⟩ := hjr
      have HH : Aside0 (Calls Try.prog 44 #[.pointer (some ⟨f, 0, none⟩), .int .u32 i, .slice Ai l.length ci] wr fun e w' => e = .returned (.int .u32 j) ∧ Below wr.heap.size wr w') := ⟨by
        rw [← hj]; exact hash_calls f m n c fu _ tw fl i Ai ci l wr HFr.out (HC.out wr HK.out) hc hl HR.out hn0 hn (by omega)⟩
      have hcl : cur.length = n := by rw [HCu.out, added_length, ← HN.out]
      have HCL := Aside0.mk hcl
      have HX : Aside0 (setBit cur j = added D (bitsL (i + 1) tw n l)) := ⟨by rw [bitsL_snoc, added_snoc, ← HCu.out, hj]⟩
      obtain ⟨x, hx⟩ : ∃ x, rd cur (j / 8) = x := ⟨_, rfl⟩
      have HXX := Aside0.mk hx
      obtain ⟨a7, b7⟩ := and7 j j0 (by omega)
      have hd8 : j / 8 < (n : Int) := by omega
      have hd0 : 0 ≤ j / 8 := by omega
      clear hcl hj hx
      go_wp2_with (first
        | (go_at_call 44; refine HH.out.mono ?_; rintro e w1 ⟨rfl, hb1⟩; have HB2 := Aside0.mk hb1; obtain ⟨g0, g1, g2, g3, g4⟩ := (HFr.out.below hb1).filt; have hS2 := Kd.R_below HS.out hb1; have hown := Kd.own_of_R hS2; rw [HCL.out] at hown; obtain ⟨f1, f2⟩ := own_at hown (j / 8) hd0 hd8; rw [HXX.out] at f1; have HOW := Aside0.mk hown; have HB3 := Aside0.mk (below_then HB1.out HB1.out.size hb1); have HK2 := Aside0.mk (HK.out.trans (KeepBut.of_below hb1 go none) (.inl rfl)); clear hb1 hS2 hown)
        | fail)
      have HST := Aside0.mk (own_store HOW.out (j / 8) (Go.bits .or .u8 (rd cur (j / 8)) (2 ^ (j % 8).toNat % 256))).1
      rw [HXX.out] at HST
      have HX2 : Aside0 (cur.set (j / 8).toNat (Go.bits .or .u8 x (2 ^ (j % 8).toNat % 256)) = added D (bitsL (i + 1) tw n l)) := ⟨by rw [← HX.out, ← HXX.out]; rfl⟩
      go_roundw
      case rel => exact ⟨i + 1, _, by go_num, by omega, HX2, ⟨by
        have h := HST.out
        have e : (cur.set (j / 8).toNat (Go.bits .or .u8 x (2 ^ (j % 8).toNat % 256))).length = n := by simp [HCL.out]
        exact Kd.R_of_own (enc := Value.int .u8) (h1 := fun _ => rfl) (by rw [e]; exact h) (fun _ _ => trivial)⟩, ⟨HK2.out.set_ _ _⟩, ⟨HB3.out.setCell HGB.out _⟩⟩
      case measure => simp [intOf]; omega
    · obtain rfl : i = fu := by omega
      go_wp2
      go_end0
      refine ⟨rfl, ?_, HB1.out, HK.out⟩
      rw [← HCu.out]
      exact HS.out
end Go.Proofs.Ythmfbkmdhnfbnaa.BloomW
