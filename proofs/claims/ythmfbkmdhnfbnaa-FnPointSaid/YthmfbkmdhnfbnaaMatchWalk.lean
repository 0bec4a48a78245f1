/-
  The package's matches; Add, Matches.
-/
import Derived.Test.YthmfbkmdhnfbnaaPkgWalk
namespace Go.Proofs.Ythmfbkmdhnfbnaa.BloomW
open Go.RowKit Go.Proofs.Ythmfbkmdhnfbnaa.Hand Go.Proofs.YthmfbkmdhnfbnaaW.PrintWords Go.Proofs.YthmfbkmdhnfbnaaW.PrintLast Go.Proofs.YthmfbkmdhnfbnaaW.PrintMore Mur Blo

theorem shift_all : (List.range 256).all (fun x => (List.range 8).all fun s => decide ((Go.bits .and .u8 (x : Int) (2 ^ s % 256) = 0) ↔ (Go.bits .and .u8 ((x : Int) / 2 ^ s) 1 = 0))) = true := by decide +kernel
theorem shift_at (x : Int) (s : Nat) (h0 : 0 ≤ x) (h1 : x < 256) (hs : s < 8) : (Go.bits .and .u8 x (2 ^ s % 256) = 0) ↔ (Go.bits .and .u8 (x / 2 ^ s) 1 = 0) := by
  have h := List.all_eq_true.1 shift_all x.toNat (List.mem_range.2 (by omega))
  have h2 := of_decide_eq_true (List.all_eq_true.1 h s (List.mem_range.2 hs))
  rwa [show ((x.toNat : Nat) : Int) = x from by omega] at h2
theorem bits8_range (op : BinOp) (x y : Int) : 0 ≤ Go.bits op .u8 x y ∧ Go.bits op .u8 x y < 256 := by
  have h : ∀ z : Int, 0 ≤ IntKind.u8.wrap z ∧ IntKind.u8.wrap z < 256 := fun z => by rw [IntKind.wrap_u8]; omega
  unfold Go.bits
  split <;> exact h _
theorem setBit_range {D : List Int} (h : ∀ x ∈ D, 0 ≤ x ∧ x < 256) (j : Int) : ∀ x ∈ setBit D j, 0 ≤ x ∧ x < 256 := by
  intro x hx
  unfold setBit at hx
  rcases List.mem_or_eq_of_mem_set hx with g | g
  · exact h x g
  · rw [g]; exact bits8_range _ _ _
theorem added_range (js : List Int) : ∀ {D : List Int}, (∀ x ∈ D, 0 ≤ x ∧ x < 256) → ∀ x ∈ added D js, 0 ≤ x ∧ x < 256 := by
  induction js with
  | nil => intro D h; exact h
  | cons j js ih => intro D h; exact ih (setBit_range h j)

set_option maxHeartbeats 4000000 in
theorem match_calls (f m c fu : Nat) (A : Option Addr) (D : List Int) (n : Nat) (tw fl : Int) (Ai : Option Addr) (ci : Nat) (l : List Int) (w : World) (hF : FB w f m A n c fu tw fl) (hD : Kd.C (Kd.int .u8) w A n D) (hDr : ∀ x ∈ D, 0 ≤ x ∧ x < 256)
    (hC : Kd.C (Kd.int .u8) w Ai l.length l) (hc : l.length ≤ ci) (hl : l.length ≤ 100) (hr : ∀ x ∈ l, 0 ≤ x ∧ x < 256) (hn0 : 0 < n) (hn : n ≤ 2000) (hf : fu ≤ 50) :
    Calls Try.prog 39 #[.pointer (some ⟨f, 0, none⟩), .slice Ai l.length ci] w fun e w' => e = .returned (.bool (might D (bitsL fu tw n l))) ∧ Below w.heap.size w w' := by
  have HC := Aside0.mk hC
  have HR := Aside0.mk hr
  have HF := Aside0.mk hF
  have HD := Aside0.mk hD
  have HDr := Aside0.mk hDr
  obtain ⟨k0, k1, k2, k3, k4⟩ := hF.filt
  have i1 : (fu : Int) ≤ 50 := by omega
  obtain ⟨ad, rfl, _⟩ := C_cells hD hn0
  have HN : Aside0 (D.length = n) := ⟨hD.1⟩
  obtain ⟨B, hB⟩ : ∃ B, B = might D (bitsL fu tw n l) := ⟨_, rfl⟩
  rw [← hB]
  have HBB := Aside0.mk hB
  clear hC hr hD hF hB hDr
  go_enter Try.func39, Try.ntmps39
  go_wp2
  go_loopw [5] (fun v5 wr => ∃ i : Nat, v5 = .int .u32 i ∧ i ≤ fu ∧ Aside0 ((bitsL i tw n l).all (hasBit D) = true) ∧ Aside0 (Below w.heap.size w wr)) (fun v5 _ => fu - (intOf v5).toNat)
  case atStart => exact ⟨0, rfl, Nat.zero_le _, ⟨by simp [bitsL]⟩, ⟨Below.refl _ _⟩⟩
  case round =>
    obtain ⟨i, rfl, hi, HA, HB1⟩ := hrel
    clear k0 k1 k2 k3 k4
    have HFr := Aside0.mk (HF.out.below HB1.out)
    obtain ⟨k0, k1, k2, k3, k4⟩ := HFr.out.filt
    by_cases hlt : i < fu
    · obtain ⟨j, hj⟩ : ∃ j, ix tw n l i = j := ⟨_, rfl⟩
      have hjr := ix_range tw n l i hn0
      rw [hj] at hjr
      obtain ⟨j0, j1⟩ := hjr
      have HH : Aside0 (Calls Try.prog 44 #[.pointer (some ⟨f, 0, none⟩), .int .u32 i, .slice Ai l.length ci] wr fun e w' => e = .returned (.int .u32 j) ∧ Below wr.heap.size wr w') := ⟨by
        rw [← hj]; exact hash_calls f m n c fu _ tw fl i Ai ci l wr HFr.out (Kd.C_below HC.out HB1.out) hc hl HR.out hn0 hn (by omega)⟩
      have HX : Aside0 (bitsL (i + 1) tw n l = bitsL i tw n l ++ [j]) := ⟨by rw [bitsL_snoc, hj]⟩
      have HM : Aside0 (j ∈ bitsL fu tw n l) := ⟨by rw [← hj]; exact List.mem_map.2 ⟨i, List.mem_range.2 hlt, rfl⟩⟩
      obtain ⟨x, hx⟩ : ∃ x, rd D (j / 8) = x := ⟨_, rfl⟩
      have HXX := Aside0.mk hx
      obtain ⟨a7, b7⟩ := and7 j j0 (by omega)
      have hd8 : j / 8 < (n : Int) := by omega
      have hd0 : 0 ≤ j / 8 := by omega
      have hxr : 0 ≤ x ∧ x < 256 := HDr.out x (by rw [← hx]; unfold rd; rw [List.getD_eq_getElem?_getD, List.getElem?_eq_getElem (by rw [HN.out]; omega)]; simp)
      have hsh := shift_at x (j % 8).toNat hxr.1 hxr.2 (by omega)
      have HSH := Aside0.mk hsh
      by_cases hb : Go.bits .and .u8 x (2 ^ (j % 8).toNat % 256) = 0
      · have HFB : Aside0 (B = false) := ⟨by
          rw [HBB.out]
          unfold might
          rw [List.all_eq_false]
          refine ⟨j, HM.out, ?_⟩
          unfold hasBit
          rw [show rdI D (j / 8) = x from hx, hsh.1 hb]
          decide⟩
        clear hj hx hxr hsh
        go_wp2_with (first
          | (go_at_call 44; refine HH.out.mono ?_; rintro e w1 ⟨rfl, hb1⟩; have HB2 := Aside0.mk (below_step HB1.out hb1); obtain ⟨g0, g1, g2, g3, g4⟩ := (HFr.out.below hb1).filt; have kd := Kd.foot_int (Kd.C_below HD.out HB2.out) (j / 8) hd0 hd8; rw [HXX.out] at kd; clear hb1)
          | fail)
        all_goals
          go_ret
          exact ⟨by rw [HFB.out]; rfl, HB2.out⟩
      · have HA2 : Aside0 ((bitsL (i + 1) tw n l).all (hasBit D) = true) := ⟨by
          rw [HX.out, List.all_append, HA.out]
          have h2 : hasBit D j = true := by
            unfold hasBit
            rw [show rdI D (j / 8) = x from hx]
            have : ¬ Go.bits .and .u8 (x / 2 ^ (j % 8).toNat) 1 = 0 := fun h => hb (hsh.2 h)
            simpa using this
          simp [h2]⟩
        have hb2 : (Go.bits .and .u8 x (2 ^ (j % 8).toNat % 256) == 0) = false := beq_eq_false_iff_ne.2 hb
        clear hj hx hxr hsh hb
        go_wp2_with (first
          | (go_at_call 44; refine HH.out.mono ?_; rintro e w1 ⟨rfl, hb1⟩; have HB2 := Aside0.mk (below_step HB1.out hb1); obtain ⟨g0, g1, g2, g3, g4⟩ := (HFr.out.below hb1).filt; have kd := Kd.foot_int (Kd.C_below HD.out HB2.out) (j / 8) hd0 hd8; rw [HXX.out] at kd; clear hb1)
          | fail)
        go_roundw
        case rel => exact ⟨i + 1, by go_num, by omega, HA2, HB2⟩
        case measure => simp [intOf]; omega
    · obtain rfl : i = fu := by omega
      have HFB : Aside0 (B = true) := ⟨by rw [HBB.out]; exact HA.out⟩
      go_wp2
      go_ret
      exact ⟨by rw [HFB.out]; rfl, HB1.out⟩

theorem Match_calls (f m c fu : Nat) (A : Option Addr) (D : List Int) (n : Nat) (tw fl : Int) (Ai : Option Addr) (ci : Nat) (l : List Int) (w : World) (hF : FB w f m A n c fu tw fl) (hD : Kd.C (Kd.int .u8) w A n D) (hDr : ∀ x ∈ D, 0 ≤ x ∧ x < 256)
    (hC : Kd.C (Kd.int .u8) w Ai l.length l) (hc : l.length ≤ ci) (hl : l.length ≤ 100) (hr : ∀ x ∈ l, 0 ≤ x ∧ x < 256) (hn0 : 0 < n) (hn : n ≤ 2000) (hf : fu ≤ 50) :
    Calls Try.prog 31 #[.pointer (some ⟨f, 0, none⟩), .slice Ai l.length ci] w fun e w' => e = .returned (.bool (might D (bitsL fu tw n l))) ∧ Below w.heap.size w w' := by
  have HM := Aside0.mk (match_calls f m c fu A D n tw fl Ai ci l w hF hD hDr hC hc hl hr hn0 hn hf)
  generalize might D (bitsL fu tw n l) = B at HM ⊢
  clear hF hD hDr hC hr
  go_enter Try.func31, Try.ntmps31
  go_wp2_with (first | (go_at_call 39; refine HM.out.mono ?_; rintro e w1 ⟨rfl, hb1⟩) | fail)
  go_ret
  exact ⟨rfl, hb1⟩

theorem Add_calls (f m c fu go : Nat) (D : List Int) (n : Nat) (tw fl : Int) (Ai : Option Addr) (ci : Nat) (l : List Int) (w0 w : World) (hB : Below w0.heap.size w0 w) (hF : FB w f m (some ⟨go, 0, none⟩) n c fu tw fl) (hD : (Kd.int .u8).R 5 w w0.heap.size (fun _ => True) (.slice (some ⟨go, 0, none⟩) n c) D)
    (hC : ∀ W, KeepBut w W go none → Kd.C (Kd.int .u8) W Ai l.length l) (hc : l.length ≤ ci) (hl : l.length ≤ 100) (hr : ∀ x ∈ l, 0 ≤ x ∧ x < 256) (hn0 : 0 < n) (hn : n ≤ 2000) (hf : fu ≤ 50) :
    Calls Try.prog 29 #[.pointer (some ⟨f, 0, none⟩), .slice Ai l.length ci] w fun e w' => e = .returned (.tuple #[]) ∧ (Kd.int .u8).R 5 w' w0.heap.size (fun _ => True) (.slice (some ⟨go, 0, none⟩) n c) (added D (bitsL fu tw n l)) ∧ Below w0.heap.size w0 w' ∧ KeepBut w w' go none := by
  have HM := Aside0.mk (add_calls f m c fu go D n tw fl Ai ci l w0 w hB hF hD hC hc hl hr hn0 hn hf)
  clear hF hD hC hr
  go_enter Try.func29, Try.ntmps29
  go_wp2_with (first | (go_at_call 37; refine HM.out.mono ?_; rintro e w1 ⟨rfl, h1, h2, h3⟩) | fail)
  go_end0
  exact ⟨rfl, h1, h2, h3⟩
end Go.Proofs.Ythmfbkmdhnfbnaa.BloomW
