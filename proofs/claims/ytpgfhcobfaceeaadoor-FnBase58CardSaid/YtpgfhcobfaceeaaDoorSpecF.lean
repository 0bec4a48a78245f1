/-
  What spec.Base58 writes is the plain text.
-/
import Derived.Test.YtpgfhcobfaceeaaDoorSpecPrint
import Derived.Test.YtpgfhcobfaceeaaDoorTxtPure
namespace Go.Proofs.YtpgfhcobfaceeaaDoor.PFnBase58
open Go.RowKit Go.Proofs.YtpgfhcobfaceeaaDoorW.PrintWords Go.Proofs.YtpgfhcobfaceeaaDoorW.PrintLast Go.Proofs.YtpgfhcobfaceeaaDoorW.PrintMore Val PFnUnBase58

theorem aOf_bt_all : (List.range 58).all (fun n => decide (bt alpha (n : Int) = aOf (n : Int))) = true := by decide +kernel
theorem aOf_bt (d : Int) (h0 : 0 ≤ d) (h1 : d < 58) : bt alpha d = aOf d := by
  have h := of_decide_eq_true (List.all_eq_true.1 aOf_bt_all d.toNat (List.mem_range.2 (by omega)))
  rwa [show ((d.toNat : Nat) : Int) = d from by omega] at h

theorem bytesOf_nums (l : List Int) (h : ∀ x ∈ l, 0 ≤ x ∧ x < 256) : bytesOf (strOfNums l) = l := by
  unfold bytesOf
  rw [strOfNums_data, List.map_map]
  have e : ∀ x ∈ l, ((fun b : UInt8 => (b.toNat : Int)) ∘ fun n : Int => UInt8.ofNat n.toNat) x = x := by
    intro x hx
    have := h x hx
    simp only [Function.comp_apply, UInt8.toNat_ofNat']
    omega
  rw [List.map_congr_left e]; simp

theorem spec_l2 (xs : List Int) (hx : ∀ x ∈ xs, 0 ≤ x ∧ x < 58) (hl : xs.length ≤ 100000000) : ∀ (rest done acc : List Int), xs = done ++ rest → acc.length + rest.length ≤ 200000000 →
    Ev (fun k => spec_Base58.l2 k acc xs (xs.length : Int) (done.length : Int)) (strOfNums (acc ++ rest.map aOf)) := by
  intro rest
  induction rest with
  | nil =>
    intro done acc hd _
    refine Ev.step (f := fun _ => some _) (fun k => ?_) (Ev.now _)
    have hdl : xs.length = done.length := by rw [hd]; simp
    simp only [spec_Base58.l2]
    rw [if_neg (by omega)]
    simp
  | cons x rest ih =>
    intro done acc hd hal
    have hdl : done.length < xs.length := by rw [hd]; simp
    have hxx := hx x (by rw [hd]; simp)
    have hrd : rd xs (done.length : Int) = x := by rw [hd]; exact rd_mid done rest x _ rfl
    have := ih (done ++ [x]) (acc ++ [aOf x]) (by rw [hd]; simp) (by simp at hal ⊢; omega)
    rw [List.append_assoc] at this
    have hb := aOf_bt x hxx.1 hxx.2
    unfold alpha at hb
    refine Ev.step (fun k => ?_) this
    simp only [spec_Base58.l2]
    simp at hal
    rw [hrd, hb, if_pos (by omega), if_pos (by omega), if_pos (by omega), if_pos (by omega), if_pos (by omega), if_pos (by omega), w64 (by omega) (by omega)]
    simp

theorem spec_j2 (ds : List Int) (hds : ∀ d ∈ ds, 0 ≤ d ∧ d < 256) (hl : ds.length ≤ 200) (z : Nat) (hz : z ≤ 200) (hR : (rebased 256 58 ds).length ≤ 100000000) :
    Ev (fun k => spec_Base58.j2 k ds (List.replicate z 49)) (strOfNums (List.replicate z 49 ++ (rebased 256 58 ds).map aOf)) := by
  obtain ⟨_, _, c⟩ := rebased_facts 256 58 (by decide) (by decide) (by decide) (by decide) _ ds rfl hds
  have h1 := reb_f 256 58 (by omega) (by omega) (by omega) (by omega) ds (by omega) hds
  have h2 := spec_l2 (rebased 256 58 ds) c hR (rebased 256 58 ds) [] (List.replicate z 49) rfl (by simp; omega)
  refine Ev.step (fun k => ?_) (Ev.bind h1 (f := fun k t => spec_Base58.l2 k (List.replicate z 49) t (t.length : Int) 0) h2)
  simp only [spec_Base58.j2]

theorem spec_l1 (b : List Int) (hds : ∀ d ∈ b, 0 ≤ d ∧ d < 256) (hl : b.length ≤ 200) (hR : (rebased 256 58 b).length ≤ 100000000) : ∀ (rest : List Int) (z : Nat), b = List.replicate z 0 ++ rest →
    Ev (fun k => spec_Base58.l1 k b b (List.replicate z 49) (z : Int)) (strOfNums (List.replicate (z + zeros rest) 49 ++ (rebased 256 58 b).map aOf)) := by
  intro rest
  induction rest with
  | nil =>
    intro z hz
    have hzl : z = b.length := by rw [hz]; simp
    have := spec_j2 b hds hl z (by omega) hR
    refine Ev.step (fun k => ?_) this
    simp only [spec_Base58.l1]
    rw [if_neg (by omega)]
  | cons c rest ih =>
    intro z hz
    have hzl : z < b.length := by rw [hz]; simp
    have hb : rd b (z : Int) = c := by
      rw [hz]; exact rd_mid _ rest c _ (by simp)
    by_cases hc : c = 0
    · subst hc
      have := ih (z + 1) (by rw [hz, List.replicate_succ']; simp)
      have e : zeros (0 :: rest) = zeros rest + 1 := by rw [zeros, if_pos rfl]
      rw [e, show z + (zeros rest + 1) = z + 1 + zeros rest from by omega]
      refine Ev.step (fun k => ?_) this
      simp only [spec_Base58.l1]
      rw [hb, if_pos (by omega), if_pos (by omega), if_pos rfl, if_pos (by simp; omega), w64 (by omega) (by omega), List.replicate_succ']
      rfl
    · have e : zeros (c :: rest) = 0 := by rw [zeros, if_neg hc]
      rw [e]
      refine Ev.step (fun k => ?_) (spec_j2 b hds hl z (by omega) hR)
      simp only [spec_Base58.l1]
      rw [hb, if_pos (by omega), if_pos (by omega), if_neg hc]

theorem spec_l0 (b : List Int) (hds : ∀ d ∈ b, 0 ≤ d ∧ d < 256) (hl : b.length ≤ 200) (r : ByteArray) (h : Ev (fun k => spec_Base58.l1 k b b [] 0) r) : ∀ (rest done : List Int), b = done ++ rest →
    Ev (fun k => spec_Base58.l0 k b done [] b (b.length : Int) (done.length : Int)) r := by
  intro rest
  induction rest with
  | nil =>
    intro done hd
    rw [List.append_nil] at hd
    subst hd
    refine Ev.step (fun k => ?_) h
    simp only [spec_Base58.l0]
    rw [if_neg (by omega)]
  | cons c rest ih =>
    intro done hd
    have hdl : done.length < b.length := by rw [hd]; simp
    have hb : rd b (done.length : Int) = c := by rw [hd]; exact rd_mid _ rest c _ rfl
    have hc := hds c (by rw [hd]; simp)
    refine Ev.step (fun k => ?_) (ih (done ++ [c]) (by rw [hd]; simp))
    simp only [spec_Base58.l0]
    rw [hb, if_pos (by omega), if_pos (by omega), if_pos (by omega), if_pos (by omega), w64 (x := c) (by omega) (by omega), w64 (by omega) (by omega)]
    simp

theorem fits_all : (List.range 141).all (fun m => decide ((256 : Int) ^ m ≤ 58 ^ (m + 60))) = true := by decide +kernel
/-- The text of at most 140 bytes has at most 200 letters. -/
theorem txt_short (b : List Int) (h : ∀ x ∈ b, 0 ≤ x ∧ x < 256) (hl : b.length ≤ 140) : (txt b).length ≤ 200 ∧ (rebased 256 58 (strip b)).length ≤ 200 := by
  have hz := congrArg List.length (zeros_strip b)
  rw [List.length_append, List.length_replicate] at hz
  obtain ⟨a, b1, c⟩ := rebased_facts 256 58 (by decide) (by decide) (by decide) (by decide) _ (strip b) rfl (strip_range h)
  have key : (rebased 256 58 (strip b)).length ≤ (strip b).length + 60 := by
    by_cases hn : rebased 256 58 (strip b) = []
    · rw [hn]; simp
    · have h1 := lead_low (by decide) b1 c hn
      have h2 := (val_range 256 (by decide) _ (strip b) rfl (strip_range h)).2
      have h3 := of_decide_eq_true (List.all_eq_true.1 fits_all (strip b).length (List.mem_range.2 (by omega)))
      by_cases hle : (rebased 256 58 (strip b)).length ≤ (strip b).length + 60
      · exact hle
      · have h4 := pow_le (B := 58) (by decide) (show (strip b).length + 60 ≤ (rebased 256 58 (strip b)).length - 1 by omega)
        omega
  unfold txt
  rw [List.length_append, List.length_replicate, List.length_map]
  omega

/-- spec.Base58, whole. -/
theorem spec_f (b : List Int) (h : ∀ x ∈ b, 0 ≤ x ∧ x < 256) (hl : b.length ≤ 140) : ∃ k, spec_Base58.f k b = some (strOfNums (txt b)) := by
  obtain ⟨_, hR⟩ := txt_short b h hl
  rw [← rebased_strip] at hR
  have h1 := spec_l1 b h (by omega) (by omega) b 0 rfl
  rw [Nat.zero_add, rebased_strip] at h1
  have := spec_l0 b h (by omega) _ h1 b [] rfl
  exact this.rounds
end Go.Proofs.YtpgfhcobfaceeaaDoor.PFnBase58
