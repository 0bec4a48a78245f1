/-
  What Encode writes, in plain words; what is read of it.
-/
import Derived.Test.YthkijnfpllbdnaaDoorExpPure
namespace Go.Proofs.YthkijnfpllbdnaaDoor.Bec
open Go.RowKit Go.Proofs.YthkijnfpllbdnaaDoor.Hand Go.Proofs.YthkijnfpllbdnaaDoorW.PrintWords Go.Proofs.YthkijnfpllbdnaaDoorW.PrintLast Go.Proofs.YthkijnfpllbdnaaDoorW.PrintMore

def isSign (c : Int) : Bool := decide (33 ≤ c ∧ c ≤ 126 ∧ ¬ (65 ≤ c ∧ c ≤ 90))
def partB (l : List Int) : Bool := l.all isSign && decide (1 ≤ l.length ∧ l.length ≤ 83)
def groupsB (n : Nat) (d : List Int) : Bool := d.all (fun g => decide (g ≤ 31)) && decide (n + 1 + d.length + 6 ≤ 90)

theorem part_l0 (s : ByteArray) (hs : s.size ≤ 2147483647) : ∀ (n i : Nat), s.size - i = n → i ≤ s.size → Ev (fun k => PFnBech32.spec_IsPart.l0 k s (i : Int)) (((bytesOf s).drop i).all isSign && decide (1 ≤ s.size ∧ s.size ≤ 83)) := by
  intro n
  induction n with
  | zero =>
    intro i hn hi
    have hd : (bytesOf s).drop i = [] := List.drop_eq_nil_of_le (by rw [bytesOf_length]; omega)
    rw [hd]
    refine Ev.step (f := fun _ => some _) (fun k => ?_) (Ev.now _)
    simp only [PFnBech32.spec_IsPart.l0]
    rw [if_neg (by omega)]
    by_cases h1 : (s.size : Int) ≥ 1
    · rw [if_pos h1]
      simp only [List.all_nil, Bool.true_and, Option.some.injEq, decide_eq_decide]
      omega
    · rw [if_neg h1]
      simp
      omega
  | succ n ih =>
    intro i hn hi
    have hlt : i < s.size := by omega
    have h := ih (i + 1) (by omega) (by omega)
    rw [drop_next s i hlt, List.all_cons]
    generalize hc : bt s (i : Int) = c
    by_cases hg : isSign c = true
    · rw [hg, Bool.true_and]
      have hg' := of_decide_eq_true hg
      refine Ev.step (fun k => ?_) h
      simp only [PFnBech32.spec_IsPart.l0]
      rw [if_pos (by omega), if_pos (by omega), hc, if_neg (by omega), if_neg (by omega), w64s (by omega) (by omega)]
      by_cases h65 : c ≥ 65
      · rw [if_pos h65, if_neg (by omega)]
        rfl
      · rw [if_neg h65]
        rfl
    · have hg2 : isSign c = false := by simpa using hg
      have hg' := of_decide_eq_false hg2
      rw [hg2, Bool.false_and, Bool.false_and]
      refine Ev.step (f := fun _ => some _) (fun k => ?_) (Ev.now _)
      simp only [PFnBech32.spec_IsPart.l0]
      rw [if_pos (by omega), if_pos (by omega), hc]
      by_cases h33 : c < 33
      · rw [if_pos h33]
      · rw [if_neg h33]
        by_cases h126 : c > 126
        · rw [if_pos h126]
        · rw [if_neg h126, if_pos (by omega), if_pos (by omega)]
theorem part_f (s : ByteArray) (hs : s.size ≤ 2147483647) : ∃ k, PFnBech32.spec_IsPart.f k s = some (partB (bytesOf s)) := by
  obtain ⟨k, hk⟩ := (part_l0 s hs s.size 0 rfl (by omega)).rounds
  refine ⟨k, ?_⟩
  unfold PFnBech32.spec_IsPart.f partB
  rw [List.drop_zero] at hk
  rw [bytesOf_length]
  exact hk
theorem groups_l0 (s : ByteArray) (d : List Int) (hs : s.size ≤ 2147483647) (hl : d.length ≤ 2147483647) : ∀ (n i : Nat), d.length - i = n → i ≤ d.length → Ev (fun k => PFnBech32.spec_AreGroups.l0 k s d d (d.length : Int) (i : Int)) ((d.drop i).all (fun g => decide (g ≤ 31)) && decide (s.size + 1 + d.length + 6 ≤ 90)) := by
  intro n
  induction n with
  | zero =>
    intro i hn hi
    have hd : d.drop i = [] := List.drop_eq_nil_of_le (by omega)
    rw [hd]
    refine Ev.step (f := fun _ => some _) (fun k => ?_) (Ev.now _)
    simp only [PFnBech32.spec_AreGroups.l0]
    rw [if_neg (by omega), w64s (x := (s.size : Int) + 1) (by omega) (by omega), w64s (x := (s.size : Int) + 1 + d.length) (by omega) (by omega), w64s (by omega) (by omega)]
    simp only [List.all_nil, Bool.true_and, Option.some.injEq, decide_eq_decide]
    omega
  | succ n ih =>
    intro i hn hi
    have hlt : i < d.length := by omega
    have h := ih (i + 1) (by omega) (by omega)
    have hr : rd d (i : Int) = d[i] := by simp [rd, List.getD_eq_getElem?_getD, List.getElem?_eq_getElem hlt]
    rw [List.drop_eq_getElem_cons hlt, List.all_cons]
    by_cases hg : d[i] ≤ 31
    · rw [decide_eq_true hg, Bool.true_and]
      refine Ev.step (fun k => ?_) h
      simp only [PFnBech32.spec_AreGroups.l0]
      rw [if_pos (by omega), if_pos (by omega), if_pos (by omega), hr, if_neg (by omega), w64s (by omega) (by omega)]
      rfl
    · rw [decide_eq_false hg, Bool.false_and, Bool.false_and]
      refine Ev.step (f := fun _ => some _) (fun k => ?_) (Ev.now _)
      simp only [PFnBech32.spec_AreGroups.l0]
      rw [if_pos (by omega), if_pos (by omega), if_pos (by omega), hr, if_pos (by omega)]
theorem groups_f (s : ByteArray) (d : List Int) (hs : s.size ≤ 2147483647) (hl : d.length ≤ 2147483647) : ∃ k, PFnBech32.spec_AreGroups.f k s d = some (groupsB s.size d) := by
  obtain ⟨k, hk⟩ := (groups_l0 s d hs hl d.length 0 rfl (by omega)).rounds
  refine ⟨k, ?_⟩
  unfold PFnBech32.spec_AreGroups.f groupsB
  rw [List.drop_zero] at hk
  exact hk

/-- The number that the checksum's groups write. -/
def chkN (h d : List Int) : Nat := poly 1 (expN h ++ d.map Int.toNat ++ [0, 0, 0, 0, 0, 0]) ^^^ 1
def encI (h d : List Int) : List Int := h ++ 49 :: (d ++ nums64 (six (chkN h d))).map chI

theorem six_length (p : Nat) : (six p).length = 6 := rfl
theorem six_lt (p : Nat) : ∀ v ∈ six p, v < 32 := by
  intro v hv
  simp only [six, List.mem_cons, List.not_mem_nil, or_false] at hv
  omega
theorem nums_range {l : List Nat} (h : ∀ v ∈ l, v < 32) : ∀ x ∈ nums64 l, 0 ≤ x ∧ x < 32 := by
  intro x hx
  obtain ⟨v, hv, rfl⟩ := List.mem_map.1 hx
  have := h v hv
  omega
theorem lastP_at (a b : List Int) (hb : ∀ x ∈ b, x ≠ 49) : ∀ m, m ≤ b.length → lastP (a ++ 49 :: b) (a.length + 1 + m) = a.length := by
  intro m
  induction m with
  | zero =>
    intro _
    show lastP _ (a.length + 1) = _
    have e : (a ++ 49 :: b).getD a.length 0 = 49 := by simp [List.getD_eq_getElem?_getD]
    rw [lastP, if_pos e]
  | succ m ih =>
    intro hm
    have hg : (a ++ 49 :: b).getD (a.length + 1 + m) 0 = b[m] := by
      rw [List.getD_eq_getElem?_getD, List.getElem?_append_right (by omega), show a.length + 1 + m - a.length = m + 1 by omega, List.getElem?_cons_succ, List.getElem?_eq_getElem (by omega)]
      rfl
    show lastP _ ((a.length + 1 + m) + 1) = _
    have hne := hb b[m] (List.getElem_mem _)
    rw [lastP, if_neg (by rw [hg]; exact hne)]
    exact ih (by omega)
theorem sign_low {c : Int} (h : ¬ (65 ≤ c ∧ c ≤ 90)) : lowI c = c := by unfold lowI; rw [if_neg h]
theorem map_same {l : List Int} {f : Int → Int} (h : ∀ x ∈ l, f x = x) : l.map f = l := by
  rw [List.map_congr_left h]; simp

theorem dec_of {h D : List Int} (hh : ∀ c ∈ h, 33 ≤ c ∧ c ≤ 126 ∧ ¬ (65 ≤ c ∧ c ≤ 90)) (hD : ∀ g ∈ D, 0 ≤ g ∧ g < 32) (h1 : 1 ≤ h.length) (h6 : 6 ≤ D.length) (hl : h.length + 1 + D.length ≤ 90) :
    decP (h ++ 49 :: D.map chI) = if poly 1 (expN h ++ D.map Int.toNat) ≠ 1 then none else some (h, D.take (D.length - 6)) := by
  have hchI : ∀ x ∈ D.map chI, 33 ≤ x ∧ x ≤ 122 ∧ x ≠ 49 ∧ ¬ (65 ≤ x ∧ x ≤ 90) := fun x hx => by
    obtain ⟨g, hg, rfl⟩ := List.mem_map.1 hx
    obtain ⟨_, a, b, c, e, _⟩ := ch_at g (hD g hg).1 (hD g hg).2
    exact ⟨a, b, c, e⟩
  have hall : ∀ x ∈ h ++ 49 :: D.map chI, 33 ≤ x ∧ x ≤ 126 ∧ ¬ (65 ≤ x ∧ x ≤ 90) := fun x hx => by
    rcases List.mem_append.1 hx with hx | hx
    · exact hh x hx
    · rcases List.mem_cons.1 hx with rfl | hx
      · omega
      · have := hchI x hx
        omega
  have hlen : (h ++ 49 :: D.map chI).length = h.length + 1 + D.length := by simp; omega
  have hlow : (h ++ 49 :: D.map chI).map lowI = h ++ 49 :: D.map chI := map_same fun x hx => sign_low (hall x hx).2.2
  have hseen : seenB (h ++ 49 :: D.map chI) = true := by
    unfold seenB
    rw [List.all_eq_true]
    intro x hx
    have := hall x hx
    simp
    omega
  have hlast : lastP (h ++ 49 :: D.map chI) (h ++ 49 :: D.map chI).length = h.length := by
    rw [hlen]
    exact lastP_at h (D.map chI) (fun x hx => (hchI x hx).2.2.1) D.length (by simp)
  have hdrop : (h ++ 49 :: D.map chI).drop (h.length + 1) = D.map chI := by simp
  have htake : (h ++ 49 :: D.map chI).take h.length = h := by simp
  have hidx : (D.map chI).map idxI = D := by
    rw [List.map_map]
    exact map_same fun g hg => (ch_at g (hD g hg).1 (hD g hg).2).1
  have hok : okL (D.map chI) = true := by
    unfold okL
    rw [List.all_eq_true]
    intro x hx
    obtain ⟨g, hg, rfl⟩ := List.mem_map.1 hx
    obtain ⟨a, _⟩ := ch_at g (hD g hg).1 (hD g hg).2
    rw [a]
    simp
    exact (hD g hg).1
  rw [decP_q (by omega) (by omega) hseen]
  rw [decQ_r (.inl hlow.symm), hlow, hlast]
  unfold decR
  rw [Int.toNat_natCast, if_neg (by rw [hlen]; omega), hdrop, htake, hidx, if_neg (by rw [hok]; decide), hlen, show h.length + 1 + D.length - h.length - 7 = D.length - 6 by omega]

theorem poly_written (h d : List Int) (hh : ∀ c ∈ h, 0 ≤ c ∧ c < 256) (hd : ∀ g ∈ d, 0 ≤ g ∧ g < 32) : poly 1 (expN h ++ (d ++ nums64 (six (chkN h d))).map Int.toNat) = 1 := by
  have e1 : (nums64 (six (chkN h d))).map Int.toNat = six (chkN h d) := by
    unfold nums64
    rw [List.map_map]
    have : ∀ x ∈ six (chkN h d), (Int.toNat ∘ fun v : Nat => (v : Int)) x = x := fun x _ => by simp
    rw [List.map_congr_left this]; simp
  have e2 : chkN h d = poly (poly 1 (expN h ++ d.map Int.toNat)) [0, 0, 0, 0, 0, 0] ^^^ 1 := by
    unfold chkN
    rw [poly_append]
  have hlt : poly 1 (expN h ++ d.map Int.toNat) < 2 ^ 30 := poly_lt _ 1 (by decide) (fun v hv => by
    rcases List.mem_append.1 hv with g | g
    · have := expN_lt hh v g; omega
    · obtain ⟨x, hx, rfl⟩ := List.mem_map.1 g
      have := hd x hx
      omega)
  rw [List.map_append, e1, ← List.append_assoc, poly_append, e2]
  generalize poly 1 (expN h ++ d.map Int.toNat) = c at hlt ⊢
  exact poly_check c hlt
theorem dec_enc {h d : List Int} (hp : partB h = true) (hg : groupsB h.length d = true) (hd0 : ∀ g ∈ d, 0 ≤ g) : decP (encI h d) = some (h, d) := by
  unfold partB at hp
  unfold groupsB at hg
  simp only [Bool.and_eq_true, decide_eq_true_eq, List.all_eq_true] at hp hg
  have hh : ∀ c ∈ h, 33 ≤ c ∧ c ≤ 126 ∧ ¬ (65 ≤ c ∧ c ≤ 90) := fun c hc => of_decide_eq_true (hp.1 c hc)
  have hd : ∀ g ∈ d, 0 ≤ g ∧ g < 32 := fun g hgm => ⟨hd0 g hgm, by have := hg.1 g hgm; omega⟩
  have h6 : (nums64 (six (chkN h d))).length = 6 := by rw [nums64_length]; exact six_length _
  have hD : ∀ g ∈ d ++ nums64 (six (chkN h d)), 0 ≤ g ∧ g < 32 := fun g hgm => by
    rcases List.mem_append.1 hgm with a | a
    · exact hd g a
    · exact nums_range (six_lt _) g a
  unfold encI
  have hz := poly_written h d (fun c hc => by have := hh c hc; omega) hd
  generalize nums64 (six (chkN h d)) = S at h6 hD hz ⊢
  rw [dec_of hh hD hp.2.1 (by rw [List.length_append, h6]; omega) (by rw [List.length_append, h6]; omega), if_neg (by rw [hz]; decide), List.length_append, h6, Nat.add_sub_cancel, List.take_left]
end Go.Proofs.YthkijnfpllbdnaaDoor.Bec
