/-
  The walk of bech32.Decode.
-/
import Derived.Test.YthkijnfpllbdnaaDoorDecPure
namespace Go.Proofs.YthkijnfpllbdnaaDoor.Bec
open Go.RowKit Go.Proofs.YthkijnfpllbdnaaDoor.Hand Go.Proofs.YthkijnfpllbdnaaDoorW.PrintWords Go.Proofs.YthkijnfpllbdnaaDoorW.PrintLast Go.Proofs.YthkijnfpllbdnaaDoorW.PrintMore

/-- What Decode answers: the error, or the two parts. -/
def IsDec (r : Option (List Int × List Int)) (e : Ending) (w' : World) : Prop :=
  (r = none → ∃ x, e = .returned (.tuple #[.string ⟨#[]⟩, .slice none 0 0, .iface 53 x])) ∧
  ∀ h g, r = some (h, g) → ∃ A c, e = .returned (.tuple #[.string (strOfNums h), .slice A g.length c, .nilIface]) ∧ Kd.C (Kd.int .u8) w' A g.length g ∧ g.length ≤ c
theorem IsDec.err {r : Option (List Int × List Int)} {x : Value} {w' : World} (h : r = none) : IsDec r (.returned (.tuple #[.string ⟨#[]⟩, .slice none 0 0, .iface 53 x])) w' :=
  ⟨fun _ => ⟨x, rfl⟩, fun a g e => by rw [h] at e; cases e⟩
theorem IsDec.ok {r : Option (List Int × List Int)} {hh g : List Int} {A : Option Addr} {q c : Nat} {t : ByteArray} {w : World} (hr : r = some (hh, g.take q)) (ht : strOfNums hh = t) (hl : g.length = q + 6) (hC : Kd.C (Kd.int .u8) w A (q + 6) g) (hc : q ≤ c) :
    IsDec r (.returned (.tuple #[.string t, .slice A q c, .nilIface])) w.drew := by
  refine ⟨fun h => (by rw [hr] at h; cases h), fun a b h => ?_⟩
  rw [hr] at h
  injection h with h
  injection h with h1 h2
  subst h1 h2
  have hl2 : (g.take q).length = q := by rw [List.length_take]; omega
  refine ⟨A, c, by rw [ht, hl2], ?_, by rw [hl2]; exact hc⟩
  rw [← hl] at hC
  exact Kd.C_below (Kd.C_take hC (by omega)) (below_drew (Below.refl w.heap.size w))
theorem seen_snoc (l : List Int) (c : Int) (h : seenB l = true) (h0 : 33 ≤ c) (h1 : c ≤ 126) : seenB (l ++ [c]) = true := by
  unfold seenB at *
  rw [List.all_append, h]
  simp [h0, h1]
theorem seen_bad (l : List Int) (c : Int) (hm : c ∈ l) (hc : c < 33 ∨ 126 < c) : seenB l = false := by
  unfold seenB
  rw [List.all_eq_false]
  exact ⟨c, hm, by simp; omega⟩
theorem decP_size {l : List Int} (h : l.length < 8 ∨ 90 < l.length) : decP l = none := by unfold decP; rw [if_pos h]
theorem decP_seen {l : List Int} (h : seenB l = false) : decP l = none := by
  unfold decP
  split
  · rfl
  · first | rw [if_pos h] | rfl
/-- What stands behind the two first guards. -/
def decQ (l : List Int) : Option (List Int × List Int) :=
  if l ≠ l.map lowI ∧ l ≠ l.map upI then none
  else if lastP (l.map lowI) l.length < 1 ∨ (l.length : Int) < lastP (l.map lowI) l.length + 7 then none
  else if okL ((l.map lowI).drop ((lastP (l.map lowI) l.length).toNat + 1)) = false then none
  else if poly 1 (expN ((l.map lowI).take (lastP (l.map lowI) l.length).toNat) ++ (((l.map lowI).drop ((lastP (l.map lowI) l.length).toNat + 1)).map idxI).map Int.toNat) ≠ 1 then none
  else some ((l.map lowI).take (lastP (l.map lowI) l.length).toNat, (((l.map lowI).drop ((lastP (l.map lowI) l.length).toNat + 1)).map idxI).take (l.length - (lastP (l.map lowI) l.length).toNat - 7))
theorem decP_q {l : List Int} (h1 : 8 ≤ l.length) (h2 : l.length ≤ 90) (h3 : seenB l = true) : decP l = decQ l := by
  unfold decP decQ
  rw [if_neg (by omega), if_neg (by rw [h3]; decide)]

/-- What stands behind the guard on the letters' case. -/
def decR (lo : List Int) (one : Int) (n : Nat) : Option (List Int × List Int) :=
  if one < 1 ∨ (n : Int) < one + 7 then none
  else if okL (lo.drop (one.toNat + 1)) = false then none
  else if poly 1 (expN (lo.take one.toNat) ++ ((lo.drop (one.toNat + 1)).map idxI).map Int.toNat) ≠ 1 then none
  else some (lo.take one.toNat, ((lo.drop (one.toNat + 1)).map idxI).take (n - one.toNat - 7))
theorem decQ_no {l : List Int} (h1 : l ≠ l.map lowI) (h2 : l ≠ l.map upI) : decQ l = none := by unfold decQ; rw [if_pos ⟨h1, h2⟩]
theorem decQ_r {l : List Int} (h : l = l.map lowI ∨ l = l.map upI) : decQ l = decR (l.map lowI) (lastP (l.map lowI) l.length) l.length := by
  unfold decQ decR
  rw [if_neg (by intro ⟨h1, h2⟩; exact h.elim h1 h2)]
theorem low_range {l : List Int} (h : ∀ c ∈ l, 0 ≤ c ∧ c < 128) : ∀ c ∈ l.map lowI, 0 ≤ c ∧ c < 128 := by
  intro c hc
  obtain ⟨b, hb, rfl⟩ := List.mem_map.1 hc
  have := h b hb
  unfold lowI
  split <;> omega
theorem up_range {l : List Int} (h : ∀ c ∈ l, 0 ≤ c ∧ c < 128) : ∀ c ∈ l.map upI, 0 ≤ c ∧ c < 128 := by
  intro c hc
  obtain ⟨b, hb, rfl⟩ := List.mem_map.1 hc
  have := h b hb
  unfold upI
  split <;> omega
theorem toList_eq {s t : ByteArray} : s.toList = t.toList ↔ s = t := ⟨fun h => by
  have e : s.data.toList = t.data.toList := by rw [← ByteArray.toList_eq, ← ByteArray.toList_eq]; exact h
  cases s; cases t; simp only at e; congr 1; exact Array.toList_inj.1 e, fun h => by rw [h]⟩

set_option maxHeartbeats 8000000 in
theorem decode_calls (s : ByteArray) (w : World) (hG : genAt w) (h0 : 0 < w.heap.size) :
    Calls Tryd.prog 17 #[.string s] w fun e w' => IsDec (decP (bytesOf s)) e w' ∧ Below w.heap.size w w' := by
  have hbl := bytesOf_length s
  have HBL := Aside0.mk hbl
  have HG := Aside0.mk hG
  have HZ := Aside0.mk h0
  clear hG h0
  by_cases hA : s.size < 8 ∨ 90 < s.size
  · have HN := Aside0.mk (decP_size (l := bytesOf s) (by rw [hbl]; exact hA))
    clear hbl
    rcases hA with hA | hA
    all_goals
      go_enter Tryd.func17, Tryd.ntmps17
      go_wp2_with (first | (go_at_call 20; refine (errnew_calls _ _).mono ?_; rintro e w1 ⟨y, rfl, hb1⟩) | fail)
      go_wp2
      go_ret3
      exact ⟨IsDec.err HN.out, hb1⟩
  · have hs1 : 8 ≤ s.size := by omega
    have hs2 : s.size ≤ 90 := by omega
    have HDQ : Aside0 (seenB (bytesOf s) = true → decP (bytesOf s) = decQ (bytesOf s)) := ⟨fun h => decP_q (by omega) (by omega) h⟩
    clear hbl hA
    go_enter Tryd.func17, Tryd.ntmps17
    go_wp2
    go_loopw [5] (fun v5 wr => ∃ i : Nat, v5 = .int .i64 i ∧ i ≤ s.size ∧ Aside0 (seenB ((bytesOf s).take i) = true) ∧ Aside0 (Below w.heap.size w wr)) (fun v5 _ => s.size - (intOf v5).toNat)
    case atStart => exact ⟨0, rfl, Nat.zero_le _, ⟨rfl⟩, ⟨Below.refl _ _⟩⟩
    case round =>
      obtain ⟨i, rfl, hi, HV, HB⟩ := hrel
      by_cases hlt : i < s.size
      · obtain ⟨c, hcE⟩ : ∃ c, c = bt s (i : Int) := ⟨_, rfl⟩
        have hrng := bt_range s (i : Int)
        rw [← hcE] at hrng
        obtain ⟨hc0, hc1⟩ := hrng
        have hx8 : ∀ h : i < s.size, ((s[i]'h).toNat : Int) = c := fun h => by rw [hcE]; simpa using bt_at s (i : Int) (by simpa using h)
        have HTK := Aside0.mk (take_snoc s i hlt)
        rw [← hcE] at HTK
        have HMEM : Aside0 (c ∈ bytesOf s) := ⟨by
          have h : c ∈ (bytesOf s).take (i + 1) := by rw [HTK.out]; simp
          exact List.mem_of_mem_take h⟩
        clear hcE
        by_cases hbad : c < 33 ∨ 126 < c
        · have HN := Aside0.mk (decP_seen (seen_bad _ c HMEM.out hbad))
          rcases hbad with hbad | hbad
          all_goals
            go_wp2_with (first | (go_at_call 20; refine (errnew_calls _ _).mono ?_; rintro e w1 ⟨y, rfl, hb1⟩) | fail)
            go_wp2
            go_ret3
            exact ⟨IsDec.err HN.out, below_step HB.out hb1⟩
        · have h33 : 33 ≤ c := by omega
          have h126 : c ≤ 126 := by omega
          clear hbad
          go_wp2
          go_roundw
          case rel => exact ⟨i + 1, by go_num, by omega, ⟨by rw [HTK.out]; exact seen_snoc _ _ HV.out h33 h126⟩, HB⟩
          case measure => simp [intOf]; omega
      · obtain rfl : i = s.size := by omega
        rw [show (bytesOf s).take s.size = bytesOf s by rw [List.take_of_length_le]; rw [HBL.out]; omega] at HV
        have HPQ := Aside0.mk (HDQ.out HV.out)
        have HAS : Aside0 (∀ c ∈ bytesOf s, c < 128) := ⟨fun c hc => by
          have := of_decide_eq_true (List.all_eq_true.1 HV.out c hc)
          omega⟩
        have HAS2 : Aside0 (∀ c ∈ bytesOf s, 0 ≤ c ∧ c < 128) := ⟨fun c hc => ⟨(bytesOf_range s c hc).1, HAS.out c hc⟩⟩
        obtain ⟨T, hT⟩ : ∃ T, T = strOfNums ((bytesOf s).map lowI) := ⟨_, rfl⟩
        obtain ⟨U, hU⟩ : ∃ U, U = strOfNums ((bytesOf s).map upI) := ⟨_, rfl⟩
        have HLO : Aside0 (∀ w2 : World, Calls Tryd.prog 21 #[.string s] w2 fun e w' => e = .returned (.string T) ∧ Below w2.heap.size w2 w') := ⟨fun w2 => by rw [hT]; exact lower_calls s w2 (by omega) HAS.out⟩
        have HUP : Aside0 (∀ w2 : World, Calls Tryd.prog 22 #[.string s] w2 fun e w' => e = .returned (.string U) ∧ Below w2.heap.size w2 w') := ⟨fun w2 => by rw [hU]; exact upper_calls s w2 (by omega) HAS.out⟩
        have HBT : Aside0 (bytesOf T = (bytesOf s).map lowI) := ⟨by rw [hT]; exact bytesOf_nums _ (fun c hc => by have := low_range HAS2.out c hc; omega)⟩
        have HBU : Aside0 (bytesOf U = (bytesOf s).map upI) := ⟨by rw [hU]; exact bytesOf_nums _ (fun c hc => by have := up_range HAS2.out c hc; omega)⟩
        have hTs : T.size = s.size := by rw [← bytesOf_length, HBT.out, List.length_map, HBL.out]
        have HQN : Aside0 (¬ s = T → ¬ s = U → decP (bytesOf s) = none) := ⟨fun h1 h2 => by
          rw [HPQ.out]
          exact decQ_no (fun e => h1 (bytes_inj (by rw [HBT.out]; exact e))) (fun e => h2 (bytes_inj (by rw [HBU.out]; exact e)))⟩
        have HQR : Aside0 (s = T ∨ s = U → decP (bytesOf s) = decR (bytesOf T) (lastP (bytesOf T) s.size) s.size) := ⟨fun h => by
          rw [HPQ.out, HBT.out, decQ_r (h.elim (fun e => .inl (by rw [← HBT.out, ← e])) (fun e => .inr (by rw [← HBU.out, ← e]))), HBL.out]⟩
        clear hT hU
        by_cases hcase : s = T ∨ s = U
        · have HR := Aside0.mk (HQR.out hcase)
          have hfacts : (s.toList = T.toList ∧ (s.toList == T.toList) = true) ∨ (¬ s.toList = T.toList ∧ (s.toList == T.toList) = false ∧ s.toList = U.toList ∧ (s.toList == U.toList) = true) := by
            by_cases hst : s = T
            · exact .inl ⟨by rw [hst], by rw [hst]; simp⟩
            · have hsu := hcase.resolve_left hst
              have h1 : ¬ s.toList = T.toList := fun h => hst (toList_eq.1 h)
              exact .inr ⟨h1, by simpa using h1, by rw [hsu], by rw [hsu]; simp⟩
          have HF := Aside0.mk hfacts
          obtain ⟨one, hone⟩ : ∃ one, one = lastP (bytesOf T) s.size := ⟨_, rfl⟩
          have hor := lastP_range (bytesOf T) s.size
          rw [← hone] at hor
          obtain ⟨ho1, ho2⟩ := hor
          have HZL : Aside0 (∀ w2 : World, Calls Tryd.prog 23 #[.string T, .int .u8 49] w2 fun e w' => e = .returned (.int .i64 one) ∧ Below w2.heap.size w2 w') := ⟨fun w2 => by
            obtain ⟨k, hk⟩ := last_f T (by omega)
            rw [hTs, ← hone] at hk
            exact (PFnUnBech32.bech32_zzLastByte.calls k T 49 one w2 hk).mono fun e w' ⟨a, b⟩ => ⟨a, b.below⟩⟩
          rw [← hone] at HR
          clear hcase hfacts hone
          by_cases hbad : one < 1 ∨ (s.size : Int) < one + 7
          · have HN : Aside0 (decP (bytesOf s) = none) := ⟨by rw [HR.out]; unfold decR; rw [if_pos hbad]⟩
            rcases HF.out with ⟨h1, h1b⟩ | ⟨h1, h1b, h2, h2b⟩
            all_goals
              rcases hbad with hbad | hbad
              all_goals
                go_wp2_with (first
                  | (go_at_call 21; refine (HLO.out _).mono ?_; rintro e w1 ⟨rfl, hb1⟩; have HB1 := Aside0.mk (below_step HB.out hb1); clear hb1)
                  | (go_at_call 22; refine (HUP.out _).mono ?_; rintro e w2 ⟨rfl, hb2⟩; have HB2 := Aside0.mk (below_step HB1.out hb2); clear hb2)
                  | (go_at_call 23; refine (HZL.out _).mono ?_; rintro e w3 ⟨rfl, hb3⟩; have HB3 := Aside0.mk (below_step HB2.out hb3); clear hb3)
                  | (go_at_call 20; refine (errnew_calls _ _).mono ?_; rintro e w9 ⟨y, rfl, hb9⟩)
                  | fail)
                all_goals
                  go_wp2
                  go_ret3
                  exact ⟨IsDec.err HN.out, below_step HB3.out hb9⟩
          · obtain ⟨m, rfl⟩ : ∃ m : Nat, one = m := ⟨one.toNat, by omega⟩
            have hm1 : 1 ≤ m := by omega
            have hm7 : m + 7 ≤ s.size := by omega
            have HR2 := HR.out
            unfold decR at HR2
            rw [if_neg hbad, Int.toNat_natCast] at HR2
            obtain ⟨d, hd⟩ : ∃ d, d = (bytesOf T).drop (m + 1) := ⟨_, rfl⟩
            obtain ⟨hh, hhd⟩ : ∃ hh, hh = (bytesOf T).take m := ⟨_, rfl⟩
            have hdl : d.length = s.size - m - 1 := by rw [hd, List.length_drop, bytesOf_length, hTs]; omega
            have hDp : bytesOf (T.extract (m + 1) s.size) = d := by rw [hd, ← bytesOf_drop, hTs]
            have hHp : bytesOf (T.extract 0 m) = hh := by rw [hhd, bytesOf_take]
            have hDs : (T.extract (m + 1) s.size).size ≤ 1000000 := by rw [← bytesOf_length, hDp, hdl]; omega
            have hHs : (T.extract 0 m).size ≤ 1000000 := by
              rw [← bytesOf_length, hHp, hhd, List.length_take, bytesOf_length, hTs]; omega
            have HHS : Aside0 (strOfNums hh = T.extract 0 m) := ⟨bytes_inj (by rw [hHp]; exact bytesOf_nums _ (fun c hc => by rw [← hHp] at hc; exact bytesOf_range _ c hc))⟩
            rw [← hd, ← hhd] at HR2
            have HT0 := Aside0.mk (fun w2 : World => toBytes_calls (T.extract (m + 1) s.size) hDs w2)
            have HVC := Aside0.mk (fun (A : Option Addr) (c : Nat) (ds : List Nat) (w2 : World) (a1 : genAt w2) (a2 : 0 < w2.heap.size) => verify_calls (T.extract 0 m) hHs A c ds w2 a1 a2)
            rw [hDp] at HT0
            rw [hHp] at HVC
            clear hbad HR ho1 ho2 hDs hHs hHp hhd
            by_cases hok : okL d = false
            · rw [if_pos hok] at HR2
              have HN := Aside0.mk HR2
              have HBY : Aside0 (∀ w2 : World, Calls Tryd.prog 24 #[.string (T.extract (m + 1) s.size)] w2 fun e w' => ∃ x, e = .returned (.tuple #[.slice none 0 0, .iface 53 x]) ∧ Below w2.heap.size w2 w') := ⟨fun w2 => (HT0.out w2).mono fun e w' ⟨a, b⟩ => by
                obtain ⟨x, hx⟩ := a.2 hok
                exact ⟨x, hx, b⟩⟩
              clear HR2 hok hd hdl hDp
              rcases HF.out with ⟨h1, h1b⟩ | ⟨h1, h1b, h2, h2b⟩
              all_goals
                go_wp2_with (first
                  | (go_at_call 21; refine (HLO.out _).mono ?_; rintro e w1 ⟨rfl, hb1⟩; have HB1 := Aside0.mk (below_step HB.out hb1); clear hb1)
                  | (go_at_call 22; refine (HUP.out _).mono ?_; rintro e w2 ⟨rfl, hb2⟩; have HB2 := Aside0.mk (below_step HB1.out hb2); clear hb2)
                  | (go_at_call 23; refine (HZL.out _).mono ?_; rintro e w3 ⟨rfl, hb3⟩; have HB3 := Aside0.mk (below_step HB2.out hb3); clear hb3)
                  | (go_at_call 24; refine (HBY.out _).mono ?_; rintro e w4 ⟨x4, rfl, hb4⟩; have HB4 := Aside0.mk (below_step HB3.out hb4); clear hb4)
                  | (go_at_call 20; refine (errnew_calls _ _).mono ?_; rintro e w9 ⟨y, rfl, hb9⟩)
                  | fail)
                all_goals
                  go_wp2
                  go_ret3
                  exact ⟨IsDec.err HN.out, below_step HB4.out hb9⟩
            · have hokt : okL d = true := by simpa using hok
              rw [if_neg hok] at HR2
              obtain ⟨g, hg⟩ : ∃ g, g = d.map idxI := ⟨_, rfl⟩
              obtain ⟨q, hq⟩ : ∃ q, q = s.size - m - 7 := ⟨_, rfl⟩
              have hgl : g.length = q + 6 := by rw [hg, List.length_map, hdl]; omega
              have HBY : Aside0 (∀ w2 : World, Calls Tryd.prog 24 #[.string (T.extract (m + 1) s.size)] w2 fun e w' => ∃ A c, e = .returned (.tuple #[.slice A (q + 6) c, .nilIface]) ∧ Kd.C (Kd.int .u8) w' A (q + 6) g ∧ q + 6 ≤ c ∧ Below w2.heap.size w2 w') := ⟨fun w2 => (HT0.out w2).mono fun e w' ⟨a, b⟩ => by
                obtain ⟨v, hv, hR⟩ := a.1 hokt
                rw [← hg] at hR
                obtain ⟨A, c, rfl⟩ := Kd.R_slice hR
                have h := Kd.R_reads' hR
                rw [hgl] at hv h
                exact ⟨A, c, hv, h.2.2, h.2.1, b⟩⟩
              have hgr : ∀ x ∈ g, 0 ≤ x ∧ x < 32 := fun x hx => by
                rw [hg] at hx
                obtain ⟨c, hc, rfl⟩ := List.mem_map.1 hx
                have h1 := of_decide_eq_true (List.all_eq_true.1 hokt c hc)
                have h2 := bytesOf_range (T.extract (m + 1) s.size) c (by rw [hDp]; exact hc)
                exact ⟨h1, (idx_at c h2.1 h2.2).2.2.2⟩
              have hgn : nums64 (g.map Int.toNat) = g := by
                unfold nums64
                rw [List.map_map]
                have e : ∀ x ∈ g, ((fun v : Nat => (v : Int)) ∘ Int.toNat) x = x := fun x hx => by
                  have := (hgr x hx).1
                  simp only [Function.comp_apply]
                  omega
                rw [List.map_congr_left e]; simp
              obtain ⟨B, hB⟩ : ∃ B, B = decide (poly 1 (expN hh ++ g.map Int.toNat) = 1) := ⟨_, rfl⟩
              have HVE : Aside0 (∀ (w2 : World) A c, Below w.heap.size w w2 → Kd.C (Kd.int .u8) w2 A (q + 6) g → Calls Tryd.prog 25 #[.string (T.extract 0 m), .slice A (q + 6) c] w2 fun e w' => e = .returned (.bool B) ∧ Below w2.heap.size w2 w') := ⟨fun w2 A c hb hC => by
                have hml : (g.map Int.toNat).length = q + 6 := by rw [List.length_map, hgl]
                have h := HVC.out A c (g.map Int.toNat) w2 (HG.out.below hb HZ.out) (Nat.lt_of_lt_of_le HZ.out hb.size) (by rw [hml, hgn]; exact hC) (by omega) (fun v hv => by
                  obtain ⟨x, hx, rfl⟩ := List.mem_map.1 hv
                  have := hgr x hx
                  omega)
                rw [hml, ← hB] at h
                exact h⟩
              rw [← hg] at HR2
              have HGL := Aside0.mk hgl
              have hq90 : q ≤ 90 := by omega
              by_cases hp : poly 1 (expN hh ++ g.map Int.toNat) ≠ 1
              · rw [if_pos hp] at HR2
                have HN := Aside0.mk HR2
                obtain rfl : B = false := by rw [hB]; simpa using hp
                clear HR2 hok hd hdl hDp hokt hg hgl hgr hgn hp hq hB HT0 HVC
                rcases HF.out with ⟨h1, h1b⟩ | ⟨h1, h1b, h2, h2b⟩
                all_goals
                  go_wp2_with (first
                    | (go_at_call 21; refine (HLO.out _).mono ?_; rintro e w1 ⟨rfl, hb1⟩; have HB1 := Aside0.mk (below_step HB.out hb1); clear hb1)
                    | (go_at_call 22; refine (HUP.out _).mono ?_; rintro e w2 ⟨rfl, hb2⟩; have HB2 := Aside0.mk (below_step HB1.out hb2); clear hb2)
                    | (go_at_call 23; refine (HZL.out _).mono ?_; rintro e w3 ⟨rfl, hb3⟩; have HB3 := Aside0.mk (below_step HB2.out hb3); clear hb3)
                    | (go_at_call 24; refine (HBY.out _).mono ?_; rintro e w4 ⟨A4, c4, rfl, hC4, hc4, hb4⟩; have HB4 := Aside0.mk (below_step HB3.out hb4); have HC4 := Aside0.mk hC4; have HCc := Aside0.mk hc4; clear hb4 hC4 hc4)
                    | (go_at_call 25; refine (HVE.out _ A4 c4 HB4.out HC4.out).mono ?_; rintro e w5 ⟨rfl, hb5⟩; have HB5 := Aside0.mk (below_step HB4.out hb5); have HC5 := Aside0.mk (Kd.C_below HC4.out hb5); clear hb5)
                    | (go_at_call 20; refine (errnew_calls _ _).mono ?_; rintro e w9 ⟨y, rfl, hb9⟩)
                    | fail)
                  all_goals
                    go_wp2
                    go_ret3
                    exact ⟨IsDec.err HN.out, below_step HB5.out hb9⟩
              · rw [if_neg hp, ← hq] at HR2
                have HN := Aside0.mk HR2
                obtain rfl : B = true := by rw [hB]; simpa using hp
                clear HR2 hok hd hdl hDp hokt hg hgl hgr hgn hp hq hB HT0 HVC
                rcases HF.out with ⟨h1, h1b⟩ | ⟨h1, h1b, h2, h2b⟩
                all_goals
                  go_wp2_with (first
                    | (go_at_call 21; refine (HLO.out _).mono ?_; rintro e w1 ⟨rfl, hb1⟩; have HB1 := Aside0.mk (below_step HB.out hb1); clear hb1)
                    | (go_at_call 22; refine (HUP.out _).mono ?_; rintro e w2 ⟨rfl, hb2⟩; have HB2 := Aside0.mk (below_step HB1.out hb2); clear hb2)
                    | (go_at_call 23; refine (HZL.out _).mono ?_; rintro e w3 ⟨rfl, hb3⟩; have HB3 := Aside0.mk (below_step HB2.out hb3); clear hb3)
                    | (go_at_call 24; refine (HBY.out _).mono ?_; rintro e w4 ⟨A4, c4, rfl, hC4, hc4, hb4⟩; have HB4 := Aside0.mk (below_step HB3.out hb4); have HC4 := Aside0.mk hC4; have HCc := Aside0.mk hc4; clear hb4 hC4 hc4)
                    | (go_at_call 25; refine (HVE.out _ A4 c4 HB4.out HC4.out).mono ?_; rintro e w5 ⟨rfl, hb5⟩; have HB5 := Aside0.mk (below_step HB4.out hb5); have HC5 := Aside0.mk (Kd.C_below HC4.out hb5); clear hb5)
                    | (go_at_call 20; refine (errnew_calls _ _).mono ?_; rintro e w9 ⟨y, rfl, hb9⟩)
                    | fail)
                  all_goals
                    have hcc := HCc.out
                    go_wp2
                    go_region
                    all_goals
                      go_wp2
                      go_ret3
                      exact ⟨IsDec.ok HN.out HHS.out HGL.out HC5.out (by omega), below_drew HB5.out⟩
        · have h1 : ¬ s.toList = T.toList := fun h => hcase (.inl (toList_eq.1 h))
          have h2 : ¬ s.toList = U.toList := fun h => hcase (.inr (toList_eq.1 h))
          have h1b : (s.toList == T.toList) = false := by simpa using h1
          have h2b : (s.toList == U.toList) = false := by simpa using h2
          have HN := Aside0.mk (HQN.out (fun h => hcase (.inl h)) (fun h => hcase (.inr h)))
          clear hcase
          go_wp2_with (first
            | (go_at_call 21; refine (HLO.out _).mono ?_; rintro e w1 ⟨rfl, hb1⟩; have HB1 := Aside0.mk (below_step HB.out hb1); clear hb1)
            | (go_at_call 22; refine (HUP.out _).mono ?_; rintro e w2 ⟨rfl, hb2⟩; have HB2 := Aside0.mk (below_step HB1.out hb2); clear hb2)
            | (go_at_call 20; refine (errnew_calls _ _).mono ?_; rintro e w3 ⟨y, rfl, hb3⟩)
            | fail)
          go_wp2
          go_ret3
          exact ⟨IsDec.err HN.out, below_step HB2.out hb3⟩
end Go.Proofs.YthkijnfpllbdnaaDoor.Bec
