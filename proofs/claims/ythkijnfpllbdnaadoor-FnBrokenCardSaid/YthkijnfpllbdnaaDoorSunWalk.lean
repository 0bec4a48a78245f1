/-
  The walk of spec.UnBech32.
-/
import Derived.Test.YthkijnfpllbdnaaDoorExpPure
namespace Go.Proofs.YthkijnfpllbdnaaDoor.Bec
open Go.RowKit Go.Proofs.YthkijnfpllbdnaaDoor.Hand Go.Proofs.YthkijnfpllbdnaaDoorW.PrintWords Go.Proofs.YthkijnfpllbdnaaDoorW.PrintLast Go.Proofs.YthkijnfpllbdnaaDoorW.PrintMore

def isLow (c : Int) : Bool := decide (97 ≤ c ∧ c ≤ 122)
def isUp (c : Int) : Bool := decide (65 ≤ c ∧ c ≤ 90)
def smallB (l : List Int) : Bool := l.any isLow
def greatB (l : List Int) : Bool := l.any isUp
theorem small_snoc (l : List Int) (c : Int) : smallB (l ++ [c]) = (smallB l || isLow c) := by simp [smallB]
theorem great_snoc (l : List Int) (c : Int) : greatB (l ++ [c]) = (greatB l || isUp c) := by simp [greatB]
theorem IsUn.no {r : Option (List Int × List Int)} {w' : World} (h : r = none) : IsUn r (.returned (.tuple #[.string ⟨#[]⟩, .slice none 0 0, .bool false])) w' :=
  ⟨fun _ => rfl, fun a g e => by rw [h] at e; cases e⟩
theorem IsUn.ok {r : Option (List Int × List Int)} {hh g : List Int} {A : Option Addr} {q c : Nat} {t : ByteArray} {w : World} (hr : r = some (hh, g.take q)) (ht : strOfNums hh = t) (hl : g.length = q + 6) (hC : Kd.C (Kd.int .u8) w A (q + 6) g) (hc : q ≤ c) :
    IsUn r (.returned (.tuple #[.string t, .slice A q c, .bool true])) w.drew := by
  refine ⟨fun h => (by rw [hr] at h; cases h), fun a b h => ?_⟩
  rw [hr] at h
  injection h with h
  injection h with h1 h2
  subst h1 h2
  have hl2 : (g.take q).length = q := by rw [List.length_take]; omega
  refine ⟨A, c, by rw [ht, hl2], ?_, by rw [hl2]; exact hc⟩
  rw [← hl] at hC
  exact Kd.C_below (Kd.C_take hC (by omega)) (below_drew (Below.refl w.heap.size w))
theorem low_getD (l : List Int) (i : Nat) (h : i < l.length) : (l.map lowI).getD i 0 = lowI (l.getD i 0) := by
  rw [List.getD_eq_getElem?_getD, List.getElem?_map, List.getD_eq_getElem?_getD, List.getElem?_eq_getElem h]
  rfl

theorem great_is : ∀ l : List Int, greatB l = false ↔ l = l.map lowI
  | [] => by simp [greatB]
  | c :: l => by
    have ih := great_is l
    have h : greatB (c :: l) = (isUp c || greatB l) := by simp [greatB]
    rw [h, Bool.or_eq_false_iff, List.map_cons, List.cons.injEq, ih]
    have hc : isUp c = false ↔ c = lowI c := by
      unfold isUp lowI
      rw [decide_eq_false_iff_not]
      split <;> omega
    rw [hc]
theorem small_is : ∀ l : List Int, smallB l = false ↔ l = l.map upI
  | [] => by simp [smallB]
  | c :: l => by
    have ih := small_is l
    have h : smallB (c :: l) = (isLow c || smallB l) := by simp [smallB]
    rw [h, Bool.or_eq_false_iff, List.map_cons, List.cons.injEq, ih]
    have hc : isLow c = false ↔ c = upI c := by
      unfold isLow upI
      rw [decide_eq_false_iff_not]
      split <;> omega
    rw [hc]

set_option maxRecDepth 100000 in
set_option maxHeartbeats 16000000 in
theorem sun_calls (s : ByteArray) (w : World) :
    Calls Tryd.prog 6 #[.string s] w fun e w' => IsUn (decP (bytesOf s)) e w' ∧ Below w.heap.size w w' := by
  have hbl := bytesOf_length s
  have HBL := Aside0.mk hbl
  by_cases hA : s.size < 8 ∨ 90 < s.size
  · have HN := Aside0.mk (decP_size (l := bytesOf s) (by rw [hbl]; exact hA))
    clear hbl
    rcases hA with hA | hA
    all_goals
      go_enter Tryd.func6, Tryd.ntmps6
      go_wp2
      go_ret3
      exact ⟨IsUn.no HN.out, Below.refl _ _⟩
  · have hs1 : 8 ≤ s.size := by omega
    have hs2 : s.size ≤ 90 := by omega
    have HDQ : Aside0 (seenB (bytesOf s) = true → decP (bytesOf s) = decQ (bytesOf s)) := ⟨fun h => decP_q (by omega) (by omega) h⟩
    clear hbl hA
    go_enter Tryd.func6, Tryd.ntmps6
    have HB0 := Aside0.mk (below_alloc (Below.refl w.heap.size w) (.cells #[] 5 (0, 0)))
    have HR0 : Aside0 ((Kd.int .u8).R 5 (w.alloc (.cells #[] 5)) w.heap.size (fun _ => True) (.slice (some ⟨w.heap.size, 0, none⟩) 0 0) []) := ⟨by
      have h := own_lit w w.heap.size 5 .u8 [] (by simp) (by simp)
      exact Kd.R_of_own (enc := Value.int .u8) (h1 := fun _ => rfl) (xs := []) h (fun _ _ => trivial)⟩
    go_wp2
    go_loopw [5, 6, 7, 8, 9] (fun v5 v6 v7 v8 v9 wr => ∃ i : Nat, v9 = .int .i64 i ∧ i ≤ s.size ∧ v5 = .bool (smallB ((bytesOf s).take i)) ∧ v6 = .bool (greatB ((bytesOf s).take i)) ∧ v7 = .int .i64 (lastP ((bytesOf s).map lowI) i) ∧
      Aside0 (seenB ((bytesOf s).take i) = true) ∧ Aside0 ((Kd.int .u8).R 5 wr w.heap.size (fun _ => True) v8 (((bytesOf s).take i).map lowI)) ∧ Aside0 (Below w.heap.size w wr)) (fun _ _ _ _ v9 _ => s.size - (intOf v9).toNat)
    case atStart => exact ⟨0, rfl, Nat.zero_le _, rfl, rfl, rfl, ⟨rfl⟩, HR0, HB0⟩
    case round =>
      obtain ⟨i, rfl, hi, rfl, rfl, rfl, HV, HR, HB⟩ := hrel
      clear HR0 HB0
      by_cases hlt : i < s.size
      · obtain ⟨c, hcE⟩ : ∃ c, c = bt s (i : Int) := ⟨_, rfl⟩
        have hrng := bt_range s (i : Int)
        rw [← hcE] at hrng
        obtain ⟨hc0, hc1⟩ := hrng
        have hx8 : ∀ h : i < s.size, ((s[i]'h).toNat : Int) = c := fun h => by rw [hcE]; simpa using bt_at s (i : Int) (by simpa using h)
        have HTK := Aside0.mk (take_snoc s i hlt)
        rw [← hcE] at HTK
        have HGD : Aside0 (((bytesOf s).map lowI).getD i 0 = lowI c) := ⟨by rw [low_getD _ i (by rw [HBL.out]; exact hlt), ← bt_getD, ← hcE]⟩
        have HMEM : Aside0 (c ∈ bytesOf s) := ⟨by
          have h : c ∈ (bytesOf s).take (i + 1) := by rw [HTK.out]; simp
          exact List.mem_of_mem_take h⟩
        have HL : Aside0 ((((bytesOf s).take i).map lowI).length = i) := ⟨by simp [HBL.out]; omega⟩
        have HS1 : Aside0 (smallB ((bytesOf s).take (i + 1)) = (smallB ((bytesOf s).take i) || isLow c)) := ⟨by rw [HTK.out, small_snoc]⟩
        have HG1 : Aside0 (greatB ((bytesOf s).take (i + 1)) = (greatB ((bytesOf s).take i) || isUp c)) := ⟨by rw [HTK.out, great_snoc]⟩
        clear hcE
        by_cases hbad : c < 33 ∨ 126 < c
        · have HN := Aside0.mk (decP_seen (seen_bad _ c HMEM.out hbad))
          rcases hbad with hbad | hbad
          all_goals
            go_wp2
            go_ret3
            exact ⟨IsUn.no HN.out, HB.out⟩
        · have h33 : 33 ≤ c := by omega
          have h126 : c ≤ 126 := by omega
          clear hbad
          generalize smallB ((bytesOf s).take i) = sm at HS1 ⊢
          generalize greatB ((bytesOf s).take i) = gr at HG1 ⊢
          have hcl : (65 ≤ c ∧ c ≤ 90) ∨ (97 ≤ c ∧ c ≤ 122) ∨ c = 49 ∨ (c < 65 ∧ ¬ c = 49) ∨ (90 < c ∧ c < 97) ∨ 122 < c := by omega
          rcases hcl with ⟨u1, u2⟩ | ⟨u1, u2⟩ | rfl | ⟨u1, u2⟩ | ⟨u1, u2⟩ | u1
          · have HLC : Aside0 (isLow c = false ∧ isUp c = true ∧ lowI c = c + 97 - 65) := ⟨by simp [isLow]; try omega, by simp [isUp]; try omega, by unfold lowI; rw [if_pos ⟨u1, u2⟩]; omega⟩
            cases sm <;> cases gr
            all_goals
              go_wp2_with (first
                | (at_builtin; refine Kd.R_append (Kd.int .u8) (w0 := w) w.heap.size rfl (.tmp 70) (.tmp 72) 22 5 (.int .u8 0) 1 rfl Tryd.underlying22 info5 rfl (by decide) (by decide) _ _ (c + 97 - 65) [.int .u8 (c + 97 - 65)] (fun _ => True) (fun _ => False) rfl rfl rfl (fun _ hk => hk.elim) (fun _ _ => trivial) HR.out HB.out HB.out.size (by rw [HL.out]; omega) ?_; intro v6 w6 hR6 hb6 _ _; have HR6 := Aside0.mk hR6; have HB6 := Aside0.mk hb6; clear hR6 hb6)
                | fail)
              go_roundw
              case rel => exact ⟨i + 1, by go_num, by omega, by rw [HS1.out, HLC.out.1]; first | rfl | (simp; omega), by rw [HG1.out, HLC.out.2.1]; first | rfl | (simp; omega), by rw [lastP, HGD.out, HLC.out.2.2, if_neg (by omega)], ⟨by rw [HTK.out]; exact seen_snoc _ _ HV.out (by omega) (by omega)⟩, ⟨by rw [HTK.out, List.map_append, List.map_cons, List.map_nil, HLC.out.2.2]; exact HR6.out⟩, HB6⟩
              case measure => simp [intOf]; omega
          · have HLC : Aside0 (isLow c = true ∧ isUp c = false ∧ lowI c = c) := ⟨by simp [isLow]; try omega, by simp [isUp]; try omega, by unfold lowI; rw [if_neg (by omega)]⟩
            cases sm <;> cases gr
            all_goals
              go_wp2_with (first
                | (at_builtin; refine Kd.R_append (Kd.int .u8) (w0 := w) w.heap.size rfl (.tmp 70) (.tmp 72) 22 5 (.int .u8 0) 1 rfl Tryd.underlying22 info5 rfl (by decide) (by decide) _ _ (c) [.int .u8 (c)] (fun _ => True) (fun _ => False) rfl rfl rfl (fun _ hk => hk.elim) (fun _ _ => trivial) HR.out HB.out HB.out.size (by rw [HL.out]; omega) ?_; intro v6 w6 hR6 hb6 _ _; have HR6 := Aside0.mk hR6; have HB6 := Aside0.mk hb6; clear hR6 hb6)
                | fail)
              go_roundw
              case rel => exact ⟨i + 1, by go_num, by omega, by rw [HS1.out, HLC.out.1]; first | rfl | (simp; omega), by rw [HG1.out, HLC.out.2.1]; first | rfl | (simp; omega), by rw [lastP, HGD.out, HLC.out.2.2, if_neg (by omega)], ⟨by rw [HTK.out]; exact seen_snoc _ _ HV.out (by omega) (by omega)⟩, ⟨by rw [HTK.out, List.map_append, List.map_cons, List.map_nil, HLC.out.2.2]; exact HR6.out⟩, HB6⟩
              case measure => simp [intOf]; omega
          · have HLC : Aside0 (isLow 49 = false ∧ isUp 49 = false ∧ lowI 49 = 49) := ⟨by decide, by decide, by decide⟩
            cases sm <;> cases gr
            all_goals
              go_wp2_with (first
                | (at_builtin; refine Kd.R_append (Kd.int .u8) (w0 := w) w.heap.size rfl (.tmp 70) (.tmp 72) 22 5 (.int .u8 0) 1 rfl Tryd.underlying22 info5 rfl (by decide) (by decide) _ _ (49) [.int .u8 (49)] (fun _ => True) (fun _ => False) rfl rfl rfl (fun _ hk => hk.elim) (fun _ _ => trivial) HR.out HB.out HB.out.size (by rw [HL.out]; omega) ?_; intro v6 w6 hR6 hb6 _ _; have HR6 := Aside0.mk hR6; have HB6 := Aside0.mk hb6; clear hR6 hb6)
                | fail)
              go_roundw
              case rel => exact ⟨i + 1, by go_num, by omega, by rw [HS1.out, HLC.out.1]; first | rfl | (simp; omega), by rw [HG1.out, HLC.out.2.1]; first | rfl | (simp; omega), by rw [lastP, HGD.out, HLC.out.2.2, if_pos rfl], ⟨by rw [HTK.out]; exact seen_snoc _ _ HV.out (by omega) (by omega)⟩, ⟨by rw [HTK.out, List.map_append, List.map_cons, List.map_nil, HLC.out.2.2]; exact HR6.out⟩, HB6⟩
              case measure => simp [intOf]; omega
          · have HLC : Aside0 (isLow c = false ∧ isUp c = false ∧ lowI c = c) := ⟨by simp [isLow]; try omega, by simp [isUp]; try omega, by unfold lowI; rw [if_neg (by omega)]⟩
            cases sm <;> cases gr
            all_goals
              go_wp2_with (first
                | (at_builtin; refine Kd.R_append (Kd.int .u8) (w0 := w) w.heap.size rfl (.tmp 70) (.tmp 72) 22 5 (.int .u8 0) 1 rfl Tryd.underlying22 info5 rfl (by decide) (by decide) _ _ (c) [.int .u8 (c)] (fun _ => True) (fun _ => False) rfl rfl rfl (fun _ hk => hk.elim) (fun _ _ => trivial) HR.out HB.out HB.out.size (by rw [HL.out]; omega) ?_; intro v6 w6 hR6 hb6 _ _; have HR6 := Aside0.mk hR6; have HB6 := Aside0.mk hb6; clear hR6 hb6)
                | fail)
              go_roundw
              case rel => exact ⟨i + 1, by go_num, by omega, by rw [HS1.out, HLC.out.1]; first | rfl | (simp; omega), by rw [HG1.out, HLC.out.2.1]; first | rfl | (simp; omega), by rw [lastP, HGD.out, HLC.out.2.2, if_neg (by omega)], ⟨by rw [HTK.out]; exact seen_snoc _ _ HV.out (by omega) (by omega)⟩, ⟨by rw [HTK.out, List.map_append, List.map_cons, List.map_nil, HLC.out.2.2]; exact HR6.out⟩, HB6⟩
              case measure => simp [intOf]; omega
          · have HLC : Aside0 (isLow c = false ∧ isUp c = false ∧ lowI c = c) := ⟨by simp [isLow]; try omega, by simp [isUp]; try omega, by unfold lowI; rw [if_neg (by omega)]⟩
            cases sm <;> cases gr
            all_goals
              go_wp2_with (first
                | (at_builtin; refine Kd.R_append (Kd.int .u8) (w0 := w) w.heap.size rfl (.tmp 70) (.tmp 72) 22 5 (.int .u8 0) 1 rfl Tryd.underlying22 info5 rfl (by decide) (by decide) _ _ (c) [.int .u8 (c)] (fun _ => True) (fun _ => False) rfl rfl rfl (fun _ hk => hk.elim) (fun _ _ => trivial) HR.out HB.out HB.out.size (by rw [HL.out]; omega) ?_; intro v6 w6 hR6 hb6 _ _; have HR6 := Aside0.mk hR6; have HB6 := Aside0.mk hb6; clear hR6 hb6)
                | fail)
              go_roundw
              case rel => exact ⟨i + 1, by go_num, by omega, by rw [HS1.out, HLC.out.1]; first | rfl | (simp; omega), by rw [HG1.out, HLC.out.2.1]; first | rfl | (simp; omega), by rw [lastP, HGD.out, HLC.out.2.2, if_neg (by omega)], ⟨by rw [HTK.out]; exact seen_snoc _ _ HV.out (by omega) (by omega)⟩, ⟨by rw [HTK.out, List.map_append, List.map_cons, List.map_nil, HLC.out.2.2]; exact HR6.out⟩, HB6⟩
              case measure => simp [intOf]; omega
          · have HLC : Aside0 (isLow c = false ∧ isUp c = false ∧ lowI c = c) := ⟨by simp [isLow]; try omega, by simp [isUp]; try omega, by unfold lowI; rw [if_neg (by omega)]⟩
            cases sm <;> cases gr
            all_goals
              go_wp2_with (first
                | (at_builtin; refine Kd.R_append (Kd.int .u8) (w0 := w) w.heap.size rfl (.tmp 70) (.tmp 72) 22 5 (.int .u8 0) 1 rfl Tryd.underlying22 info5 rfl (by decide) (by decide) _ _ (c) [.int .u8 (c)] (fun _ => True) (fun _ => False) rfl rfl rfl (fun _ hk => hk.elim) (fun _ _ => trivial) HR.out HB.out HB.out.size (by rw [HL.out]; omega) ?_; intro v6 w6 hR6 hb6 _ _; have HR6 := Aside0.mk hR6; have HB6 := Aside0.mk hb6; clear hR6 hb6)
                | fail)
              go_roundw
              case rel => exact ⟨i + 1, by go_num, by omega, by rw [HS1.out, HLC.out.1]; first | rfl | (simp; omega), by rw [HG1.out, HLC.out.2.1]; first | rfl | (simp; omega), by rw [lastP, HGD.out, HLC.out.2.2, if_neg (by omega)], ⟨by rw [HTK.out]; exact seen_snoc _ _ HV.out (by omega) (by omega)⟩, ⟨by rw [HTK.out, List.map_append, List.map_cons, List.map_nil, HLC.out.2.2]; exact HR6.out⟩, HB6⟩
              case measure => simp [intOf]; omega
      · obtain rfl : i = s.size := by omega
        rw [show (bytesOf s).take s.size = bytesOf s by rw [List.take_of_length_le]; rw [HBL.out]; omega] at HR HV ⊢
        have HPQ := Aside0.mk (HDQ.out HV.out)
        obtain ⟨one, hone⟩ : ∃ one, one = lastP ((bytesOf s).map lowI) s.size := ⟨_, rfl⟩
        have hor := lastP_range ((bytesOf s).map lowI) s.size
        rw [← hone] at hor ⊢
        obtain ⟨ho1, ho2⟩ := hor
        obtain ⟨lo, hlo⟩ : ∃ lo, lo = (bytesOf s).map lowI := ⟨_, rfl⟩
        have HQR : Aside0 (smallB (bytesOf s) = false ∨ greatB (bytesOf s) = false → decP (bytesOf s) = decR lo one s.size) := ⟨fun h => by
          rw [HPQ.out, decQ_r (h.elim (fun e => .inr ((small_is _).1 e)) (fun e => .inl ((great_is _).1 e))), HBL.out, ← hone, ← hlo]⟩
        have HQN : Aside0 (smallB (bytesOf s) = true → greatB (bytesOf s) = true → decP (bytesOf s) = none) := ⟨fun h1 h2 => by
          rw [HPQ.out]
          exact decQ_no (fun e => by rw [(great_is _).2 e] at h2; cases h2) (fun e => by rw [(small_is _).2 e] at h1; cases h1)⟩
        have HLL : Aside0 (lo.length = s.size) := ⟨by rw [hlo, List.length_map, HBL.out]⟩
        rw [← hlo] at HR
        clear hone
        generalize smallB (bytesOf s) = sm at HQR HQN ⊢
        generalize greatB (bytesOf s) = gr at HQR HQN ⊢
        by_cases hsg : sm = true ∧ gr = true
        · obtain ⟨rfl, rfl⟩ := hsg
          have HN := Aside0.mk (HQN.out rfl rfl)
          go_wp2
          go_ret3
          exact ⟨IsUn.no HN.out, HB.out⟩
        · have HX := Aside0.mk (HQR.out (by cases sm <;> cases gr <;> simp_all))
          have hsg2 : (sm = false ∧ gr = false) ∨ (sm = false ∧ gr = true) ∨ (sm = true ∧ gr = false) := by cases sm <;> cases gr <;> simp_all
          clear HQR HQN hsg
          by_cases hbad : one < 1 ∨ (s.size : Int) < one + 7
          · have HN : Aside0 (decP (bytesOf s) = none) := ⟨by rw [HX.out]; unfold decR; rw [if_pos hbad]⟩
            rcases hsg2 with ⟨rfl, rfl⟩ | ⟨rfl, rfl⟩ | ⟨rfl, rfl⟩
            all_goals
              rcases hbad with hbad | hbad
              all_goals
                go_wp2
                all_goals
                  go_ret3
                  exact ⟨IsUn.no HN.out, HB.out⟩
          · obtain ⟨m, rfl⟩ : ∃ m : Nat, one = m := ⟨one.toNat, by omega⟩
            have hm1 : 1 ≤ m := by omega
            have hm7 : m + 7 ≤ s.size := by omega
            have HR2 := HX.out
            unfold decR at HR2
            rw [if_neg hbad, Int.toNat_natCast] at HR2
            have HX2 := Aside0.mk HR2
            clear hbad HX HR2 ho1 ho2
            obtain ⟨Al, cl, e8⟩ := Kd.R_slice HR.out
            subst e8
            have hcl := (Kd.R_reads' HR.out).2.1
            have hCl := (Kd.R_reads' HR.out).2.2
            rw [HLL.out] at hcl hCl ⊢
            obtain ⟨ad, rfl, _⟩ := C_cells hCl (by omega)
            have HCl := Aside0.mk hCl
            clear hCl
            obtain ⟨wz, rfl⟩ : ∃ wz : World, wz = wr := ⟨_, rfl⟩
            obtain ⟨d, hd⟩ : ∃ d, d = lo.drop (m + 1) := ⟨_, rfl⟩
            obtain ⟨n2, hn2⟩ : ∃ n2, n2 = s.size - (m + 1) := ⟨_, rfl⟩
            obtain ⟨a2, ha2⟩ : ∃ a2 : Addr, a2 = ⟨ad.block, ad.off + (m + 1), none⟩ := ⟨_, rfl⟩
            have HDL : Aside0 (d.length = n2) := ⟨by rw [hd, List.length_drop, HLL.out, hn2]⟩
            have HCD : Aside0 (Kd.C (Kd.int .u8) wz (some a2) n2 d) := ⟨by
              have h := Kd.C_drop (k := Kd.int .u8) (xs := lo) (m := m + 1) (c := cl) (A := some ad) (w := wz) (by rw [HLL.out]; exact HCl.out) (by rw [HLL.out]; omega) (by rw [HLL.out]; exact hcl)
              rw [if_neg (by omega), ← hd, HDL.out] at h
              have e : (some ad).map (fun x : Addr => x.add ((m + 1) * (Kd.int .u8).sz)) = some a2 := by
                rw [ha2, show (Kd.int .u8).sz = 1 from rfl, Nat.mul_one]
                simp [Addr.add]
              rw [e] at h
              exact h⟩
            have HRA : Aside0 ((Kd.int .u8).R 5 (wz.alloc (.cells #[] 5)) wz.heap.size (fun _ => True) (.slice (some ⟨wz.heap.size, 0, none⟩) 0 0) []) := ⟨by
              have h := own_lit wz wz.heap.size 5 .u8 [] (Nat.le_refl _) (by simp)
              exact Kd.R_of_own (enc := Value.int .u8) (h1 := fun _ => rfl) (xs := []) h (fun _ _ => trivial)⟩
            have HBA := Aside0.mk (below_alloc (Below.refl wz.heap.size wz) (.cells #[] 5 (0, 0)))
            have HDR : Aside0 (∀ x ∈ d, 0 ≤ x ∧ x < 256) := ⟨fun x hx => by
              rw [hd] at hx
              have hx2 := List.mem_of_mem_drop hx
              rw [hlo] at hx2
              obtain ⟨b, hb, rfl⟩ := List.mem_map.1 hx2
              have := bytesOf_range s b hb
              unfold lowI
              split <;> omega⟩
            have HD := Aside0.mk hd
            have HN2 := Aside0.mk hn2
            have hn2p : n2 ≤ 90 := by omega
            have hn26 : 6 ≤ n2 := by omega
            clear hd
            rcases hsg2 with ⟨rfl, rfl⟩ | ⟨rfl, rfl⟩ | ⟨rfl, rfl⟩
            all_goals
              go_wp2
              rw [← hn2, ← ha2]
              clear hn2 ha2
              revert HRA HBA
              generalize wz.alloc (.cells #[] 5) = W
              intro HRA HBA
              go_loopw [11, 95] (fun v11 v95 wq => ∃ j : Nat, v95 = .int .i64 j ∧ j ≤ n2 ∧ Aside0 (okL (d.take j) = true) ∧ Aside0 ((Kd.int .u8).R 5 wq wz.heap.size (fun _ => True) v11 ((d.take j).map idxI)) ∧ Aside0 (Below wz.heap.size wz wq)) (fun _ v95 _ => n2 - (intOf v95).toNat)
              case atStart => exact ⟨0, rfl, Nat.zero_le _, ⟨rfl⟩, HRA, HBA⟩
              case round =>
                obtain ⟨j, rfl, hj, HV2, HR2, HB2⟩ := hrel
                clear HRA HBA
                have HC2 := Aside0.mk (Kd.C_below HCD.out HB2.out)
                by_cases hlt2 : j < n2
                · have kd := Kd.foot_int HC2.out (j : Int) (by omega) (by omega)
                  rw [show rd d (j : Int) = d.getD j 0 by simp [rd], Int.toNat_natCast] at kd
                  have hjd : j < d.length := by rw [HDL.out]; exact hlt2
                  have HTK2 : Aside0 (d.take (j + 1) = d.take j ++ [d.getD j 0]) := ⟨by rw [List.take_succ_eq_append_getElem hjd, List.getD_eq_getElem?_getD, List.getElem?_eq_getElem hjd]; rfl⟩
                  have HME2 : Aside0 (d.getD j 0 ∈ d) := ⟨by rw [List.getD_eq_getElem?_getD, List.getElem?_eq_getElem hjd]; exact List.getElem_mem _⟩
                  obtain ⟨x, hx⟩ : ∃ x, x = d.getD j 0 := ⟨_, rfl⟩
                  rw [← hx] at kd HTK2 HME2
                  obtain ⟨hx0, hx1⟩ := HDR.out x HME2.out
                  obtain ⟨_, g1, g2, g3⟩ := idx_at x hx0 hx1
                  have HIX := Aside0.mk (fun w2 => PFnUnBech32.spec_indexOf.calls 40 csA x (idxI x) w2 g1)
                  have HOKB : Aside0 (idxI x < 0 → okL d = false) := ⟨fun h => ok_bad _ x HME2.out h⟩
                  have HOKG : Aside0 (0 ≤ idxI x → okL (d.take (j + 1)) = true) := ⟨fun h => by rw [HTK2.out]; exact ok_snoc _ _ HV2.out h⟩
                  have HMP2 : Aside0 ((d.take (j + 1)).map idxI = (d.take j).map idxI ++ [idxI x]) := ⟨by rw [HTK2.out, List.map_append]; rfl⟩
                  have HL3 : Aside0 (((d.take j).map idxI).length = j) := ⟨by simp; omega⟩
                  clear hx hjd g1
                  generalize idxI x = y at HIX HOKB HOKG HMP2 g2 g3
                  by_cases hneg : y < 0
                  · have HN : Aside0 (decP (bytesOf s) = none) := ⟨by rw [HX2.out, ← HD.out, if_pos (HOKB.out hneg)]⟩
                    go_wp2_with (first
                      | (go_at_call 14; refine (HIX.out _).mono ?_; rintro e w5 ⟨rfl, d5⟩; have HB5 := Aside0.mk (below_step HB2.out d5.below); clear d5)
                      | fail)
                    go_ret3
                    exact ⟨IsUn.no HN.out, below_then HB.out HB.out.size HB5.out⟩
                  · have hy0 : 0 ≤ y := by omega
                    go_wp2_with (first
                      | (go_at_call 14; refine (HIX.out _).mono ?_; rintro e w5 ⟨rfl, d5⟩; have HB5 := Aside0.mk (below_step HB2.out d5.below); have HR5 := Aside0.mk (Kd.R_below HR2.out d5.below); clear d5)
                      | (at_builtin; refine Kd.R_append (Kd.int .u8) (w0 := wz) wz.heap.size rfl (.tmp 103) (.tmp 106) 22 5 (.int .u8 0) 1 rfl Tryd.underlying22 info5 rfl (by decide) (by decide) _ _ y [.int .u8 y] (fun _ => True) (fun _ => False) rfl rfl rfl (fun _ hk => hk.elim) (fun _ _ => trivial) HR5.out HB5.out HB5.out.size (by rw [HL3.out]; omega) ?_; intro v6 w6 hR6 hb6 _ _; have HR6 := Aside0.mk hR6; have HB6 := Aside0.mk hb6; clear hR6 hb6)
                      | fail)
                    go_roundw
                    case rel => exact ⟨j + 1, by go_num, by omega, ⟨HOKG.out hy0⟩, ⟨by rw [HMP2.out]; exact HR6.out⟩, HB6⟩
                    case measure => simp [intOf]; omega
                · obtain rfl : j = n2 := by omega
                  rw [show d.take j = d by rw [List.take_of_length_le]; rw [HDL.out]; exact Nat.le_refl _] at HV2 HR2
                  obtain ⟨g, hg⟩ : ∃ g, g = d.map idxI := ⟨_, rfl⟩
                  obtain ⟨hh, hhd⟩ : ∃ hh, hh = lo.take m := ⟨_, rfl⟩
                  have hX := HX2.out
                  rw [← HD.out, if_neg (by rw [HV2.out]; decide), ← hhd, ← hg] at hX
                  rw [← hg] at HR2
                  have hgl : g.length = j := by rw [hg, List.length_map, HDL.out]
                  have hhl : hh.length = m := by rw [hhd, List.length_take, HLL.out]; omega
                  have hgr : ∀ x ∈ g, 0 ≤ x ∧ x < 32 := fun x hx => by
                    rw [hg] at hx
                    obtain ⟨c, hc, rfl⟩ := List.mem_map.1 hx
                    have h1 := of_decide_eq_true (List.all_eq_true.1 HV2.out c hc)
                    have h2 := HDR.out c hc
                    exact ⟨h1, (idx_at c h2.1 h2.2).2.2.2⟩
                  have hgn : nums64 (g.map Int.toNat) = g := by
                    unfold nums64
                    rw [List.map_map]
                    have e : ∀ x ∈ g, ((fun v : Nat => (v : Int)) ∘ Int.toNat) x = x := fun x hx => by
                      have := (hgr x hx).1
                      simp only [Function.comp_apply]
                      omega
                    rw [List.map_congr_left e]; simp
                  have hhr : ∀ c ∈ hh, 0 ≤ c ∧ c < 256 := fun c hc => by
                    rw [hhd] at hc
                    have h2 := List.mem_of_mem_take hc
                    rw [hlo] at h2
                    obtain ⟨b, hb, rfl⟩ := List.mem_map.1 h2
                    have := bytesOf_range s b hb
                    unfold lowI
                    split <;> omega
                  obtain ⟨t, ht⟩ : ∃ t, t = strOfNums hh := ⟨_, rfl⟩
                  have hbt : bytesOf t = hh := by rw [ht]; exact bytesOf_nums _ hhr
                  have hts : t.size = m := by rw [← bytesOf_length, hbt, hhl]
                  have HEX := Aside0.mk (fun w2 : World => expanded_calls t (by omega) w2)
                  obtain ⟨M, hM⟩ : ∃ M, M = (expN hh ++ g.map Int.toNat).length := ⟨_, rfl⟩
                  obtain ⟨p, hp⟩ : ∃ p, p = poly 1 (expN hh ++ g.map Int.toNat) := ⟨_, rfl⟩
                  have HREM : Aside0 (∀ (A : Option Addr) (c : Nat) (w2 : World), Kd.C (Kd.int .u8) w2 A M (nums64 (expN hh) ++ g) → Calls Tryd.prog 15 #[.slice A M c] w2 fun e w' => e = .returned (.int .u32 p) ∧ Below w2.heap.size w2 w') := ⟨fun A c w2 h => by
                    rw [hp, hM]
                    refine remainder_calls A c _ w2 (by rw [← hM, nums_append, hgn]; exact h) (fun v hv => ?_)
                    rcases List.mem_append.1 hv with g1 | g1
                    · have := expN_lt hhr v g1; omega
                    · obtain ⟨x, hx, rfl⟩ := List.mem_map.1 g1
                      have := hgr x hx
                      omega⟩
                  rw [hbt] at HEX
                  rw [← hp] at hX
                  have hML : M = (nums64 (expN hh)).length + j := by rw [hM, List.length_append, nums64_length, List.length_map, hgl]
                  have hEl : (nums64 (expN hh)).length ≤ 1000 := by rw [nums64_length, expN_length, hhl]; omega
                  have HX3 := Aside0.mk hX
                  have HT := Aside0.mk ht
                  have HGL := Aside0.mk hgl
                  have HML := Aside0.mk hML
                  have HEL := Aside0.mk hEl
                  have hCh : Kd.C (Kd.int .u8) wr (some ad) m hh := by
                    have h := Kd.C_take (k := Kd.int .u8) (xs := lo) (m := m) (A := some ad) (w := wr) (by rw [HLL.out]; exact Kd.C_below HCl.out HB2.out) (by rw [HLL.out]; omega)
                    rw [← hhd, hhl] at h
                    exact h
                  have hcv := Kd.C_string (P := Tryd.prog) (A := some ad) (c := cl) Tryd.underlying22 Tryd.underlying5 Tryd.underlying9 hCh
                  rw [← ht] at hcv
                  obtain ⟨A2, c2, e2⟩ := Kd.R_slice HR2.out
                  subst e2
                  rw [hgl] at HR2 ⊢
                  generalize nums64 (expN hh) = E at HEX HREM HML HEL
                  clear hX ht hgl hML hEl hCh hgr hgn hhr hhl hbt hM hp hhd hg
                  have hcc := (Kd.R_reads' HR2.out).2.1
                  have HCg : Aside0 (Kd.C (Kd.int .u8) wr A2 j g) := ⟨by have h := (Kd.R_reads' HR2.out).2.2; first | exact h | (rw [HGL.out] at h; exact h)⟩
                  have HJ : Aside0 (j = s.size - (m + 1)) := HN2
                  obtain ⟨q, rfl⟩ : ∃ q, j = q + 6 := ⟨j - 6, by omega⟩
                  have HX4 : Aside0 (decP (bytesOf s) = if p ≠ 1 then none else some (hh, g.take q)) := ⟨by rw [HX3.out, show s.size - m - 7 = q by have := HJ.out; omega]⟩
                  by_cases hpe : p = 1
                  · subst hpe
                    have HN : Aside0 (decP (bytesOf s) = some (hh, g.take q)) := ⟨by rw [HX4.out, if_neg (by decide)]⟩
                    go_wp2_with (first
                      | (go_at_call 16; refine (HEX.out _).mono ?_; rintro e w6 ⟨v6, rfl, hR6, hb6⟩; obtain ⟨A6, c6, rfl⟩ := Kd.R_slice hR6; have HB6 := Aside0.mk hb6; have HR6 := Aside0.mk hR6; have HC6 := Aside0.mk (Kd.C_below HCg.out hb6); clear hR6 hb6)
                      | ((with_reducible refine gate_builtin (b := .append) (xs := #[.tmp 114, .tmp 115]) rfl ?_); refine Kd.R_append_row (h1 := fun _ => rfl) (w0 := wr) (Value.int .u8) (0 : Int) wr.heap.size rfl _ _ 22 5 (.int .u8 0) 1 rfl Tryd.underlying22 info5 rfl (by decide) (.slice A6 E.length c6) E g A2 (q + 6) c2 (fun _ => True) rfl rfl (fun _ _ => trivial) HR6.out HC6.out HB6.out HB6.out.size (by have := HEL.out; omega) ?_; intro v7 w7 hR7 hB7 _ _; obtain ⟨A7, c7, e7⟩ := Kd.R_slice hR7; rw [List.length_append, HGL.out, ← HML.out] at e7; subst e7; have HR7 := Aside0.mk hR7; have HB7 := Aside0.mk hB7; clear hR7 hB7)
                      | (go_at_call 15; refine (HREM.out A7 c7 w7 (by have h := (Kd.R_reads' HR7.out).2.2; rw [List.length_append, HGL.out, ← HML.out] at h; exact h)).mono ?_; rintro e w8 ⟨rfl, hb8⟩; have HB8 := Aside0.mk (below_step HB7.out hb8); clear hb8)
                      | fail)
                    go_region
                    all_goals
                      go_wp2
                      go_ret3
                      exact ⟨IsUn.ok HN.out HT.out.symm HGL.out (Kd.C_below HCg.out HB8.out) (by omega), below_drew (below_then HB.out HB.out.size (below_step HB2.out HB8.out))⟩
                  · have HN : Aside0 (decP (bytesOf s) = none) := ⟨by rw [HX4.out, if_pos hpe]⟩
                    have hpz : ¬ (p : Int) = 1 := by omega
                    go_wp2_with (first
                      | (go_at_call 16; refine (HEX.out _).mono ?_; rintro e w6 ⟨v6, rfl, hR6, hb6⟩; obtain ⟨A6, c6, rfl⟩ := Kd.R_slice hR6; have HB6 := Aside0.mk hb6; have HR6 := Aside0.mk hR6; have HC6 := Aside0.mk (Kd.C_below HCg.out hb6); clear hR6 hb6)
                      | ((with_reducible refine gate_builtin (b := .append) (xs := #[.tmp 114, .tmp 115]) rfl ?_); refine Kd.R_append_row (h1 := fun _ => rfl) (w0 := wr) (Value.int .u8) (0 : Int) wr.heap.size rfl _ _ 22 5 (.int .u8 0) 1 rfl Tryd.underlying22 info5 rfl (by decide) (.slice A6 E.length c6) E g A2 (q + 6) c2 (fun _ => True) rfl rfl (fun _ _ => trivial) HR6.out HC6.out HB6.out HB6.out.size (by have := HEL.out; omega) ?_; intro v7 w7 hR7 hB7 _ _; obtain ⟨A7, c7, e7⟩ := Kd.R_slice hR7; rw [List.length_append, HGL.out, ← HML.out] at e7; subst e7; have HR7 := Aside0.mk hR7; have HB7 := Aside0.mk hB7; clear hR7 hB7)
                      | (go_at_call 15; refine (HREM.out A7 c7 w7 (by have h := (Kd.R_reads' HR7.out).2.2; rw [List.length_append, HGL.out, ← HML.out] at h; exact h)).mono ?_; rintro e w8 ⟨rfl, hb8⟩; have HB8 := Aside0.mk (below_step HB7.out hb8); clear hb8)
                      | fail)
                    go_wp2
                    go_ret3
                    exact ⟨IsUn.no HN.out, below_then HB.out HB.out.size (below_step HB2.out HB8.out)⟩
end Go.Proofs.YthkijnfpllbdnaaDoor.Bec
