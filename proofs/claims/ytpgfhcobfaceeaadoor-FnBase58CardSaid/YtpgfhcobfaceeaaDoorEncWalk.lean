/-
  The walk of base58.Encode.
-/
import Derived.Test.YtpgfhcobfaceeaaDoorTrimWalk
import Derived.Test.YtpgfhcobfaceeaaDoorRevPure
import Derived.BigRegion
namespace Go.Proofs.YtpgfhcobfaceeaaDoor.PFnBase58
open Go.RowKit Go.Proofs.YtpgfhcobfaceeaaDoor.Hand Go.Proofs.YtpgfhcobfaceeaaDoorW.PrintWords Go.Proofs.YtpgfhcobfaceeaaDoorW.PrintLast Go.Proofs.YtpgfhcobfaceeaaDoorW.PrintMore Val PFnUnBase58

def Two (w : World) (B : Nat) (x : Value) (lx : List Int) (y : Value) (ly : List Int) : Prop :=
  (Kd.int .u8).Q 5 w B (fun _ => True) x lx ∧ (Kd.int .u8).R 5 w B (fun _ => True) y ly ∧ ∀ k, x.ownBlock = some k → y.ownBlock = some k → False

theorem two_div {wr w1 : World} {B : Nat} {x y x1 : Value} {lx ly l1 : List Int} (h : Two wr B x lx y ly) (hk : Kept wr w1 (fun k => some k = x.ownBlock)) (hq : (Kd.int .u8).Q 5 w1 B (fun k => some k = x.ownBlock ∨ wr.heap.size ≤ k) x1 l1) : Two w1 B x1 l1 y ly := by
  refine ⟨Kd.Q_mono hq (fun _ _ => trivial), Kd.R_mono (Kd.R_kept (Kd.R_tight2 rfl h.2.1) hk (fun k hk hs => h.2.2 k hs.symm hk.1.symm)) (fun _ _ => trivial), fun k k1 k2 => ?_⟩
  rcases hq.1 k k1 with g | g
  · exact h.2.2 k g.symm k2
  · have := ((Kd.R_bound h.2.1).1 k k2).2.2.1
    omega
theorem two_append {wr w1 : World} {B : Nat} {x y y1 : Value} {lx ly l1 : List Int} (h : Two wr B x lx y ly) (hg : wr.grownBy w1 y.ownBlock) (ho : (Kd.int .u8).R 5 w1 B (fun _ => True) y1 l1) (hat : y1.ownBlock = y.ownBlock ∨ ∃ b, y1.ownBlock = some b ∧ wr.heap.size ≤ b) : Two w1 B x lx y1 l1 := by
  refine ⟨Kd.Q_grown2 h.1 rfl hg (fun k k1 k2 => h.2.2 k k2.symm k1), ho, fun k k1 k2 => ?_⟩
  rcases hat with g | ⟨b, g1, g2⟩
  · exact h.2.2 k k1 (g ▸ k2)
  · have := Kd.Q_lt h.1 k k1
    rw [g1] at k2
    injection k2 with k2
    omega
theorem two_start {w1 w2 : World} {B m : Nat} {v1 : Value} {l : List Int} (h : (Kd.int .u8).R 5 w1 B (fun _ => True) v1 l) (hg : w1.grownBy w2 none) (ho : w2.ownsRow B 5 1 (.slice (some ⟨w1.heap.size, 0, none⟩) 0 m) 0 []) : Two w2 B v1 l (.slice (some ⟨w1.heap.size, 0, none⟩) 0 m) [] := by
  refine ⟨Kd.Q_of_R (Kd.R_grown2 h rfl hg (fun k hk => by cases hk)), Kd.R_of_own (enc := Value.int .u8) (h1 := fun _ => rfl) (xs := []) ho (fun _ _ => trivial), fun k k1 k2 => ?_⟩
  have := ((Kd.R_bound h).1 k k1).2.2.1
  simp [Value.ownBlock] at k2
  omega
theorem own_form {w : World} {B e n c : Nat} {A : Option Addr} {xs : List Value} (h : w.ownsRow B e 1 (.slice A n c) n xs) (hn : 0 < n) : ∃ g, A = some ⟨g, 0, none⟩ := by
  rcases h.2 with ⟨h1, h2⟩ | ⟨g, cap, cur, h1, _⟩
  · have := h.1
    rw [h2] at this
    simp at this
    omega
  · injection h1 with a
    exact ⟨g, a⟩
/-- Two stores into a row of one's own. -/
theorem own_swap {W : World} {B g n c : Nat} {xs : List Int} (h : W.ownsRow B 5 1 (.slice (some ⟨g, 0, none⟩) n c) n (nums .u8 xs)) (i j : Nat) (x y : Int) :
    ((W.setCell ⟨g, i, none⟩ (.int .u8 x)).setCell ⟨g, j, none⟩ (.int .u8 y)).ownsRow B 5 1 (.slice (some ⟨g, 0, none⟩) n c) n (nums .u8 ((xs.set i x).set j y)) := by
  have h1 := (own_store h (i : Int) x).1
  have h2 := (own_store h1 (j : Int) y).1
  simpa using h2

theorem val_one {x : List Int} (hl : Lead x) (hr : ∀ y ∈ x, 0 ≤ y ∧ y < 256) (h : val 256 x < 58 ^ 0) : x = [] := lead_zero hl hr (by simpa using h)

/-- One digit more. -/
theorem enc_step {k : Nat} {lx : List Int} (hn : lx ≠ []) (hr : ∀ y ∈ lx, 0 ≤ y ∧ y < 256) (h : val 256 lx < 58 ^ (k + 1)) (hlen : lx.length ≤ 200) :
    enc (k + 1) lx = (quot 0 lx).2 :: enc k (strip (quot 0 lx).1) ∧ Lead (strip (quot 0 lx).1) ∧ (∀ y ∈ strip (quot 0 lx).1, 0 ≤ y ∧ y < 256) ∧ val 256 (strip (quot 0 lx).1) < 58 ^ k ∧ (strip (quot 0 lx).1).length ≤ 200 ∧ 0 ≤ (quot 0 lx).2 ∧ (quot 0 lx).2 < 58 := by
  obtain ⟨a, b, c, d, e⟩ := quot_facts lx 0 (by decide) (by decide) hr
  obtain ⟨s1, s2, s3, s4⟩ := strip_facts (quot 0 lx).1
  rw [Int.zero_mul, Int.zero_add, ← s1] at a
  rw [Int.pow_succ] at h
  exact ⟨by rw [enc, if_neg hn], s2, fun y hy => c y (s3 y hy), by omega, by omega, d, e⟩

def alph : ByteArray := ⟨#[49, 50, 51, 52, 53, 54, 55, 56, 57, 65, 66, 67, 68, 69, 70, 71, 72, 74, 75, 76, 77, 78, 80, 81, 82, 83, 84, 85, 86, 87, 88, 89, 90, 97, 98, 99, 100, 101, 102, 103, 104, 105, 106, 107, 109, 110, 111, 112, 113, 114, 115, 116, 117, 118, 119, 120, 121, 122]⟩

theorem zeros_lt {b : List Int} {n : Nat} (h : n < zeros b) : n < b.length ∧ b.getD n 0 = 0 := by
  have h1 := zeros_le b
  have h2 := zeros_strip b
  refine ⟨by omega, ?_⟩
  rw [h2, List.getD_eq_getElem?_getD, List.getElem?_append_left (by simpa using h)]
  simp [h]
theorem zeros_end {b : List Int} (h : zeros b < b.length) : b.getD (zeros b) 0 ≠ 0 := by
  have h2 := zeros_strip b
  obtain ⟨x, r, e⟩ : ∃ x r, strip b = x :: r := by
    rcases hs : strip b with _ | ⟨x, r⟩
    · rw [hs] at h2
      have := congrArg List.length h2
      simp at this
      omega
    · exact ⟨x, r, rfl⟩
  have h3 := (strip_facts b).2.1 x r e
  obtain ⟨z, hz⟩ : ∃ z, z = zeros b := ⟨_, rfl⟩
  rw [← hz] at h2 ⊢
  rw [h2, e, List.getD_eq_getElem?_getD, List.getElem?_append_right (by simp)]
  simpa using h3

theorem rows_cell {w : World} {ad : Addr} {b : List Int} (h : ∀ j v, (b.map (Value.int .u8))[j]? = some v → w.cell? (ad.add j) = some v) (j : Nat) (hj : j < b.length) : w.cell? (ad.add j) = some (.int .u8 (b.getD j 0)) :=
  h j _ (by simp [List.getElem?_map, List.getD_eq_getElem?_getD, List.getElem?_eq_getElem hj])

set_option maxHeartbeats 8000000 in
set_option maxRecDepth 100000 in
theorem enc_calls (A : Option Addr) (c : Nat) (b : List Int) (w : World) (hC : Kd.C (Kd.int .u8) w A b.length b) (hc : b.length ≤ c) (hb : b.length ≤ 200) (hr : ∀ x ∈ b, 0 ≤ x ∧ x < 256) :
    Calls Tryd.prog 18 #[.slice A b.length c] w fun e w' => e = .returned (.string (strOfNums (txt b))) ∧ Below w.heap.size w w' := by
  have HC := Aside0.mk hC
  have HR := Aside0.mk hr
  obtain ⟨i0, hi, hz0, hz1, hz2⟩ := info_parts info5
  clear hC hr
  obtain ⟨m, hm⟩ : ∃ m, m = b.length * 136 / 100 := ⟨_, rfl⟩
  have hm2 : m ≤ 300 := by omega
  have hcap2 : ((b.length : Int) * 136) / 100 = (m : Int) := by omega
  clear hm
  obtain ⟨K, hK⟩ : ∃ K, K = 2 * (strip b).length := ⟨_, rfl⟩
  have HE : Aside0 (val 256 (strip b) < 58 ^ K) := ⟨by rw [hK]; exact enough _ (strip_range HR.out)⟩
  have hs4 := (strip_facts b).2.2.2
  have hK2 : K ≤ 400 := by omega
  have HS4 := Aside0.mk hs4
  clear hK hs4
  go_enter Tryd.func18, Tryd.ntmps18
  go_wp2_with (first
    | (go_at_call 24; refine (trim_calls A c b w HC.out hc (by omega)).mono ?_; rintro e w1 ⟨v1, rfl, hR1, hB1⟩; have HR1 := Aside0.mk hR1; have HB1 := Aside0.mk hB1; clear hR1 hB1)
    | (at_make; refine wpList_make_own w1 rfl _ _ 22 rfl w.heap.size 5 i0 (.int .u8 0) 1 Tryd.underlying22 hi hz0 hz1 .i64 .i64 _ m rfl rfl hcap2 (by rw [hz2]; omega) (by unfold maxLen; omega) HB1.out.size ?_; intro w2 hown hgrow; have HT := Aside0.mk (two_start HR1.out hgrow hown); have HB2 := Aside0.mk (HB1.out.grown hgrow HB1.out.size (fun _ h => by cases h)); clear hown hgrow)
    | fail)
  obtain ⟨A1, c1, e1⟩ := Kd.R_slice HR1.out
  subst e1
  go_loopg [3, 4] K (fun kq v3 v4 wr => ∃ (A3 : Option Addr) (c3 : Nat) (lx : List Int) (ly : List Int), v3 = .slice A3 lx.length c3 ∧ Aside0 (kq ≤ K) ∧ Aside0 (Two wr w.heap.size v3 lx v4 ly) ∧ Aside0 (Below w.heap.size w wr) ∧ Aside0 (Lead lx ∧ (∀ y ∈ lx, 0 ≤ y ∧ y < 256) ∧ val 256 lx < 58 ^ kq ∧ lx.length ≤ 200) ∧ Aside0 (ly ++ (enc kq lx).map aOf = (enc K (strip b)).map aOf))
  case atStart => exact ⟨A1, c1, strip b, [], rfl, ⟨Nat.le_refl _⟩, HT, HB2, ⟨(strip_facts b).2.1, strip_range HR.out, HE.out, by have := HS4.out; omega⟩, ⟨rfl⟩⟩
  case round =>
    obtain ⟨A3, c3, lx, ly, rfl, HKq, HT1, HB3, HL, HX⟩ := hrel
    clear HT HB2 HR1 HB1
    by_cases hn : lx = []
    · subst hn
      simp only [List.length_nil]
      have HX2 : Aside0 (ly = (enc K (strip b)).map aOf) := ⟨by rw [← HX.out, enc_nil]; simp⟩
      have HLn : Aside0 (ly.length ≤ 400) := ⟨by rw [HX2.out, List.length_map]; exact Nat.le_trans (enc_len _ _) hK2⟩
      clear HX
      go_wp2
      go_loopw [4, 32] (fun v4 v32 wr => ∃ (n : Nat) (ly2 : List Int), v32 = .int .i64 n ∧ n ≤ zeros b ∧ Aside0 ((Kd.int .u8).R 5 wr w.heap.size (fun _ => True) v4 ly2) ∧ Aside0 (ly2 = ly ++ List.replicate n 49) ∧ Aside0 (Below w.heap.size w wr)) (fun _ v32 _ => zeros b - (intOf v32).toNat)
      case atStart => exact ⟨0, ly, rfl, Nat.zero_le _, ⟨HT1.out.2.1⟩, ⟨by simp⟩, HB3⟩
      case round =>
        obtain ⟨n, ly2, rfl, hnz, HO, HY, HB4⟩ := hrel
        clear HB3 HT1
        have hzl := zeros_le b
        by_cases hlt : n < zeros b
        · obtain ⟨z1, z2⟩ := zeros_lt hlt
          obtain ⟨ad, rfl, hcell⟩ := C_cells (Kd.C_below HC.out HB4.out) (by omega)
          have kn := rows_cell hcell n z1
          rw [z2] at kn
          clear hcell z2
          have hYl : ly2.length ≤ 600 := by rw [HY.out]; have := HLn.out; simp; omega
          have HYL := Aside0.mk hYl
          clear hYl
          go_wp2_with (first | ((with_reducible refine gate_builtin (b := .append) (xs := #[.tmp 38, .tmp 39]) rfl ?_); at_builtin; refine Kd.R_append (Kd.int .u8) (w0 := w) w.heap.size rfl (.tmp 38) (.tmp 39) 22 5 (.int .u8 0) 1 rfl Tryd.underlying22 info5 rfl (by decide) (by omega) _ ly2 49 [.int .u8 49] (fun _ => True) (fun _ => False) rfl rfl rfl (fun _ hk => hk.elim) (fun _ _ => trivial) HO.out HB4.out HB4.out.size (by have := HYL.out; omega) ?_; intro v5 w5 ho hb hg hat; have HO5 := Aside0.mk ho; have HB5 := Aside0.mk hb; clear ho hb hg hat) | fail)
          go_roundw
          case rel => exact ⟨n + 1, ly2 ++ [49], by go_num, by omega, HO5, ⟨by rw [HY.out, List.append_assoc, List.replicate_succ']⟩, HB5⟩
          case measure => simp [intOf]; omega
        · obtain rfl : n = zeros b := by omega
          have HY2 : Aside0 (ly2.reverse = txt b) := ⟨by rw [HY.out, HX2.out]; exact enc_txt K b HR.out HE.out⟩
          have HYL : Aside0 (ly2.length ≤ 600) := ⟨by rw [HY.out]; have := HLn.out; simp; omega⟩
          obtain ⟨A4, c4, e4⟩ := Kd.R_slice HO.out
          subst e4
          obtain ⟨N, hN⟩ : ∃ N, N = ly2.length := ⟨_, rfl⟩
          have HN := Aside0.mk hN
          rw [← hN] at HO HYL ⊢
          have hN6 : N ≤ 600 := HYL.out
          clear hN HY HX2 HLn hnz hlt
          by_cases hlt : zeros b < b.length
          · obtain ⟨ad, rfl, hcell⟩ := C_cells (Kd.C_below HC.out HB4.out) (by omega)
            have kn := rows_cell hcell _ hlt
            have kz := zeros_end hlt
            obtain ⟨x, hx⟩ : ∃ x, x = b.getD (zeros b) 0 := ⟨_, rfl⟩
            rw [← hx] at kn kz
            have bz : (x != 0) = true := by simp [kz]
            clear hcell hx kz
            go_wp2
            go_loopw [9] (fun v9 wr2 => ∃ (n : Nat) (cur : List Int), v9 = .int .i64 n ∧ n ≤ N / 2 ∧ Aside0 ((Kd.int .u8).R 5 wr2 w.heap.size (fun _ => True) (.slice A4 N c4) cur) ∧ Aside0 (Rv ly2 n cur) ∧ Aside0 (Below w.heap.size w wr2)) (fun v9 _ => N / 2 - (intOf v9).toNat)
            case atStart => exact ⟨0, ly2, rfl, Nat.zero_le _, HO, ⟨rv_start _⟩, HB4⟩
            case round =>
              obtain ⟨n, cur, rfl, hn2, HO2, HV, HB5⟩ := hrel
              clear HO HB4
              by_cases hlt2 : n < N / 2
              · have hcl : cur.length = N := by rw [HV.out.len, ← HN.out]
                have hown := Kd.own_of_R HO2.out
                rw [hcl] at hown
                obtain ⟨g, rfl⟩ := own_form hown (by omega)
                obtain ⟨f1, f2⟩ := own_at hown (n : Int) (by omega) (by omega)
                obtain ⟨f3, f4⟩ := own_at hown ((N - 1 - n : Nat) : Int) (by omega) (by omega)
                simp only [Int.toNat_natCast] at f1 f2 f3 f4
                obtain ⟨x1, hx1⟩ : ∃ x1, x1 = rd cur (n : Int) := ⟨_, rfl⟩
                obtain ⟨x2, hx2⟩ : ∃ x2, x2 = rd cur ((N - 1 - n : Nat) : Int) := ⟨_, rfl⟩
                rw [← hx1] at f1
                rw [← hx2] at f3
                have HSW := Aside0.mk (own_swap hown n (N - 1 - n) x2 x1)
                have HV2 : Aside0 (Rv ly2 (n + 1) ((cur.set n x2).set (N - 1 - n) x1)) := ⟨by
                  have := rv_step HV.out (by rw [← HN.out]; exact hlt2)
                  rw [← HN.out] at this
                  rw [hx1, hx2]
                  simpa [rd] using this⟩
                have HCL := Aside0.mk hcl
                have HGB : Aside0 (w.heap.size ≤ g) := ⟨((Kd.R_bound HO2.out).1 g rfl).2.1⟩
                clear hcl hown hx1 hx2
                have q1 : (n : Int) < (N : Int) / 2 := by omega
                have q2 : (0 : Int) ≤ (N : Int) - 1 - (n : Int) := by omega
                have q3 : (N : Int) - 1 - (n : Int) < (N : Int) := by omega
                have q4 : (n : Int) < (N : Int) := by omega
                go_wp2
                go_region
                all_goals
                  go_wp2
                  go_roundw
                  case rel => exact ⟨n + 1, (cur.set n x2).set (N - 1 - n) x1, by go_num, by omega, ⟨by
                    have h := HSW.out
                    have e : ((cur.set n x2).set (N - 1 - n) x1).length = N := by simp [HCL.out]
                    apply Kd.R_drew
                    exact Kd.R_of_own (enc := Value.int .u8) (h1 := fun _ => rfl) (by rw [e]; exact h) (fun _ _ => trivial)⟩, HV2, ⟨below_drew ((HB5.out.setCell HGB.out _).setCell HGB.out _)⟩⟩
                  case measure => simp [intOf]; omega
              · obtain rfl : n = N / 2 := by omega
                have hfin : cur = txt b := by
                  have h := HV.out
                  rw [HN.out] at h
                  rw [rv_end h]; exact HY2.out
                subst hfin
                have hcl := HV.out.len
                rw [← HN.out] at hcl
                have hcv := own_string (P := Tryd.prog) Tryd.underlying22 Tryd.underlying5 Tryd.underlying9 (Kd.own_of_R HO2.out)
                go_wp2
                go_ret
                exact ⟨rfl, HB5.out⟩
          · go_wp2
            go_loopw [9] (fun v9 wr2 => ∃ (n : Nat) (cur : List Int), v9 = .int .i64 n ∧ n ≤ N / 2 ∧ Aside0 ((Kd.int .u8).R 5 wr2 w.heap.size (fun _ => True) (.slice A4 N c4) cur) ∧ Aside0 (Rv ly2 n cur) ∧ Aside0 (Below w.heap.size w wr2)) (fun v9 _ => N / 2 - (intOf v9).toNat)
            case atStart => exact ⟨0, ly2, rfl, Nat.zero_le _, HO, ⟨rv_start _⟩, HB4⟩
            case round =>
              obtain ⟨n, cur, rfl, hn2, HO2, HV, HB5⟩ := hrel
              clear HO HB4
              by_cases hlt2 : n < N / 2
              · have hcl : cur.length = N := by rw [HV.out.len, ← HN.out]
                have hown := Kd.own_of_R HO2.out
                rw [hcl] at hown
                obtain ⟨g, rfl⟩ := own_form hown (by omega)
                obtain ⟨f1, f2⟩ := own_at hown (n : Int) (by omega) (by omega)
                obtain ⟨f3, f4⟩ := own_at hown ((N - 1 - n : Nat) : Int) (by omega) (by omega)
                simp only [Int.toNat_natCast] at f1 f2 f3 f4
                obtain ⟨x1, hx1⟩ : ∃ x1, x1 = rd cur (n : Int) := ⟨_, rfl⟩
                obtain ⟨x2, hx2⟩ : ∃ x2, x2 = rd cur ((N - 1 - n : Nat) : Int) := ⟨_, rfl⟩
                rw [← hx1] at f1
                rw [← hx2] at f3
                have HSW := Aside0.mk (own_swap hown n (N - 1 - n) x2 x1)
                have HV2 : Aside0 (Rv ly2 (n + 1) ((cur.set n x2).set (N - 1 - n) x1)) := ⟨by
                  have := rv_step HV.out (by rw [← HN.out]; exact hlt2)
                  rw [← HN.out] at this
                  rw [hx1, hx2]
                  simpa [rd] using this⟩
                have HCL := Aside0.mk hcl
                have HGB : Aside0 (w.heap.size ≤ g) := ⟨((Kd.R_bound HO2.out).1 g rfl).2.1⟩
                clear hcl hown hx1 hx2
                have q1 : (n : Int) < (N : Int) / 2 := by omega
                have q2 : (0 : Int) ≤ (N : Int) - 1 - (n : Int) := by omega
                have q3 : (N : Int) - 1 - (n : Int) < (N : Int) := by omega
                have q4 : (n : Int) < (N : Int) := by omega
                go_wp2
                go_region
                all_goals
                  go_wp2
                  go_roundw
                  case rel => exact ⟨n + 1, (cur.set n x2).set (N - 1 - n) x1, by go_num, by omega, ⟨by
                    have h := HSW.out
                    have e : ((cur.set n x2).set (N - 1 - n) x1).length = N := by simp [HCL.out]
                    apply Kd.R_drew
                    exact Kd.R_of_own (enc := Value.int .u8) (h1 := fun _ => rfl) (by rw [e]; exact h) (fun _ _ => trivial)⟩, HV2, ⟨below_drew ((HB5.out.setCell HGB.out _).setCell HGB.out _)⟩⟩
                  case measure => simp [intOf]; omega
              · obtain rfl : n = N / 2 := by omega
                have hfin : cur = txt b := by
                  have h := HV.out
                  rw [HN.out] at h
                  rw [rv_end h]; exact HY2.out
                subst hfin
                have hcl := HV.out.len
                rw [← HN.out] at hcl
                have hcv := own_string (P := Tryd.prog) Tryd.underlying22 Tryd.underlying5 Tryd.underlying9 (Kd.own_of_R HO2.out)
                go_wp2
                go_ret
                exact ⟨rfl, HB5.out⟩
    · obtain ⟨hl1, hl2, hl3, hl4⟩ := HL.out
      cases gk with
      | zero => exact absurd (val_one hl1 hl2 hl3) hn
      | succ k1 =>
        obtain ⟨s0, s1, s2, s3, s4, s5, s6⟩ := enc_step hn hl2 hl3 hl4
        have hpos : 0 < lx.length := by rcases lx with _ | ⟨x, r⟩ <;> simp_all
        obtain ⟨kk, hkk⟩ := div_f lx (by omega) hl2
        have HKK := Aside0.mk hkk
        obtain ⟨q, hq⟩ : ∃ q, q = (quot 0 lx).2 := ⟨_, rfl⟩
        obtain ⟨lz, hlz⟩ : ∃ lz, lz = strip (quot 0 lx).1 := ⟨_, rfl⟩
        rw [← hq, ← hlz] at HKK
        rw [← hq] at s0 s5 s6
        rw [← hlz] at s0 s1 s2 s3 s4
        have HX3 : Aside0 ((ly ++ [aOf q]) ++ (enc k1 lz).map aOf = (enc K (strip b)).map aOf) := ⟨by rw [← HX.out, s0]; simp⟩
        have HS := Aside0.mk (show Lead lz ∧ (∀ y ∈ lz, 0 ≤ y ∧ y < 256) ∧ val 256 lz < 58 ^ k1 ∧ lz.length ≤ 200 from ⟨s1, s2, s3, s4⟩)
        have hx8 : ∀ h : q.toNat < alph.size, ((alph[q.toNat]'h).toNat : Int) = aOf q := fun h => by have e := bt_at alph q h; rw [e]; exact aOf_bt q s5 s6
        unfold alph at hx8
        have HYL : Aside0 (ly.length ≤ 400) := ⟨by
          have e := congrArg List.length HX3.out
          have := enc_len K (strip b)
          simp at e
          omega⟩
        have g0 : (0 : Int) < (lx.length : Int) := by omega
        clear hl1 hl2 hl3 hl4 hkk hq hlz s0 s1 s2 s3 s4 hn HL hpos
        go_wp2_with (first
          | (go_at_call 25; refine (base58_zzDivMod.calls kk (fun k => some k = (Value.slice A3 lx.length c3).ownBlock) (.slice A3 lx.length c3) lx lz q w wr HB3.out (Kd.Q_tight rfl HT1.out.1) HKK.out).mono ?_; rintro e w4 ⟨v4, rfl, hQ4, hB4, hK4⟩; have HT4 := Aside0.mk (two_div HT1.out hK4 hQ4); have HB4 := Aside0.mk hB4; clear hQ4 hB4 hK4)
          | ((with_reducible refine gate_builtin (b := .append) (xs := #[.tmp 25, .tmp 28]) rfl ?_); at_builtin; refine Kd.R_append (Kd.int .u8) (w0 := w) w.heap.size rfl (.tmp 25) (.tmp 28) 22 5 (.int .u8 0) 1 rfl Tryd.underlying22 info5 rfl (by decide) (by omega) _ ly (aOf q) [.int .u8 (aOf q)] (fun _ => True) (fun _ => False) rfl rfl rfl (fun _ hk => hk.elim) (fun _ _ => trivial) HT4.out.2.1 HB4.out HB4.out.size (by have := HYL.out; omega) ?_; intro v5 w5 ho hb hg hat; have HT5 := Aside0.mk (two_append HT4.out hg ho hat); have HB5 := Aside0.mk hb; clear ho hb hg hat)
          | fail)
        obtain ⟨A5, c5, e5, _⟩ := Kd.Q_slice HT5.out.1
        subst e5
        go_roundg k1
        case measure => have := HKq.out; omega
        case rel => exact ⟨A5, c5, lz, ly ++ [aOf q], rfl, ⟨by have := HKq.out; omega⟩, HT5, HB5, HS, HX3⟩
end Go.Proofs.YtpgfhcobfaceeaaDoor.PFnBase58
