/-
  spec.SortedOuts.
-/
import Derived.Test.YtpggphjnghhmeaaTxPre
import Derived.Deep.RegionHeld3
import Derived.IntWalk
namespace Go.Proofs.Ytpggphjnghhmeaa.Srt
open Go.RowKit Go.Proofs.Ytpggphjnghhmeaa.Hand Go.Proofs.Ytpggphjnghhmeaa.PFnSorted Go.Proofs.YtpggphjnghhmeaaW.PrintWords Go.Proofs.YtpggphjnghhmeaaW.PrintLast Go.Proofs.YtpggphjnghhmeaaW.PrintMore

def rng (l : List Int) : Prop := ∀ a ∈ l, 0 ≤ a ∧ a < 256
def bytesO (l : List S27) : Prop := ∀ y ∈ l, rng y.f1
theorem u8_lt {a b : Int} (ha : 0 ≤ a ∧ a < 256) (hb : 0 ≤ b ∧ b < 256) : (UInt8.ofNat a.toNat < UInt8.ofNat b.toNat) ↔ a < b := by
  rw [UInt8.lt_iff_toNat_lt, UInt8.toNat_ofNat_of_lt' (by show a.toNat < 256; omega), UInt8.toNat_ofNat_of_lt' (by show b.toNat < 256; omega)]
  omega
theorem u8_eq {a b : Int} (ha : 0 ≤ a ∧ a < 256) (hb : 0 ≤ b ∧ b < 256) : (UInt8.ofNat a.toNat = UInt8.ofNat b.toNat) ↔ a = b := by
  rw [← UInt8.toNat_inj, UInt8.toNat_ofNat_of_lt' (by show a.toNat < 256; omega), UInt8.toNat_ofNat_of_lt' (by show b.toNat < 256; omega)]
  omega
theorem bytesLess_is : ∀ x y : List Int, rng x → rng y → Op.bytesLess (x.map fun n => UInt8.ofNat n.toNat) (y.map fun n => UInt8.ofNat n.toNat) = ltB x y
  | [], [], _, _ => rfl
  | [], _ :: _, _, _ => rfl
  | _ :: _, [], _, _ => rfl
  | a :: s, b :: t, hx, hy => by
    have ha := hx a List.mem_cons_self
    have hb := hy b List.mem_cons_self
    have ih := bytesLess_is s t (fun c hc => hx c (List.mem_cons_of_mem _ hc)) (fun c hc => hy c (List.mem_cons_of_mem _ hc))
    simp only [List.map_cons, Op.bytesLess, ltB, ih]
    by_cases e : a = b
    · subst e
      rw [if_pos rfl]
      simp
    · rw [if_neg e]
      have e2 : ¬ UInt8.ofNat a.toNat = UInt8.ofNat b.toNat := fun h => e ((u8_eq ha hb).1 h)
      have e3 : (UInt8.ofNat a.toNat == UInt8.ofNat b.toNat) = false := beq_eq_false_iff_ne.2 e2
      rw [e3, Bool.false_and, Bool.or_false]
      exact decide_eq_decide.2 (u8_lt ha hb)
theorem nums_list (x : List Int) : (strOfNums x).toList = x.map fun n => UInt8.ofNat n.toNat := by
  rw [ByteArray.toList_eq]
  rfl
theorem lessOut_f (x y : S27) (hx : rng x.f1) (hy : rng y.f1) : spec_lessOut.f x.f0 x.f1 y.f0 y.f1 = some (lessO x y) := by
  unfold spec_lessOut.f lessO
  rw [nums_list, nums_list, bytesLess_is _ _ hx hy]
  split <;> rfl
/-- An output of a row of one's own, its script read where it was. -/
theorem Out_at {w0 w : World} {base : Nat} {ok : Nat → Prop} {g n c : Nat} {ys : List S27} (h : (Kd.fixed k27 w0).R 27 w base ok (.slice (some ⟨g, 0, none⟩) n c) ys) (hb : Below w0.heap.size w0 w) {k : Nat} (hk : k < n) :
    ∃ A l, w.cell? ⟨g, k * 2, none⟩ = some (.int .i64 (ys.getD k default).f0) ∧ w.cell? ⟨g, k * 2 + 1, none⟩ = some (.slice A (ys.getD k default).f1.length l) ∧ w.frozen? ⟨g, k * 2, none⟩ = false ∧ w.frozen? ⟨g, k * 2 + 1, none⟩ = false ∧ (ys.getD k default).f1.length ≤ l ∧ Kd.C (Kd.int .u8) w A (ys.getD k default).f1.length (ys.getD k default).f1 := by
  obtain ⟨cs, hM, hl, hr, ht⟩ := R_at h (i := k) hk
  obtain ⟨A, l, rfl, hle, hC⟩ := k27_open (show k27.K w0 _ cs from hM)
  exact ⟨A, l, hr 0 _ rfl, hr 1 _ rfl, (ht 0 (show (0 : Nat) < 2 by omega)).2, (ht 1 (show (1 : Nat) < 2 by omega)).2, hle, Kd.C_below hC hb⟩
theorem out_swap {w0 w : World} {base : Nat} {ok : Nat → Prop} {g n c : Nat} {ys : List S27} (h : (Kd.fixed k27 w0).R 27 w base ok (.slice (some ⟨g, 0, none⟩) n c) ys) {k : Nat} (hk : k + 1 < n) {a0 a1 b0 b1 : Value}
    (ha0 : w.cell? ⟨g, k * 2, none⟩ = some a0) (ha1 : w.cell? ⟨g, k * 2 + 1, none⟩ = some a1) (hb0 : w.cell? ⟨g, (k + 1) * 2, none⟩ = some b0) (hb1 : w.cell? ⟨g, (k + 1) * 2 + 1, none⟩ = some b1) :
    (Kd.fixed k27 w0).R 27 (((((w.setCell ⟨g, (k + 1) * 2, none⟩ a0).setCell ⟨g, (k + 1) * 2 + 1, none⟩ a1).setCell ⟨g, k * 2, none⟩ b0).setCell ⟨g, k * 2 + 1, none⟩ b1).drew) base ok (.slice (some ⟨g, 0, none⟩) n c) (sw ys k) := by
  obtain ⟨hl, hg, cur, hh, hn, hz, _⟩ := R_form h
  have hz' : cur.size = c * 2 := hz
  rw [blk_cell hh] at ha0 ha1 hb0 hb1
  refine R_swapped h hk hh (show (((((w.setCell ⟨g, (k + 1) * 2, none⟩ a0).setCell ⟨g, (k + 1) * 2 + 1, none⟩ a1).setCell ⟨g, k * 2, none⟩ b0).setCell ⟨g, k * 2 + 1, none⟩ b1).drew).heap[g]? = _ from blk_set (blk_set (blk_set (blk_set hh)))) (fun j hj => ?_) (by simp) (fun p => ?_)
  · have e : ∀ (W : World) (i : Nat) (v : Value), (W.setCell ⟨g, i, none⟩ v).heap[j]? = W.heap[j]? := fun W i v => Below.heap_setCell W ⟨g, i, none⟩ v j hj
    show (((((w.setCell ⟨g, (k + 1) * 2, none⟩ a0).setCell ⟨g, (k + 1) * 2 + 1, none⟩ a1).setCell ⟨g, k * 2, none⟩ b0).setCell ⟨g, k * 2 + 1, none⟩ b1)).heap[j]? = _
    rw [e, e, e, e]
  · show _ = if p / 2 = k then cur[p + 2]? else if p / 2 = k + 1 then cur[p - 2]? else cur[p]?
    simp only [Array.getElem?_setIfInBounds, Array.size_setIfInBounds]
    by_cases d1 : k * 2 + 1 = p
    · subst d1
      rw [if_pos rfl, if_pos (by omega), if_pos (by omega), show k * 2 + 1 + 2 = (k + 1) * 2 + 1 by omega, hb1]
    · rw [if_neg d1]
      by_cases d2 : k * 2 = p
      · subst d2
        rw [if_pos rfl, if_pos (by omega), if_pos (by omega), show k * 2 + 2 = (k + 1) * 2 by omega, hb0]
      · rw [if_neg d2]
        by_cases d3 : (k + 1) * 2 + 1 = p
        · subst d3
          rw [if_pos rfl, if_pos (by omega), if_neg (by omega), if_pos (by omega), show (k + 1) * 2 + 1 - 2 = k * 2 + 1 by omega, ha1]
        · rw [if_neg d3]
          by_cases d4 : (k + 1) * 2 = p
          · subst d4
            rw [if_pos rfl, if_pos (by omega), if_neg (by omega), if_pos (by omega), show (k + 1) * 2 - 2 = k * 2 by omega, ha0]
          · rw [if_neg d4, if_neg (by omega), if_neg (by omega)]
theorem HO_rows {w w1 : World} {A : Option Addr} {n : Nat} {O : List S27} (h : Kd.C k27 w A n O) (hb : Below w.heap.size w w1) : ReadsRow (k27.K w) k27.sz w1 A n O := ReadsRow.imp_ h hb (fun _ _ h => h)
theorem infoO27 : (Try.prog.info? 27).map (fun i => (i.zero, i.size, i.bytes)) = some (some (.agg #[.int .i64 0, .slice none 0 0]), 2, 32) := by kernel_rfl
set_option maxRecDepth 100000 in
set_option maxHeartbeats 16000000 in
theorem sortedOuts_calls (A : Option Addr) (n c : Nat) (O : List S27) (w : World) (hO : Kd.C k27 w A n O) (hn : n ≤ 12) (hs : bytesO O) :
    Calls Try.prog 6 #[.slice A n c] w fun e w' => ∃ A' c', e = .returned (.slice A' n c') ∧ n ≤ c' ∧ Kd.C k27 w' A' n (srt lessO n O) ∧ Below w.heap.size w w' := by
  have HO := Aside0.mk hO
  have HOL : Aside0 (O.length = n) := ⟨hO.1⟩
  have HB := Aside0.mk (Below.refl w.heap.size w)
  have HS := Aside0.mk hs
  clear hO hs
  go_enter Try.func6, Try.ntmps6
  go_wp2_with (first
    | ((with_reducible refine gate_dst (N := 6) rfl ?_); refine Kd.R_lit (Kd.fixed k27 w) (w0 := w) w.heap.size 27 ?hg (N := 6) ?hd (xs := ([] : List S27)) (inner := []) (ok := fun _ => True) (okp := fun _ => True) ?hr ?hp (fun _ hk => hk) trivial HB.out (Nat.le_refl _) (by simp) ?_; (case hd => rfl); (case hg => rfl); (case hr => first | (go_simp; done) | (go_simp; rfl)); (case hp => exact (Reps.none _ _)); intro v6 w1 ho hb1 hgr hnew; have HO1 := Aside0.mk ho; have HB1 := Aside0.mk hb1; clear ho hb1 hgr hnew)
    | ((with_reducible refine gate_builtin (b := .append) (xs := #[.tmp 6, .tmp 7]) rfl ?_); refine Kd.R_append_rows (Kd.fixed k27 w) (Rr := k27.K w) (w0 := w) w.heap.size rfl (.tmp 6) (.tmp 7) 23 27 _ 32 rfl Try.underlying23 infoO27 rfl (show (0 : Nat) < 2 by omega) (by decide) v6 [] O A n c (fun _ => True) (fun _ => False) rfl rfl HO1.out (HO_rows HO.out HB1.out) (fun _ _ h => h) (fun _ h => h.elim) (fun _ _ => trivial) HB1.out HB1.out.size (by simp; omega) ?_; intro v8 w2 hR hb2 _ _; rw [List.nil_append] at hR; obtain ⟨A3, c3, rfl⟩ := Kd.R_slice hR; rw [HOL.out] at hR ⊢; have HR2 := Aside0.mk hR; have HB2 := Aside0.mk hb2; clear hR hb2)
    | fail)
  go_loopw [11] (fun v11 wr => ∃ i : Nat, v11 = .int .i64 i ∧ i ≤ n ∧ Aside0 ((Kd.fixed k27 w).R 27 wr w.heap.size (fun _ => True) (.slice A3 n c3) (srt lessO i O)) ∧ Aside0 (Below w.heap.size w wr)) (fun v11 _ => n - (intOf v11).toNat)
  case atStart => exact ⟨0, rfl, Nat.zero_le _, HR2, HB2⟩
  case round =>
    obtain ⟨i, rfl, hin, HR, HBr⟩ := hrel
    clear HR2 HB2 HB1 HO1
    by_cases hlt : i < n
    · obtain ⟨g, rfl⟩ := R_some HR.out (by omega)
      have HSi : Aside0 (bytesO (srt lessO i O)) := ⟨fun y hy => HS.out y (srt_mem lessO O i (by rw [HOL.out]; omega) y hy)⟩
      go_wp2_with fail
      have HBB : Aside0 (bub lessO i (srt lessO i O) = srt lessO (i + 1) O) := ⟨rfl⟩
      go_loopw [5] (fun v5 wq => ∃ (j : Nat) (l : List S27), v5 = .int .i64 j ∧ j ≤ i ∧ Aside0 ((Kd.fixed k27 w).R 27 wq w.heap.size (fun _ => True) (.slice (some ⟨g, 0, none⟩) n c3) l) ∧ Aside0 (bub lessO j l = srt lessO (i + 1) O) ∧ Aside0 (bytesO l) ∧ Aside0 (Below w.heap.size w wq)) (fun v5 _ => (intOf v5).toNat)
      case atStart => exact ⟨i, _, rfl, Nat.le_refl _, HR, HBB, HSi, HBr⟩
      case round =>
        obtain ⟨m, l, rfl, hmi, HRl, HBl, HSl, HBq⟩ := hrel
        clear HR HBB HBr HSi
        by_cases hm0 : m = 0
        · subst hm0
          have HE : Aside0 (l = srt lessO (i + 1) O) := ⟨HBl.out⟩
          go_wp2_with fail
          go_quiet (fail)
          go_wp2_with fail
          go_roundw
          case rel => exact ⟨i + 1, rfl, hlt, ⟨by rw [← HE.out]; exact Kd.R_below HRl.out (by apply pw_below_drewN; exact Below.refl _ _)⟩, ⟨by apply pw_below_drewN; exact HBq.out⟩⟩
          case measure => simp only [intOf]; omega
        · obtain ⟨k, hk⟩ : ∃ k, m = k + 1 := ⟨m - 1, by omega⟩
          have hsub : (m : Int) - 1 = (k : Int) := by omega
          have hpos : (0 : Int) < (m : Int) := by omega
          have hposn : 0 < m := by omega
          have m0 : (0 : Int) ≤ (m : Int) := by omega
          have mn : (m : Int) < (n : Int) := by omega
          have kk0 : (0 : Int) ≤ (k : Int) := by omega
          have kn : (k : Int) < (n : Int) := by omega
          have hwk : IntKind.i64.wrap (k : Int) = (k : Int) := IntWalk.i64_in _ (by omega)
          have hwr : IntKind.i64.wrap ((m : Int) - 1) = (k : Int) := by rw [hsub]; exact IntWalk.i64_in _ (by omega)
          have HLN : Aside0 (l.length = n) := ⟨(R_form HRl.out).1⟩
          have HM1 : Aside0 (k + 1 < l.length) := ⟨by have := HLN.out; omega⟩
          obtain ⟨AM, cM, q0, q1, f0, f1, hlm, hCm⟩ := Out_at HRl.out HBq.out (k := m) (by omega)
          obtain ⟨AK, cK, q2, q3, f2, f3, hlk, hCk⟩ := Out_at HRl.out HBq.out (k := k) (by omega)
          have hbm : rng (l.getD m default).f1 := HSl.out _ (by rw [List.getD_eq_getElem?_getD, List.getElem?_eq_getElem (by have := HLN.out; omega)]; exact List.getElem_mem _)
          have hbk : rng (l.getD k default).f1 := HSl.out _ (by rw [List.getD_eq_getElem?_getD, List.getElem?_eq_getElem (by have := HLN.out; omega)]; exact List.getElem_mem _)
          have HSWP : Aside0 (∀ W, (Kd.fixed k27 w).R 27 W w.heap.size (fun _ => True) (.slice (some ⟨g, 0, none⟩) n c3) l → W.cell? ⟨g, k * 2, none⟩ = some (.int .i64 (l.getD k default).f0) → W.cell? ⟨g, k * 2 + 1, none⟩ = some (.slice AK (l.getD k default).f1.length cK) → W.cell? ⟨g, m * 2, none⟩ = some (.int .i64 (l.getD m default).f0) → W.cell? ⟨g, m * 2 + 1, none⟩ = some (.slice AM (l.getD m default).f1.length cM) → (Kd.fixed k27 w).R 27 (((((W.setCell ⟨g, m * 2, none⟩ (.int .i64 (l.getD k default).f0)).setCell ⟨g, m * 2 + 1, none⟩ (.slice AK (l.getD k default).f1.length cK)).setCell ⟨g, k * 2, none⟩ (.int .i64 (l.getD m default).f0)).setCell ⟨g, k * 2 + 1, none⟩ (.slice AM (l.getD m default).f1.length cM)).drew) w.heap.size (fun _ => True) (.slice (some ⟨g, 0, none⟩) n c3) (sw l k)) := ⟨fun W h a0 a1 b0 b1 => by rw [hk] at b0 b1 ⊢; exact out_swap h (by omega) a0 a1 b0 b1⟩
          obtain ⟨b, hb⟩ : ∃ b, b = lessO (l.getD m default) (l.getD k default) := ⟨_, rfl⟩
          have HLE : Aside0 (∀ W, Below wr.heap.size wr W → Calls Try.prog 12 #[.agg #[.int .i64 (l.getD m default).f0, .slice AM (l.getD m default).f1.length cM], .agg #[.int .i64 (l.getD k default).f0, .slice AK (l.getD k default).f1.length cK]] W fun e w' => e = .returned (.bool b) ∧ Below W.heap.size W w') := ⟨fun W hW => by rw [hb]; exact spec_lessOut.calls _ AM cM _ _ AK cK _ _ W (Kd.C_below hCm hW) hlm (Kd.C_below hCk hW) hlk (lessOut_f _ _ hbm hbk)⟩
          have HB := Aside0.mk hb
          have HK := Aside0.mk hk
          have HGB : Aside0 (w.heap.size ≤ g) := ⟨(R_form HRl.out).2.1⟩
          clear hb hlm hlk hCm hCk hbm hbk
          generalize (l.getD m default).f0 = fm at q0 HLE HSWP
          generalize (l.getD k default).f0 = fk at q2 HLE HSWP
          generalize (l.getD m default).f1.length = lm at q1 HLE HSWP
          generalize (l.getD k default).f1.length = lk at q3 HLE HSWP
          have n1 : ¬ m = k := by omega
          have n2 : ¬ k = m := by omega
          have n3 : ¬ m * 2 + 1 = k * 2 := by omega
          have n4 : ¬ k * 2 = m * 2 + 1 := by omega
          have n5 : ¬ m * 2 = k * 2 + 1 := by omega
          have n6 : ¬ k * 2 + 1 = m * 2 := by omega
          clear hk
          cases b
          · have HE : Aside0 (l = srt lessO (i + 1) O) := ⟨by rw [← HBl.out, HK.out]; exact (bub_no (by rw [← HK.out]; exact HB.out.symm)).symm⟩
            go_wp2_with fail
            go_region_held3 (fun w' => w'.cell? ⟨g, m * 2, none⟩ = some (.int .i64 fm) ∧ w'.cell? ⟨g, m * 2 + 1, none⟩ = some (.slice AM lm cM) ∧ w'.cell? ⟨g, k * 2, none⟩ = some (.int .i64 fk) ∧ w'.cell? ⟨g, k * 2 + 1, none⟩ = some (.slice AK lk cK))
              (first | (with_reducible exact ⟨q0, q1, q2, q3⟩) | (with_reducible exact ⟨pw_cell_below HB2.out q0, pw_cell_below HB2.out q1, pw_cell_below HB2.out q2, pw_cell_below HB2.out q3⟩) | go_keep)
              (first
              | (go_at_call 12; (with_reducible refine (HLE.out _ (below_drew (Below.refl _ _))).mono ?_); rintro e2 w2 ⟨rfl, hb2⟩; have HB2 := Aside0.mk (show Below wr.heap.size wr w2 from below_step (below_drew (Below.refl _ _)) hb2); clear hb2))
            all_goals
              go_wp2_with fail
              go_roundw
              case rel => exact ⟨i + 1, rfl, hlt, ⟨by rw [← HE.out]; exact Kd.R_below HRl.out HB2.out⟩, ⟨below_step HBq.out HB2.out⟩⟩
              case measure => simp only [intOf]; omega
          · have HE : Aside0 (bub lessO k (sw l k) = srt lessO (i + 1) O) := ⟨by rw [← HBl.out, HK.out]; exact (bub_yes (by rw [← HK.out]; exact HB.out.symm)).symm⟩
            go_wp2_with fail
            go_region_held3 (fun w' => w'.cell? ⟨g, m * 2, none⟩ = some (.int .i64 fm) ∧ w'.cell? ⟨g, m * 2 + 1, none⟩ = some (.slice AM lm cM) ∧ w'.cell? ⟨g, k * 2, none⟩ = some (.int .i64 fk) ∧ w'.cell? ⟨g, k * 2 + 1, none⟩ = some (.slice AK lk cK))
              (first | (with_reducible exact ⟨q0, q1, q2, q3⟩) | (with_reducible exact ⟨pw_cell_below HB2.out q0, pw_cell_below HB2.out q1, pw_cell_below HB2.out q2, pw_cell_below HB2.out q3⟩) | go_keep)
              (first
              | (go_at_call 12; (with_reducible refine (HLE.out _ (below_drew (Below.refl _ _))).mono ?_); rintro e2 w2 ⟨rfl, hb2⟩; have HB2 := Aside0.mk (show Below wr.heap.size wr w2 from below_step (below_drew (Below.refl _ _)) hb2); clear hb2))
            have HR2 := Aside0.mk (Kd.R_below HRl.out HB2.out)
            have p0 := pw_cell_below HB2.out q0
            have p1 := pw_cell_below HB2.out q1
            have p2 := pw_cell_below HB2.out q2
            have p3 := pw_cell_below HB2.out q3
            obtain ⟨_, _, cur, hcur, _⟩ := R_form HR2.out
            have z0 := blk_frozen hcur (m * 2)
            have z1 := blk_frozen hcur (m * 2 + 1)
            have z2 := blk_frozen hcur (k * 2)
            have z3 := blk_frozen hcur (k * 2 + 1)
            have HR3 := Aside0.mk (HSWP.out w2 HR2.out p2 p3 p0 p1)
            have HB3 : Aside0 (Below w.heap.size w (((((w2.setCell ⟨g, m * 2, none⟩ (.int .i64 fk)).setCell ⟨g, m * 2 + 1, none⟩ (.slice AK lk cK)).setCell ⟨g, k * 2, none⟩ (.int .i64 fm)).setCell ⟨g, k * 2 + 1, none⟩ (.slice AM lm cM)).drew)) := ⟨below_drew (((((below_step HBq.out HB2.out).setCell HGB.out _).setCell HGB.out _).setCell HGB.out _).setCell HGB.out _)⟩
            clear q0 q1 q2 q3 f0 f1 f2 f3 hcur
            go_wp2_with fail
            go_region
            all_goals
              go_wp2_with fail
              go_roundw
              case rel => exact ⟨k, _, rfl, by have := HK.out; omega, HR3, HE, ⟨fun y hy => HSl.out y (sw_mem HM1.out hy)⟩, HB3⟩
              case measure => simp only [intOf]; have := HK.out; omega
    · obtain rfl : i = n := by omega
      go_wp2_with fail
      refine bodyPost_ret (results_tmp rfl _ _ _) rfl ⟨A3, c3, rfl, ?_, ?_, HBr.out⟩
      · have h := Kd.R_reads' HR.out
        exact h.2.1
      · have h := Kd.R_reads' HR.out
        have h2 := h.2.2
        rw [← h.1] at h2
        exact Kd.C_read (dm := Kd.fixed k27 w) (d := k27) rfl (fun x cs hx => k27.K_below HBr.out (show k27.K w x cs from hx)) h2
end Go.Proofs.Ytpggphjnghhmeaa.Srt
