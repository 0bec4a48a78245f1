/-
  A row of numbers of one's own (64 bits): appended to, stored into, read.
  spec.Coded, walked.
  A filter in its block; its bytes, its numbers.
  A filter's forms: behind N, behind P, behind both.
-/
import Derived.Test.YtfhkkojdaejnjaaDoorHand
import Derived.Test.YtfhkkojdaejnjaaDoorJA
import Derived.Deep.RegionLaw
set_option linter.unusedVariables false
namespace Go.Proofs.YtfhkkojdaejnjaaDoor.Gcs
open Go.RowKit Go.Proofs.YtfhkkojdaejnjaaDoor.Hand Go.Proofs.YtfhkkojdaejnjaaDoorW.PrintWords Go.Proofs.YtfhkkojdaejnjaaDoorW.PrintLast Go.Proofs.YtfhkkojdaejnjaaDoorW.PrintMore

structure Bw (base : Nat) (w : World) (v : Value) (xs : List Int) : Prop where
  mk :: (out : ∃ g c, v = .slice (some ⟨g, 0, none⟩) xs.length c ∧ base ≤ g ∧ g < w.heap.size ∧ xs.length ≤ c ∧ (∀ j, j < xs.length → w.cell? ⟨g, j, none⟩ = some (.int .u64 (xs.getD j 0))) ∧ (∀ j, j < c → (w.cell? ⟨g, j, none⟩).isSome = true ∧ w.frozen? ⟨g, j, none⟩ = false))

theorem cell_size64 {w : World} {g j : Nat} {v : Value} (h : w.cell? ⟨g, j, none⟩ = some v) : g < w.heap.size := World.block_lt_of_cell? w _ h
theorem Bw.shape {base : Nat} {w : World} {v : Value} {xs : List Int} (h : Bw base w v xs) : ∃ g c, v = .slice (some ⟨g, 0, none⟩) xs.length c ∧ xs.length ≤ c := by
  obtain ⟨g, c, e, _, _, hc, _⟩ := h.out
  exact ⟨g, c, e, hc⟩
theorem Bw.below {base : Nat} {w w1 : World} {v : Value} {xs : List Int} (h : Bw base w v xs) (hb : Below w.heap.size w w1) : Bw base w1 v xs := by
  obtain ⟨g, c, e, h1, h2, h3, h4, h5⟩ := h.out
  exact ⟨⟨g, c, e, h1, Nat.lt_of_lt_of_le h2 hb.size, h3, fun j hj => (hb.cell (p := ⟨g, j, none⟩) h2).trans (h4 j hj), fun j hj => ⟨by rw [hb.cell (p := ⟨g, j, none⟩) h2]; exact (h5 j hj).1, (hb.frozen (p := ⟨g, j, none⟩) h2).trans (h5 j hj).2⟩⟩⟩
theorem Bw.lower {base base' : Nat} {w : World} {v : Value} {xs : List Int} (h : Bw base w v xs) (hb : base' ≤ base) : Bw base' w v xs := by
  obtain ⟨g, c, e, h1, h2⟩ := h.out
  exact ⟨⟨g, c, e, by omega, h2⟩⟩
theorem Bw.reads {base : Nat} {w : World} {A : Option Addr} {n c : Nat} {xs : List Int} (h : Bw base w (.slice A n c) xs) (hl : xs.length ≤ 9223372036854775807) : n = xs.length ∧ n ≤ c ∧ Kd.C (Kd.int .u64) w A n xs := by
  obtain ⟨g, c', e, h1, h2, h3, h4, h5⟩ := h.out
  injection e with e1 e2 e3
  subst e1 e2 e3
  refine ⟨rfl, h3, rfl, hl, fun _ => ⟨⟨g, 0, none⟩, rfl, fun j p hj => ⟨[.int .u64 p], rfl, rfl, fun i u hu => ?_⟩⟩⟩
  match i, hu with
  | 0, hu =>
    simp only [List.getElem?_cons_zero, Option.some.injEq] at hu
    subst hu
    have e1 : (Kd.int .u64).sz = 1 := rfl
    have hlt := (List.getElem?_eq_some_iff.1 hj).1
    rw [e1, add_plain]
    have := h4 j hlt
    rw [List.getD_eq_getElem?_getD, hj] at this
    simpa using this
theorem Bw.empty {base : Nat} {w : World} {g : Nat} (h1 : base ≤ g) (h2 : g < w.heap.size) : Bw base w (.slice (some ⟨g, 0, none⟩) 0 0) [] :=
  ⟨⟨g, 0, rfl, h1, h2, Nat.le_refl _, (fun j hj => absurd hj (Nat.not_lt_zero _)), (fun j hj => absurd hj (Nat.not_lt_zero _))⟩⟩
theorem Bw.of_own {w : World} {base n : Nat} {v : Value} {xs : List Int} {e : TypeId} (hn : xs.length = n) (hp : 0 < n) (h : w.ownsRow base e 1 v n (xs.map (Value.int .u64))) : Bw base w v xs := by
  rcases h.2 with ⟨_, h0⟩ | ⟨g, cap, cur, e1, h2, h3, h4, _, h6, h7⟩
  · omega
  · subst e1
    have hsz : cur.size = cap := by simpa using h6
    refine ⟨⟨g, cap, by rw [hn], h2, (Array.getElem?_eq_some_iff.1 h3).1, by omega, fun j hj => ?_, fun j hj => ⟨?_, ?_⟩⟩⟩
    · unfold World.cell?
      simp only [h3]
      have e2 : cur.toList.take n = xs.map (Value.int .u64) := by simpa using h7
      have e3 : (cur.toList.take n)[j]? = (xs.map (Value.int .u64))[j]? := by rw [e2]
      rw [List.getElem?_take_of_lt (by omega), List.getElem?_map, List.getElem?_eq_getElem hj, Array.getElem?_toList] at e3
      rw [e3, List.getD_eq_getElem?_getD, List.getElem?_eq_getElem hj]
      rfl
    · unfold World.cell?
      simp only [h3]
      rw [Array.getElem?_eq_getElem (by omega)]
      rfl
    · unfold World.frozen?
      rw [h3]
      simp
theorem Bw.at_ {base : Nat} {w : World} {g n c : Nat} {xs : List Int} (h : Bw base w (.slice (some ⟨g, 0, none⟩) n c) xs) (j : Nat) (hj : j < xs.length) : w.cell? ⟨g, j, none⟩ = some (.int .u64 (xs.getD j 0)) ∧ w.frozen? ⟨g, j, none⟩ = false := by
  obtain ⟨g', c', e, h1, h2, h3, h4, h5⟩ := h.out
  injection e with e1 e2 e3
  injection e1 with e1
  injection e1 with e1
  subst e1 e2 e3
  exact ⟨h4 j hj, (h5 j (by omega)).2⟩
theorem Bw.store {base : Nat} {w : World} {g n c : Nat} {xs : List Int} (h : Bw base w (.slice (some ⟨g, 0, none⟩) n c) xs) (i : Nat) (hi : i < xs.length) (y : Int) :
    Bw base (w.setCell ⟨g, i, none⟩ (.int .u64 y)) (.slice (some ⟨g, 0, none⟩) n c) (xs.set i y) := by
  obtain ⟨g', c', e, h1, h2, h3, h4, h5⟩ := h.out
  injection e with e1 e2 e3
  injection e1 with e1
  injection e1 with e1
  subst e1 e2 e3
  refine ⟨⟨g, c, by rw [List.length_set], h1, by simpa [World.setCell] using h2, by rw [List.length_set]; exact h3, fun j hj => ?_, fun j hj => ⟨?_, ?_⟩⟩⟩
  · rw [List.length_set] at hj
    by_cases hji : j = i
    · subst hji
      rw [World.cell?_setCell_same' _ _ _ (h5 j (by omega)).1]
      simp [List.getD_eq_getElem?_getD, hj]
    · rw [World.cell?_setCell_other _ _ _ _ (fun e => by injection e; omega), h4 j hj]
      simp [List.getD_eq_getElem?_getD, Ne.symm hji]
  · by_cases hji : j = i
    · subst hji
      rw [World.cell?_setCell_same' _ _ _ (h5 j hj).1]
      rfl
    · rw [World.cell?_setCell_other _ _ _ _ (fun e => by injection e; omega)]
      exact (h5 j hj).1
  · rw [World.frozen?_setCell]
    exact (h5 j hj).2

/-- A byte more, out of a literal of one cell. -/
theorem wpList_bw_append {P : Program} {w0 W : World} {ops : Array Oper} {rest : List Oper} {o : Oper} {a : Act} {Q : Exit → Act → World → Prop} (base : Nat)
    (hg : o.guard = none) (s x : Operand) (t e : TypeId) (hop : o.op = Op.call { callee := Callee.builtin Builtin.append, args := #[s, x], argTypes := #[t, t] })
    (ht : P.underlying t = some (.slice e)) (hinfo : (P.info? e).map (fun i => (i.zero, i.size, i.bytes)) = some (some (.int .u64 0), 1, 8))
    (v : Value) (xs : List Int) (y : Int) (hs : a.eval s = v) (hx : a.eval x = .slice (some ⟨W.heap.size, 0, none⟩) 1 1)
    (HO : Bw base W v xs) (HB : Below base w0 W) (hbase : base ≤ W.heap.size) (hl : xs.length + 1 ≤ 1000000)
    (h : ∀ v1 w1, Bw base w1 v1 (xs ++ [y]) → Below base w0 w1 → wpList P ops Q rest (a.put o.dst v1) w1) :
    wpList P ops Q (o :: rest) a (W.alloc (.cells #[.int .u64 y] e)) := by
  have HA : Below W.heap.size W (W.alloc (.cells #[.int .u64 y] e)) := (Below.refl _ _).alloc (Nat.le_refl _) _
  have HN : (W.alloc (.cells #[.int .u64 y] e)).cell? ⟨W.heap.size, 0, none⟩ = some (.int .u64 y) := by
    have h : (W.alloc (.cells #[.int .u64 y] e)).heap[W.heap.size]? = some (.cells #[.int .u64 y] e (0, 0)) := by
      show (W.heap.push _)[W.heap.size]? = _
      simp
    unfold World.cell?
    simp only [h]
    rfl
  have HB1 : Below base w0 (W.alloc (.cells #[.int .u64 y] e)) := HB.alloc hbase _
  have HO1 := HO.below HA
  have hbase1 : base ≤ (W.alloc (.cells #[.int .u64 y] e)).heap.size := Nat.le_trans hbase HA.size
  obtain ⟨g, c, ev, h1, h2, h3, h4, h5⟩ := HO1.out
  generalize hW1 : W.alloc (.cells #[.int .u64 y] e) = W1 at HA HN HB1 HO1 hbase1 h2 h4 h5 ⊢
  obtain ⟨i, hi, hz0, hz1, hz2⟩ := info_parts hinfo
  subst ev
  have hlt : xs.length + 1 ≤ maxLen := by unfold maxLen; omega
  refine wpList_append_arg W1 hg s x t hop e i (.int .u64 0) 1 8 ht hi hz0 hz1 hz2 rfl (by omega) g 0 xs.length c (xs.map (Value.int .u64)) hs (by simp) (fun j u hj => ?_) ⟨W.heap.size, 0, none⟩ 1 1 [.int .u64 y] hx rfl (fun j u hj => ?_) (fun u hu => ?_) (fun hr j hj => ?_) hlt (by omega) (fun hr => ?_) (fun hgr v1 w1 hown hgrow => ?_)
  · rw [List.getElem?_map] at hj
    obtain ⟨p, hp, rfl⟩ := Option.map_eq_some_iff.1 hj
    rw [Nat.zero_add]
    have := h4 j (List.getElem?_eq_some_iff.1 hp).1
    rw [List.getD_eq_getElem?_getD, hp] at this
    exact this
  · match j, hj with
    | 0, hj =>
      simp only [List.getElem?_cons_zero, Option.some.injEq] at hj
      subst hj
      exact HN
  · simp only [List.mem_singleton] at hu
    subst hu
    rfl
  · have e1 : 0 + xs.length * 1 + j < c := by simp at hj; omega
    exact h5 _ e1
  · have e2 : W1.setCells g (0 + xs.length * 1) [.int .u64 y] = W1.setCell ⟨g, xs.length, none⟩ (.int .u64 y) := by
      show W1.setCell ⟨g, 0 + xs.length * 1, none⟩ (.int .u64 y) = _
      rw [Nat.zero_add, Nat.mul_one]
    rw [e2]
    refine h _ _ ⟨⟨g, c, by rw [List.length_append]; rfl, h1, by simpa [World.setCell] using h2, by rw [List.length_append]; exact hr, fun j hj => ?_, fun j hj => ⟨?_, ?_⟩⟩⟩ (HB1.setCell h1 _)
    · by_cases hji : j = xs.length
      · subst hji
        rw [World.cell?_setCell_same' _ _ _ (h5 _ (by omega)).1]
        simp [List.getD_eq_getElem?_getD]
      · rw [List.length_append, List.length_singleton] at hj
        rw [World.cell?_setCell_other _ _ _ _ (fun e => by injection e; omega), h4 j (by omega)]
        simp only [List.getD_eq_getElem?_getD]
        rw [List.getElem?_append_left (by omega)]
    · by_cases hji : j = xs.length
      · subst hji
        rw [World.cell?_setCell_same' _ _ _ (h5 _ hj).1]
        rfl
      · rw [World.cell?_setCell_other _ _ _ _ (fun e => by injection e; omega)]
        exact (h5 j hj).1
    · rw [World.frozen?_setCell]
      exact (h5 j hj).2
  · refine h _ _ ((Bw.of_own (e := e) (n := xs.length + 1) (xs := xs ++ [y]) (by simp) (by omega) ?_).lower hbase1) (HB1.grown hgrow hbase1 (fun _ h => by cases h))
    rw [List.map_append]
    exact hown
end Go.Proofs.YtfhkkojdaejnjaaDoor.Gcs
namespace Go.Proofs.YtfhkkojdaejnjaaDoor.Gcs
open Go.RowKit Go.Proofs.YtfhkkojdaejnjaaDoor.Hand Go.Proofs.YtfhkkojdaejnjaaDoor.Buf Go.Proofs.YtfhkkojdaejnjaaDoor.PFnForms Go.Proofs.YtfhkkojdaejnjaaDoorW.PrintWords Go.Proofs.YtfhkkojdaejnjaaDoorW.PrintLast Go.Proofs.YtfhkkojdaejnjaaDoorW.PrintMore

section
variable {ops : Array Oper} {rest : List Oper} {o : Oper} {a : Act} {Q : Exit → Act → World → Prop} {W : World}
theorem bw_store (hgd : o.guard = none) {p : Tmp} {v : Operand} (ho : o.op = .store 22 (.tmp p) v) (hN : o.dst = none) {g n c i base : Nat} {w0 : World} {y : Int} {xs : List Int} (hb : Bw base W (.slice (some ⟨g, 0, none⟩) n c) xs) (hi : i < xs.length) (hB : Below base w0 W)
    (hp : a.eval (.tmp p) = .pointer (some ⟨g, i, none⟩)) (hv : a.eval v = .int .u64 y)
    (h : ∀ w1, Bw base w1 (.slice (some ⟨g, 0, none⟩) n c) (xs.set i y) → Below base w0 w1 → wpList Tryd.prog ops Q rest a w1) : wpList Tryd.prog ops Q (o :: rest) a W := by
  have hg : base ≤ g := by
    obtain ⟨g', c', e, h1, _⟩ := hb.out
    injection e with e1
    injection e1 with e1
    injection e1 with e1
    rw [e1]; exact h1
  exact store_event hgd ho hN (st_run ho hp hv (hb.at_ i hi).1 (hb.at_ i hi).2) fun w1 e => h w1 (by subst e; exact hb.store i hi y) (by subst e; exact hB.setCell hg _)
end
theorem info22 : (Tryd.prog.info? 22).map (fun i => (i.zero, i.size, i.bytes)) = some (some (.int .u64 0), 1, 8) := by kernel_rfl
/-- What spec.Coded hands back. -/
def IsBytes (w : World) (D : List Int) (e : Ending) (w' : World) : Prop := ∃ A c, e = .returned (.slice A D.length c) ∧ D.length ≤ c ∧ Kd.C (Kd.int .u8) w' A D.length D ∧ Below w.heap.size w w'

set_option maxRecDepth 100000 in
set_option maxHeartbeats 16000000 in
theorem coded_calls (p : Nat) (m f : Int) (ks : List Int) (A : Option Addr) (n c : Nat) (items : List (List Int)) (w : World) (hk : ks.length = 16) (hC : Kd.C (Kd.slice 5 (Kd.int .u8)) w A n items) (hn : items.length = n) (hc : n ≤ c) (h1 : 1 ≤ n) (h20 : n ≤ 20) (h60 : ∀ x ∈ items, x.length ≤ 60)
    (hp1 : 1 ≤ p) (hp24 : p ≤ 24) (hf : IntKind.u64.wrap ((n : Int) * m) = f) (hf0 : 0 < f) (hf1 : f ≤ 320 * 2 ^ p) :
    Calls Tryd.prog 11 #[.int .u8 p, .int .u64 m, .agg (ks.map (Value.int .u8)).toArray, .slice A n c] w (IsBytes w (outB (bitsB p (valsI ks f items) n) (bitsB p (valsI ks f items) n).length)) := by
  have hp2 : (2 : Int) ^ p ≤ 16777216 := by
    have h : (2 : Nat) ^ p ≤ 16777216 := Nat.le_trans (Nat.pow_le_pow_right (by decide) hp24) (by decide)
    have h2 := Int.ofNat_le.2 h
    rw [Int.natCast_pow] at h2
    exact h2
  have hfb : f ≤ 5368709120 := by omega
  obtain ⟨X, hX⟩ : ∃ X, X = (ks.map (Value.int .u8)).toArray := ⟨_, rfl⟩
  rw [← hX]
  have HXS : Aside0 ((Tryd.prog.info? 23).map (·.size) = some X.size) := ⟨by rw [hX]; simp only [List.size_toArray, List.length_map, hk]; kernel_rfl⟩
  have HSIP : Aside0 (∀ (A1 : Option Addr) (c1 : Nat) (b : List Int) (w2 : World), b.length ≤ 60 → b.length ≤ c1 → Kd.C (Kd.int .u8) w2 A1 b.length b → Calls Tryd.prog 22 #[.agg X, .slice A1 b.length c1] w2 (IsU64 w2 (sipP ks b))) := ⟨fun A1 c1 b w2 h1 h2 h3 => by
    rw [hX]
    exact sip_calls ks A1 b.length c1 b w2 hk h3 rfl h2 (by omega)⟩
  have HHI : Aside0 (∀ (s : Int) (w2 : World), 0 ≤ s → s < 18446744073709551616 → Calls Tryd.prog 21 #[.int .u64 s, .int .u64 (IntKind.u64.wrap ((n : Int) * m))] w2 fun e w' => e = .returned (.int .u64 (s * f / 18446744073709551616)) ∧ Drawn0 w2 w') := ⟨fun s w2 h0 h1 => by
    rw [hf]
    exact spec_high.calls s f _ w2 (high_f s f h0 h1 (by omega) (by omega))⟩
  have HXX := Aside0.mk hX
  have HC := Aside0.mk hC
  have HN := Aside0.mk hn
  have H60 := Aside0.mk h60
  have HVF : Aside0 (∀ bs, Srt (valsI ks f bs) ∧ (valsI ks f bs).length = bs.length ∧ ∀ x ∈ valsI ks f bs, 0 ≤ x ∧ x < f) := ⟨valsI_facts ks f hf0⟩
  clear hX hC hn h60 hk hf
  have hXs : ∃ z, z = X.size := ⟨_, rfl⟩
  have HB := Aside0.mk (Below.refl w.heap.size w)
  have h16 : X.size = 16 := by
    have h := HXS.out
    rw [show (Tryd.prog.info? 23).map (·.size) = some 16 by kernel_rfl] at h
    injection h with h
    exact h.symm
  go_enter Tryd.func11, Tryd.ntmps11
  go_wp2_with (first
    | ((with_reducible refine gate_dst (N := 6) rfl ?_); refine box_event ?hg (N := 6) ?hd (cs := X) (t := 23) ?hr ?_; (case hd => rfl); (case hg => rfl); (case hr => first | (go_simp; done) | (go_simp; rfl)); intro gk hg w1 hbox hb1; have HKB := Aside0.mk hbox; have HB1 := Aside0.mk (below_step HB.out hb1); have HGK : Aside0 (gk < w1.heap.size) := ⟨(Array.getElem?_eq_some_iff.1 hbox).1⟩; clear hg hbox hb1)
    | fail)
  have HBW0 : Aside0 (Bw w1.heap.size (w1.alloc (.cells #[] 22)) (.slice (some ⟨w1.heap.size, 0, none⟩) 0 0) (valsI ks f (items.take 0))) := ⟨Bw.empty (Nat.le_refl _) (by show _ < (w1.heap.push _).size; simp)⟩
  have HB20 := Aside0.mk ((Below.refl w1.heap.size w1).alloc (Nat.le_refl _) (.cells #[] 22))
  go_loopw [9, 27] (fun v9 v27 wr => ∃ k : Nat, v27 = .int .i64 k ∧ k ≤ n ∧ Aside0 (Bw w1.heap.size wr v9 (valsI ks f (items.take k))) ∧ Aside0 (Below w1.heap.size w1 wr)) (fun _ v27 _ => n - (intOf v27).toNat)
  case atStart => exact ⟨0, rfl, Nat.zero_le _, HBW0, HB20⟩
  case round =>
    obtain ⟨k, rfl, hk, HBW, HB2⟩ := hrel
    clear HBW0 HB20
    by_cases hkn : k < n
    · have HCk := Aside0.mk (Kd.C_below HC.out (below_step HB1.out HB2.out))
      obtain ⟨ad, A0, c0, rfl, kd, hc0, hCb⟩ := at_L1 HCk.out (k : Int) (by omega) (by omega)
      have hbl := H60.out (rd_L1 items (k : Int)) (by unfold rd_L1; rw [Int.toNat_natCast, List.getD_eq_getElem?_getD, List.getElem?_eq_getElem (by rw [HN.out]; exact hkn)]; exact List.getElem_mem _)
      have HTK : Aside0 (items.take (k + 1) = items.take k ++ [rd_L1 items (k : Int)]) := ⟨by
        unfold rd_L1
        rw [Int.toNat_natCast, List.getD_eq_getElem?_getD, List.getElem?_eq_getElem (by rw [HN.out]; exact hkn)]
        exact List.take_succ_eq_append_getElem (by rw [HN.out]; exact hkn)⟩
      rw [Int.toNat_natCast] at kd
      generalize rd_L1 items (k : Int) = b at kd hc0 hCb hbl HTK
      have HVK := Aside0.mk (HVF.out (items.take k))
      obtain ⟨gv, cv, rfl, hcv⟩ := HBW.out.shape
      have HLV : Aside0 ((valsI ks f (items.take k)).length = k) := ⟨by rw [HVK.out.2.1, List.length_take, HN.out]; omega⟩
      have HVS : Aside0 (valsI ks f (items.take (k + 1)) = insI (valsI ks f (items.take k)) (valI ks f b)) := ⟨by rw [HTK.out, valsI_snoc]⟩
      rw [HLV.out] at HBW hcv ⊢
      have HCB := Aside0.mk hCb
      have hsl := sip_lo ks b
      have HSB : Aside0 (sipP ks b * f / 18446744073709551616 = valI ks f b) := ⟨rfl⟩
      clear hCb
      generalize valsI ks f (items.take k) = L at HBW HVK HLV HVS
      have HKW : Aside0 (wr.heap[gk]? = some (.cells X 23 (0, 0))) := ⟨(HB2.out.block _ HGK.out).trans HKB.out⟩
      go_wp2_with (first
        | ((with_reducible show wpList _ _ _ _ _ _); (with_reducible refine wpList_load_row (o := ⟨some 31, _, _, _, _, _⟩) rfl 23 (.tmp 6) rfl gk rfl 23 X (0, 0) _ HKW.out Tryd.underlying23 rfl HXS.out ?_))
        | (go_at_call 22; (with_reducible refine (HSIP.out A0 c0 b _ hbl hc0 HCB.out).mono ?_); rintro e2 w2 hq; unfold IsU64 at hq; obtain ⟨rfl, hb2⟩ := hq; have HBW2 := Aside0.mk (HBW.out.below hb2); have HB22 := Aside0.mk (below_step HB2.out hb2); clear hb2)
        | (go_at_call 21; (with_reducible refine (HHI.out (sipP ks b) _ hsl.1 hsl.2).mono ?_); rintro e3 w3 ⟨rfl, hd3⟩; obtain ⟨q3, h3⟩ := hd3.out; have hb3 : Below w2.heap.size w2 w3 := (by rw [h3]; apply pw_below_drewN; exact Below.refl _ _); have HBW3 := Aside0.mk (HBW2.out.below hb3); have HB23 := Aside0.mk (below_step HB22.out hb3); clear hb3 h3 hd3; rw [HSB.out])
        | (at_builtin; refine wpList_bw_append (w0 := w1) w1.heap.size rfl (.tmp 42) (.tmp 44) 52 22 rfl Tryd.underlying52 info22 _ L (valI ks f b) rfl rfl HBW3.out HB23.out HB23.out.size (by rw [HLV.out]; omega) ?_; intro v8 w8 hB8 hb8; have HBW8 := Aside0.mk hB8; have HB28 := Aside0.mk hb8; clear hB8 hb8)
        | fail)
      have HBL0 : Aside0 (Bw w1.heap.size w8 v8 (curI L (valI ks f b) k)) := ⟨by rw [← HLV.out, curI_end]; exact HBW8.out⟩
      generalize valI ks f b = v at HBL0 HVS ⊢
      clear HBW8 HBW3 HBW2 HBW HB23 HB22 HCB HKW HSB kd hc0 hbl hsl hcv HTK HCk HB2
      have hkL := HLV.out
      obtain ⟨gj, cj, rfl, hcj⟩ := HBL0.out.shape
      rw [show (curI L v k).length = k + 1 by rw [curI_length _ _ _ (by omega), hkL]] at HBL0 hcj ⊢
      go_loopw [13] (fun v13 wr => ∃ j : Nat, v13 = .int .i64 j ∧ j ≤ k ∧ Aside0 (Bw w1.heap.size wr (.slice (some ⟨gj, 0, none⟩) (k + 1) cj) (curI L v j)) ∧ Aside0 (posI L v k = posI L v j) ∧ Aside0 (Below w1.heap.size w1 wr)) (fun v13 _ => (intOf v13).toNat)
      case atStart => exact ⟨k, rfl, Nat.le_refl _, HBL0, ⟨rfl⟩, HB28⟩
      case round =>
        obtain ⟨j, rfl, hj, HBJ, HPJ, HB3⟩ := hrel
        clear HBL0 HB28
        have HCL : Aside0 ((curI L v j).length = k + 1) := ⟨by rw [curI_length _ _ _ (by omega), hkL]⟩
        rcases Nat.eq_zero_or_pos j with rfl | hj0
        · go_wp2_with fail
          have HFI : Aside0 (curI L v 0 = valsI ks f (items.take (k + 1))) := ⟨by rw [HVS.out]; unfold insI; rw [hkL, HPJ.out]; rfl⟩
          rw [HFI.out] at HBJ
          go_roundw
          case rel => exact ⟨k + 1, by go_num, by omega, HBJ, HB3⟩
          case measure => simp [intOf]; omega
        · obtain ⟨j', rfl⟩ : ∃ j', j = j' + 1 := ⟨j - 1, by omega⟩
          have kp := (HBJ.out.at_ j' (by rw [HCL.out]; omega)).1
          rw [curI_prev _ _ _ (by omega)] at kp
          have HPS : Aside0 (posI L v (j' + 1) = if L.getD j' 0 > v then posI L v j' else j' + 1) := ⟨rfl⟩
          have HSW := Aside0.mk (curI_swap L v j' (by omega))
          generalize hx : L.getD j' 0 = x at kp HPS HSW
          clear hx
          by_cases hxv : x > v
          · go_wp2_with (first
              | ((with_reducible refine gate_store (t := 22) (p := 68) rfl ?_); refine bw_store rfl rfl rfl (i := j' + 1) (y := x) HBJ.out (by rw [HCL.out]; omega) HB3.out rfl rfl ?_; intro w4 hB4 hb4; have HB4 := Aside0.mk hB4; have HB34 := Aside0.mk hb4; clear hB4 hb4)
              | ((with_reducible refine gate_store (t := 22) (p := 69) rfl ?_); refine bw_store rfl rfl rfl (i := j') (y := v) HB4.out (by rw [List.length_set, HCL.out]; omega) HB34.out rfl rfl ?_; intro w5 hB5 hb5; rw [HSW.out] at hB5; have HB5 := Aside0.mk hB5; have HB35 := Aside0.mk hb5; clear hB5 hb5)
              | fail)
            go_roundw
            case rel => exact ⟨j', by go_num, by omega, HB5, ⟨by rw [HPJ.out, HPS.out, if_pos hxv]⟩, HB35⟩
            case measure => first | (simp [intOf]; done) | (simp [intOf]; omega)
          · go_wp2_with fail
            have HFI : Aside0 (curI L v (j' + 1) = valsI ks f (items.take (k + 1))) := ⟨by rw [HVS.out]; unfold insI; rw [hkL, HPJ.out, HPS.out, if_neg hxv]⟩
            rw [HFI.out] at HBJ
            go_roundw
            case rel => exact ⟨k + 1, by go_num, by omega, HBJ, HB3⟩
            case measure => simp [intOf]; omega
    · obtain rfl : k = n := by omega
      have hvf := HVF.out items
      have hLL : (valsI ks f items).length = k := by rw [hvf.2.1, HN.out]
      rw [List.take_of_length_le (by rw [HN.out]; exact Nat.le_refl _)] at HBW
      have HSR := Aside0.mk hvf.1
      have HRG := Aside0.mk hvf.2.2
      have HLN := Aside0.mk hLL
      clear hvf
      obtain ⟨gv, cv, rfl, hcv⟩ := HBW.out.shape
      rw [hLL] at HBW hcv ⊢
      clear hLL HVF HSIP HHI
      obtain ⟨L, hL⟩ : ∃ L, L = valsI ks f items := ⟨_, rfl⟩
      rw [← hL] at HBW HSR HRG HLN
      have HLE := Aside0.mk hL
      clear hL
      obtain ⟨wa, hwa⟩ : ∃ wa, wa = wr := ⟨_, rfl⟩
      subst hwa
      have HBA := Aside0.mk (below_step HB1.out HB2.out)
      have HBB0 : Aside0 (Buf wa.heap.size (wa.alloc (.cells #[] 5)) (.slice (some ⟨wa.heap.size, 0, none⟩) 0 0) (bitsB p L 0)) := ⟨⟨wa.heap.size, 0, rfl, Nat.le_refl _, by show _ < (wa.heap.push _).size; simp, Nat.le_refl _, (fun j hj => absurd hj (Nat.not_lt_zero _)), (fun j hj => absurd hj (Nat.not_lt_zero _))⟩⟩
      have HB30 := Aside0.mk ((Below.refl wa.heap.size wa).alloc (Nat.le_refl _) (.cells #[] 5))
      have hlb0 : (bitsB p L 0).length ≤ 345 * 0 := Nat.le_refl _
      go_wp2_with fail
      go_loopw [14, 15, 76] (fun v14 v15 v76 wr => ∃ q : Nat, v76 = .int .i64 q ∧ q ≤ k ∧ (bitsB p L q).length ≤ 345 * q ∧ Aside0 (v15 = .int .u64 (if q = 0 then 0 else L.getD (q - 1) 0)) ∧ Aside0 (Buf wa.heap.size wr v14 (bitsB p L q)) ∧ Aside0 (Below wa.heap.size wa wr)) (fun _ _ v76 _ => k - (intOf v76).toNat)
      case atStart => exact ⟨0, rfl, Nat.zero_le _, hlb0, ⟨rfl⟩, HBB0, HB30⟩
      case round =>
        obtain ⟨q, rfl, hq, hlb, HLA, HBB, HB4⟩ := hrel
        clear HBB0 HB30 hlb0
        by_cases hqk : q < k
        · have hqL : q < L.length := by rw [HLN.out]; exact hqk
          have kv := pw_cell_below HB4.out (HBW.out.at_ q hqL).1
          have hlast : ∃ la : Int, la = (if q = 0 then 0 else L.getD (q - 1) 0) := ⟨_, rfl⟩
          obtain ⟨la, hla⟩ := hlast
          have hu := HLA.out
          rw [← hla] at hu
          subst hu
          have HLQ : Aside0 (L.getD q 0 = if q + 1 = 0 then 0 else L.getD (q + 1 - 1) 0) := ⟨by rw [if_neg (by omega)]; rfl⟩
          have hmem : L.getD q 0 ∈ L := by rw [getD_mem hqL]; exact List.getElem_mem _
          obtain ⟨hv0, hv1⟩ := HRG.out _ hmem
          have hlale : 0 ≤ la ∧ la ≤ L.getD q 0 := by
            rw [hla]
            by_cases hq0 : q = 0
            · rw [if_pos hq0]; exact ⟨Int.le_refl _, hv0⟩
            · rw [if_neg hq0, getD_mem (by omega), getD_mem hqL]
              exact ⟨(HRG.out _ (List.getElem_mem _)).1, List.pairwise_iff_getElem.1 HSR.out _ _ _ _ (by omega)⟩
          have HBQ : Aside0 (bitsB p L (q + 1) = bitsB p L q ++ diffB p (L.getD q 0 - la)) := ⟨by rw [hla]; rfl⟩
          clear hla HLA hmem
          generalize L.getD q 0 = v at kv HLQ hv0 hv1 hlale HBQ
          obtain ⟨d, hd⟩ : ∃ d, d = v - la := ⟨_, rfl⟩
          have HDE := Aside0.mk hd
          rw [← hd] at HBQ
          have hd0 : 0 ≤ d := by omega
          have hdf : d < f := by omega
          have hq320 : d / 2 ^ p < 320 := Int.ediv_lt_of_lt_mul (Int.pow_pos (by decide)) (by omega)
          have hq0 : 0 ≤ d / 2 ^ p := Int.ediv_nonneg hd0 (Int.le_of_lt (Int.pow_pos (by decide)))
          obtain ⟨Qn, hQn⟩ := Int.eq_ofNat_of_zero_le hq0
          have hQ320 : Qn ≤ 320 := by omega
          have HDB : Aside0 (diffB p d = List.replicate Qn 1 ++ [0] ++ restB p d p) := ⟨by unfold diffB; rw [hQn]; rfl⟩
          clear hq320 hq0
          have HQN := Aside0.mk hQn
          clear hQn hd
          go_wp2_with fail
          rw [← HDE.out, HQN.out]
          clear HDE HQN
          obtain ⟨bl, hbl⟩ : ∃ bl, bl = (bitsB p L q).length := ⟨_, rfl⟩
          rw [← hbl] at hlb
          have hbl6 : bl ≤ 6900 := by omega
          have HBLQ := Aside0.mk hbl.symm
          clear hbl
          generalize bitsB p L q = bq at HBB HBQ HBLQ
          have HB40 : Aside0 (Buf wa.heap.size wr u14 (bq ++ List.replicate (Qn - Qn) 1)) := ⟨by rw [Nat.sub_self, List.replicate_zero, List.append_nil]; exact HBB.out⟩
          go_loopw [14, 19] (fun v14 v19 w' => ∃ r : Nat, v19 = .int .u64 r ∧ r ≤ Qn ∧ Aside0 (Buf wa.heap.size w' v14 (bq ++ List.replicate (Qn - r) 1)) ∧ Aside0 (Below wa.heap.size wa w')) (fun _ v19 _ => (intOf v19).toNat)
          case atStart => exact ⟨Qn, rfl, Nat.le_refl _, HB40, HB4⟩
          case round =>
            obtain ⟨r, rfl, hr, HBR, HB5⟩ := hrel
            clear HB40 HBB
            have HRL : Aside0 ((bq ++ List.replicate (Qn - r) (1 : Int)).length = bl + (Qn - r)) := ⟨by rw [List.length_append, List.length_replicate, HBLQ.out]⟩
            rcases Nat.eq_zero_or_pos r with rfl | hr0
            · rw [Nat.sub_zero] at HBR HRL
              go_wp2_with (first
                | (at_builtin; refine wpList_buf_append (w0 := wa) wa.heap.size rfl (.tmp 94) (.tmp 95) 29 5 rfl Tryd.underlying29 info5 _ (bq ++ List.replicate Qn (1 : Int)) 0 rfl rfl HBR.out HB5.out HB5.out.size (by rw [HRL.out]; omega) ?_; intro v6 w6 hB6 hb6; have HB6 := Aside0.mk hB6; have HB56 := Aside0.mk hb6; clear hB6 hb6)
                | fail)
              have HB60 : Aside0 (Buf wa.heap.size w6 v6 (bq ++ List.replicate Qn (1 : Int) ++ [0] ++ restB p d (p - p))) := ⟨by rw [Nat.sub_self]; unfold restB; rw [List.append_nil]; exact HB6.out⟩
              go_loopw [14, 20] (fun v14 v20 w' => ∃ r : Nat, v20 = .int .i64 ((r : Int) - 1) ∧ r ≤ p ∧ Aside0 (Buf wa.heap.size w' v14 (bq ++ List.replicate Qn (1 : Int) ++ [0] ++ restB p d (p - r))) ∧ Aside0 (Below wa.heap.size wa w')) (fun _ v20 _ => (intOf v20 + 1).toNat)
              case atStart => exact ⟨p, by go_num, Nat.le_refl _, HB60, HB56⟩
              case round =>
                obtain ⟨r, rfl, hr, HBS, HB7⟩ := hrel
                clear HB60 HBR
                have HSL : Aside0 ((bq ++ List.replicate Qn (1 : Int) ++ [0] ++ restB p d (p - r)).length ≤ 7300) := ⟨by simp only [List.length_append, List.length_replicate, restB_length, HBLQ.out, List.length_singleton]; omega⟩
                rcases Nat.eq_zero_or_pos r with rfl | hr0
                · rw [Nat.sub_zero] at HBS
                  go_wp2_with fail
                  have HNX : Aside0 (bq ++ List.replicate Qn (1 : Int) ++ [0] ++ restB p d p = bitsB p L (q + 1)) := ⟨by rw [HBQ.out, HDB.out]; simp only [List.append_assoc]⟩
                  have HNL : Aside0 ((bitsB p L (q + 1)).length ≤ 345 * (q + 1)) := ⟨by rw [HBQ.out, HDB.out]; simp only [List.length_append, List.length_replicate, restB_length, HBLQ.out, List.length_singleton]; omega⟩
                  go_roundw
                  case rel => exact ⟨q + 1, by go_num, by omega, HNL.out, ⟨by rw [← HLQ.out]⟩, ⟨by rw [← HNX.out]; exact HBS.out⟩, HB7⟩
                  case measure => simp [intOf]; omega
                · obtain ⟨r', rfl⟩ : ∃ r', r = r' + 1 := ⟨r - 1, by omega⟩
                  have HRS : Aside0 (restB p d (p - r') = restB p d (p - (r' + 1)) ++ [d / 2 ^ r' % 2]) := ⟨by
                    rw [show p - r' = (p - (r' + 1)) + 1 by omega]
                    unfold restB
                    rw [show p - (p - (r' + 1) + 1) = r' by omega]
                    cases h : p - (r' + 1) <;> rfl⟩
                  have HBIT : Aside0 (Go.bits .and .u64 (d / 2 ^ r') 1 % 256 = d / 2 ^ r' % 2) := ⟨by
                    have hpos : (0 : Int) < 2 ^ r' := Int.pow_pos (by decide)
                    have h0 : 0 ≤ d / 2 ^ r' := Int.ediv_nonneg hd0 (Int.le_of_lt hpos)
                    have h1 : d / 2 ^ r' ≤ d := Int.ediv_le_self _ hd0
                    rw [show Go.bits .and .u64 (d / 2 ^ r') 1 = d / 2 ^ r' % 2 from bits_mask .u64 64 (by decide) (fun n h0 h1 => wrap_id h0 (by simpa using h1)) 1 (by decide) _ h0 (by simp; omega)]
                    omega⟩
                  go_wp2_with (first
                    | (at_builtin; refine wpList_buf_append (w0 := wa) wa.heap.size rfl (.tmp 104) (.tmp 110) 29 5 rfl Tryd.underlying29 info5 _ (bq ++ List.replicate Qn (1 : Int) ++ [0] ++ restB p d (p - (r' + 1))) (Go.bits .and .u64 (d / 2 ^ r') 1 % 256) rfl rfl HBS.out HB7.out HB7.out.size (by have := HSL.out; omega) ?_; intro v8 w8 hB8 hb8; rw [HBIT.out] at hB8; have HB8 := Aside0.mk hB8; have HB78 := Aside0.mk hb8; clear hB8 hb8)
                    | fail)
                  go_roundw
                  case rel => exact ⟨r', by first | (congr 1; omega) | go_num, by omega, ⟨by rw [HRS.out, ← List.append_assoc]; exact HB8.out⟩, HB78⟩
                  case measure => first | (simp [intOf]; done) | (simp [intOf]; omega)
            · obtain ⟨r', rfl⟩ : ∃ r', r = r' + 1 := ⟨r - 1, by omega⟩
              go_wp2_with (first
                | (at_builtin; refine wpList_buf_append (w0 := wa) wa.heap.size rfl (.tmp 91) (.tmp 92) 29 5 rfl Tryd.underlying29 info5 _ (bq ++ List.replicate (Qn - (r' + 1)) (1 : Int)) 1 rfl rfl HBR.out HB5.out HB5.out.size (by rw [HRL.out]; omega) ?_; intro v6 w6 hB6 hb6; have HB6 := Aside0.mk hB6; have HB56 := Aside0.mk hb6; clear hB6 hb6)
                | fail)
              go_roundw
              case rel => exact ⟨r', by go_num, by omega, ⟨by rw [show Qn - r' = (Qn - (r' + 1)) + 1 by omega, List.replicate_succ', ← List.append_assoc]; exact HB6.out⟩, HB56⟩
              case measure => first | (simp [intOf]; done) | (simp [intOf]; omega)
        · obtain rfl : q = k := by omega
          obtain ⟨bs, hbs⟩ : ∃ bs, bs = bitsB p L q := ⟨_, rfl⟩
          have hbl : bs.length ≤ 6900 := by rw [hbs]; omega
          have HBIT : Aside0 (∀ x ∈ bs, x = 0 ∨ x = 1) := ⟨by rw [hbs]; exact bitsB_bit p L q⟩
          rw [← hbs] at HBB
          have HBSE := Aside0.mk hbs
          clear hbs hlb HLA
          obtain ⟨gb, cb, rfl, hcb⟩ := HBB.out.shape
          obtain ⟨bl, hbe⟩ : ∃ bl, bl = bs.length := ⟨_, rfl⟩
          have HBE := Aside0.mk hbe
          rw [← hbe] at hbl hcb HBB ⊢
          have HBW9 := Aside0.mk (below_then HBA.out (below_size HBA.out) HB4.out)
          clear hbe
          have hbp : 0 < bl := by
            have h := HBSE.out
            have h2 := HBE.out
            obtain ⟨q', rfl⟩ : ∃ q', q = q' + 1 := ⟨q - 1, by omega⟩
            rw [h2, h]
            unfold bitsB diffB
            simp only [List.length_append, List.length_singleton]
            omega
          obtain ⟨nb, hnb⟩ : ∃ nb, nb = (bl + 7) / 8 := ⟨_, rfl⟩
          have hnb1 : ((bl : Int) + 7) / 8 = (nb : Int) := by omega
          have HO0 : Aside0 (outB bs 0 = List.replicate nb 0) := ⟨by unfold outB; rw [hnb, HBE.out]⟩
          have HNB := Aside0.mk hnb
          have hnbl : 0 < nb ∧ nb ≤ 1000 := by omega
          clear hnb
          obtain ⟨i0, hi, hz0, hz1, hz2⟩ := info_parts info5
          obtain ⟨wb, hwb⟩ : ∃ wb, wb = wr := ⟨_, rfl⟩
          subst hwb
          go_wp2_with (first
            | (at_make; refine wpList_make_full _ rfl _ _ 29 rfl wb.heap.size 5 i0 (.int .u8 0) 1 Tryd.underlying29 hi hz0 hz1 .i64 .i64 _ _ nb rfl rfl (by first | rfl | exact hnb1 | omega) (by first | rfl | exact hnb1 | omega) (by rw [hz2]; omega) (by unfold maxLen; omega) (Nat.le_refl _) ?_; intro wm hown hgrow; rw [made_zeros, ← List.map_replicate] at hown; have HOB := Aside0.mk (Buf.of_own (xs := List.replicate nb 0) (by simp) (by omega) hown); have HBM := Aside0.mk ((Below.refl wb.heap.size wb).grown hgrow (Nat.le_refl _) (fun _ h => by cases h)); clear hown hgrow)
            | fail)
          have HOB0 : Aside0 (Buf wb.heap.size wm (.slice (some ⟨wb.heap.size, 0, none⟩) nb nb) (outB bs 0)) := ⟨by rw [HO0.out]; exact HOB.out⟩
          clear HOB HO0 hnb1 hi hz0 hz1 hz2
          go_loopw [120] (fun v120 w' => ∃ i : Nat, v120 = .int .i64 i ∧ i ≤ bl ∧ Aside0 (Buf wb.heap.size w' (.slice (some ⟨wb.heap.size, 0, none⟩) nb nb) (outB bs i)) ∧ Aside0 (Below wb.heap.size wb w')) (fun v120 _ => bl - (intOf v120).toNat)
          case atStart => exact ⟨0, rfl, Nat.zero_le _, HOB0, HBM⟩
          case round =>
            obtain ⟨i, rfl, hi8, HOI, HBI⟩ := hrel
            clear HOB0 HBM
            by_cases hib : i < bl
            · have HOL := Aside0.mk (outB_facts bs i).1
              have kb := pw_cell_below HBI.out (HBB.out.at_ i (by rw [← HBE.out]; exact hib)).1
              obtain ⟨I8, hI8⟩ : ∃ I8, I8 = i / 8 := ⟨_, rfl⟩
              obtain ⟨S8, hS8⟩ : ∃ S8, S8 = 7 - i % 8 := ⟨_, rfl⟩
              have e8 : (i : Int) / 8 = (I8 : Int) := by omega
              have es : (7 : Int) - (i : Int) % 8 = (S8 : Int) := by omega
              have hInb : I8 < nb := by have := HNB.out; omega
              obtain ⟨f1, f2⟩ := HOI.out.at_ I8 (by rw [HOL.out, ← HBE.out, ← HNB.out]; exact hInb)
              have HST : Aside0 (outB bs (i + 1) = (outB bs i).set I8 (Go.bits .or .u8 ((outB bs i).getD I8 0) (IntKind.u8.wrap (bs.getD i 0 * 2 ^ S8)))) := ⟨by rw [hI8, hS8]; rfl⟩
              have HSO := HOI.out.store I8 (by rw [HOL.out, ← HBE.out, ← HNB.out]; exact hInb) (Go.bits .or .u8 ((outB bs i).getD I8 0) (IntKind.u8.wrap (bs.getD i 0 * 2 ^ S8)))
              rw [← HST.out] at HSO
              have HSX := Aside0.mk HSO
              clear HSO HST
              generalize (outB bs i).getD I8 0 = y at f1 HSX
              generalize bs.getD i 0 = bv at kb HSX
              have hS7 : S8 ≤ 7 := by omega
              clear hI8 hS8
              rw [IntKind.wrap_u8] at HSX
              go_wp2_with fail
              go_region
              all_goals
                go_wp2_with fail
                go_roundw
                case rel => exact ⟨i + 1, by go_num, by omega, ⟨HSX.out.below (by repeat (first | (with_reducible exact Below.refl _ _) | apply below_drew1 | apply pw_below_drewN))⟩, ⟨by repeat (first | (with_reducible exact (HBI.out.setCell (Nat.le_refl _) _)) | apply below_drew1 | apply pw_below_drewN)⟩⟩
                case measure => simp [intOf]; omega
            · obtain rfl : i = bl := by omega
              have HFB := Aside0.mk (below_then HBW9.out (below_size HBW9.out) HBI.out)
              go_wp2_with fail
              refine bodyPost_ret (results_tmp rfl _ _ _) rfl ?_
              obtain ⟨q1, q2, q3⟩ := HOI.out.reads (by rw [(outB_facts bs i).1, ← HBE.out]; omega)
              rw [← HLE.out, ← HBSE.out, ← HBE.out]
              unfold IsBytes
              have hbl2 : (outB bs i).length = nb := q1.symm
              rw [hbl2]
              exact ⟨_, _, rfl, q2, q3, HFB.out⟩
end Go.Proofs.YtfhkkojdaejnjaaDoor.Gcs
namespace Go.Proofs.YtfhkkojdaejnjaaDoor.Gcs
open Go.RowKit Go.Proofs.YtfhkkojdaejnjaaDoor.Hand Go.Proofs.YtfhkkojdaejnjaaDoor.Buf Go.Proofs.YtfhkkojdaejnjaaDoor.PFnForms Go.Proofs.YtfhkkojdaejnjaaDoorW.PrintWords Go.Proofs.YtfhkkojdaejnjaaDoorW.PrintLast Go.Proofs.YtfhkkojdaejnjaaDoorW.PrintMore

/-- Bytes as cells. -/
def by8 (D : List Int) : Obj := .cells (D.map (Value.int .u8)).toArray 5 (0, 0)
def fltO (n p md : Int) (A : Option Addr) (l c : Nat) : Obj := .cells #[.int .u32 n, .int .u8 p, .int .u64 md, .slice A l c] 62 (0, 0)
structure Flt (w : World) (g : Nat) (n p md : Int) (A : Option Addr) (c : Nat) (D : List Int) : Prop where
  blk : w.heap[g]? = some (fltO n p md A D.length c)
  C : Kd.C (Kd.int .u8) w A D.length D
  cap : D.length ≤ c
theorem Flt.below {w w1 : World} {g : Nat} {n p md : Int} {A : Option Addr} {c : Nat} {D : List Int} (h : Flt w g n p md A c D) (hb : Below w.heap.size w w1) : Flt w1 g n p md A c D :=
  ⟨(hb.block g (blk_lt h.blk)).trans h.blk, Kd.C_below h.C hb, h.cap⟩
theorem Flt.cells {w : World} {g : Nat} {n p md : Int} {A : Option Addr} {c : Nat} {D : List Int} (h : Flt w g n p md A c D) :
    w.cell? ⟨g, 0, none⟩ = some (.int .u32 n) ∧ w.cell? ⟨g, 1, none⟩ = some (.int .u8 p) ∧ w.cell? ⟨g, 2, none⟩ = some (.int .u64 md) ∧ w.cell? ⟨g, 3, none⟩ = some (.slice A D.length c) := by
  have hb : w.heap[g]? = some (.cells #[.int .u32 n, .int .u8 p, .int .u64 md, .slice A D.length c] 62 (0, 0)) := h.blk
  exact ⟨by rw [blk_cell hb]; rfl, by rw [blk_cell hb]; rfl, by rw [blk_cell hb]; rfl, by rw [blk_cell hb]; rfl⟩
theorem size5 : (Tryd.prog.info? 5).map (·.size) = some 1 := by kernel_rfl
theorem clone_calls (A : Option Addr) (c : Nat) (b : List Int) (w : World) (hC : Kd.C (Kd.int .u8) w A b.length b) (hb : b.length ≤ 1000000) :
    Calls Tryd.prog 32 #[.slice A b.length c] w fun e w' => ∃ v, e = .returned v ∧ Kd.R (Kd.int .u8) 5 w' w.heap.size (fun _ => True) v b ∧ Below w.heap.size w w' := by
  have HC := Aside0.mk hC
  have HB := Aside0.mk (Below.refl w.heap.size w)
  clear hC
  go_enter Tryd.func32, Tryd.ntmps32
  go_wp2_with (first | (refine Kd.R_append_row (h1 := fun _ => rfl) (w0 := w) (Value.int .u8) (0 : Int) w.heap.size rfl _ _ 29 5 (.int .u8 0) 1 rfl Tryd.underlying29 info5 rfl (by decide) (.slice none 0 0) [] b A b.length c (fun _ => True) rfl rfl (fun _ _ => trivial) (Kd.R_nil _ _ _ _ _) HC.out HB.out (Nat.le_refl _) (by simp; omega) ?_; intro v1 w1 hR hB1 _ _) | fail)
  go_ret
  exact ⟨_, rfl, by rw [List.nil_append] at hR; exact hR, hB1⟩
theorem varint_calls (n : Int) (w : World) (h0 : 0 ≤ n) (h1 : n < 253) : Calls Tryd.prog 45 #[.int .u64 n] w fun e w' => e = .returned (.slice (some ⟨w.heap.size, 0, none⟩) 1 1) ∧ w' = w.alloc (.cells #[.int .u8 n] 5) := by
  have e : n % 256 = n := by omega
  go_enter Tryd.func45, Tryd.ntmps45
  go_wp2
  go_ret
  exact ⟨rfl, rfl⟩
theorem N_calls (g : Nat) (n p md : Int) (A : Option Addr) (c : Nat) (D : List Int) (w : World) (hF : Flt w g n p md A c D) : Calls Tryd.prog 19 #[.pointer (some ⟨g, 0, none⟩)] w fun e w' => e = .returned (.int .u32 n) ∧ w' = w := by
  obtain ⟨k0, k1, k2, k3⟩ := hF.cells
  clear hF
  go_enter Tryd.func19, Tryd.ntmps19
  go_wp2
  go_ret
  exact ⟨rfl, rfl⟩
theorem P_calls (g : Nat) (n p md : Int) (A : Option Addr) (c : Nat) (D : List Int) (w : World) (hF : Flt w g n p md A c D) : Calls Tryd.prog 20 #[.pointer (some ⟨g, 0, none⟩)] w fun e w' => e = .returned (.int .u8 p) ∧ w' = w := by
  obtain ⟨k0, k1, k2, k3⟩ := hF.cells
  clear hF
  go_enter Tryd.func20, Tryd.ntmps20
  go_wp2
  go_ret
  exact ⟨rfl, rfl⟩
theorem splice_all (k : IntKind) (D : List Int) : splice (List.replicate D.length (Value.int k 0)) 0 (D.map (Value.int k)) = D.map (Value.int k) := by
  unfold splice
  simp
/-- What hands back a fresh copy. -/
def IsCopy (w : World) (D : List Int) (e : Ending) (w' : World) : Prop := ∃ g, e = .returned (.tuple #[.slice (some ⟨g, 0, none⟩) D.length D.length, .nilIface]) ∧ w'.heap[g]? = some (by8 D) ∧ w.heap.size ≤ g ∧ Below w.heap.size w w'
set_option maxHeartbeats 4000000 in
theorem bytes_calls (f : Nat) (n p md : Int) (A : Option Addr) (c : Nat) (D : List Int) (w : World) (hF : Flt w f n p md A c D) (hD : D.length ≤ 1000000) : Calls Tryd.prog 18 #[.pointer (some ⟨f, 0, none⟩)] w (IsCopy w D) := by
  obtain ⟨k0, k1, k2, k3⟩ := hF.cells
  have HF := Aside0.mk hF
  clear hF k0 k1 k2
  obtain ⟨i0, hi, hz0, hz1, hz2⟩ := info_parts info5
  have HII := Aside0.mk (And.intro hi (And.intro hz0 (And.intro hz1 hz2)))
  clear hi hz0 hz1 hz2
  obtain ⟨l, hl⟩ : ∃ l, l = D.length := ⟨_, rfl⟩
  have HL := Aside0.mk hl
  rw [← hl] at hD k3
  clear hl
  go_enter Tryd.func18, Tryd.ntmps18
  go_wp2_with (first
    | (at_make; refine wpList_make_full w rfl _ _ 29 rfl w.heap.size 5 i0 (.int .u8 0) 1 Tryd.underlying29 HII.out.1 HII.out.2.1 HII.out.2.2.1 .i64 .i64 _ _ l rfl rfl rfl rfl (by rw [HII.out.2.2.2]; omega) (by unfold maxLen; omega) (Nat.le_refl _) ?_; intro w1 hown hgrow; have HO := Aside0.mk (own_full hown).1; have HB1 := Aside0.mk ((Below.refl w.heap.size w).grown hgrow (Nat.le_refl _) (fun _ h => by cases h)); have HF1 := Aside0.mk (HF.out.below HB1.out); have k4 := HF1.out.cells.2.2.2; rw [← HL.out] at k4; clear hown hgrow k3)
    | (with_reducible refine wpList_copy_splice rfl (.tmp 11) (.tmp 15) 29 29 rfl 5 Tryd.underlying29 size5 _ _ _ _ _ _ rfl rfl w.heap.size 0 _ 5 HO.out (D.map (Value.int .u8)) (by simp [HL.out]) (fun hp => ⟨rfl, by obtain ⟨ad, e, hc⟩ := C_cells HF1.out.C (by simpa using hp); exact ⟨ad, e, hc⟩⟩) (by rw [made_zeros]; simp [HL.out]) (ints_one _ _) w.heap.size w HB1.out (Nat.le_refl _) ?_; intro w3 hsp hb3; have HSP := Aside0.mk hsp.out; have HB3 := Aside0.mk hb3; clear hsp hb3)
    | fail)
  refine bodyPost_ret (results_tmp2 rfl _ _ _) rfl ?_
  refine ⟨w.heap.size, by rw [← HL.out]; rfl, ?_, Nat.le_refl _, HB3.out⟩
  have h := HSP.out
  rw [made_zeros, HL.out, splice_all] at h
  exact h
section
variable {ops : Array Oper} {rest : List Oper} {o : Oper} {a : Act} {Q : Exit → Act → World → Prop} {W : World}
theorem cell_of_blk {w : World} {g i : Nat} {cs : Array Value} {T : TypeId} {z : Value} (hb : w.heap[g]? = some (.cells cs T (0, 0))) (hi : cs[i]? = some z) : w.cell? ⟨g, i, none⟩ = some z ∧ w.frozen? ⟨g, i, none⟩ = false := by
  rw [blk_cell hb]
  exact ⟨hi, by unfold World.frozen?; simp only [hb]; simp⟩
theorem blk_store22 (hgd : o.guard = none) {p : Tmp} {v : Operand} (ho : o.op = .store 22 (.tmp p) v) (hN : o.dst = none) {g i : Nat} {B : Nat} {w0 : World} {y z : Int} {cs : Array Value} {T : TypeId} (hb : W.heap[g]? = some (.cells cs T (0, 0))) (hi : cs[i]? = some (.int .u64 z)) (hB : Below B w0 W) (hg : B ≤ g)
    (hp : a.eval (.tmp p) = .pointer (some ⟨g, i, none⟩)) (hv : a.eval v = .int .u64 y)
    (h : ∀ w1, w1.heap[g]? = some (.cells (cs.setIfInBounds i (.int .u64 y)) T (0, 0)) → Below B w0 w1 → (∀ k, k ≠ g → w1.heap[k]? = W.heap[k]?) → wpList Tryd.prog ops Q rest a w1) : wpList Tryd.prog ops Q (o :: rest) a W :=
  store_event hgd ho hN (st_run ho hp hv (cell_of_blk hb hi).1 (cell_of_blk hb hi).2) fun w1 e => h w1 (by subst e; exact bx_set hb) (by subst e; exact hB.setCell hg _) (by subst e; exact fun k hk => Below.heap_setCell W _ _ k hk)
theorem st_run29 {p : Tmp} {v : Operand} (ho : o.op = .store 29 (.tmp p) v) {g i : Nat} {A A1 : Option Addr} {l c l1 c1 : Nat} (hp : a.eval (.tmp p) = .pointer (some ⟨g, i, none⟩)) (hv : a.eval v = .slice A l c) (hc : W.cell? ⟨g, i, none⟩ = some (.slice A1 l1 c1)) (hf : W.frozen? ⟨g, i, none⟩ = false) :
    (execOp a.eval o).run Tryd.prog W = .ok .skip (W.setCell ⟨g, i, none⟩ (.slice A l c)) := by
  unfold execOp
  rw [ho]
  simp only [hp, hv]
  simp [go_sem, hc, hf]
theorem blk_store29 (hgd : o.guard = none) {p : Tmp} {v : Operand} (ho : o.op = .store 29 (.tmp p) v) (hN : o.dst = none) {g i : Nat} {B : Nat} {w0 : World} {A A1 : Option Addr} {l c l1 c1 : Nat} {cs : Array Value} {T : TypeId} (hb : W.heap[g]? = some (.cells cs T (0, 0))) (hi : cs[i]? = some (.slice A1 l1 c1)) (hB : Below B w0 W) (hg : B ≤ g)
    (hp : a.eval (.tmp p) = .pointer (some ⟨g, i, none⟩)) (hv : a.eval v = .slice A l c)
    (h : ∀ w1, w1.heap[g]? = some (.cells (cs.setIfInBounds i (.slice A l c)) T (0, 0)) → Below B w0 w1 → (∀ k, k ≠ g → w1.heap[k]? = W.heap[k]?) → wpList Tryd.prog ops Q rest a w1) : wpList Tryd.prog ops Q (o :: rest) a W :=
  store_event hgd ho hN (st_run29 ho hp hv (cell_of_blk hb hi).1 (cell_of_blk hb hi).2) fun w1 e => h w1 (by subst e; exact bx_set hb) (by subst e; exact hB.setCell hg _) (by subst e; exact fun k hk => Below.heap_setCell W _ _ k hk)
end
theorem C_by8 {w : World} {g : Nat} {D : List Int} (h : w.heap[g]? = some (by8 D)) (hl : D.length ≤ 1000000) : Kd.C (Kd.int .u8) w (some ⟨g, 0, none⟩) D.length D := C_of_block (e := 5) (fr := (0, 0)) h (by omega)
/-- A filter that was made. -/
def IsFlt (w : World) (n p md : Int) (D : List Int) (e : Ending) (w' : World) : Prop := ∃ f A c, e = .returned (.tuple #[.pointer (some ⟨f, 0, none⟩), .nilIface]) ∧ Flt w' f n p md A c D ∧ w.heap.size ≤ f ∧ Below w.heap.size w w'
set_option maxRecDepth 100000 in
set_option maxHeartbeats 4000000 in
theorem fromBytes_calls (n p m md : Int) (A : Option Addr) (c : Nat) (D : List Int) (w : World) (hp : p ≤ 32) (hn0 : 0 ≤ n) (hn1 : n ≤ 60) (hmd : IntKind.u64.wrap (n * m) = md) (hC : Kd.C (Kd.int .u8) w A D.length D) (hD : D.length ≤ 1000000) :
    Calls Tryd.prog 42 #[.int .u32 n, .int .u8 p, .int .u64 m, .slice A D.length c] w (IsFlt w n p md D) := by
  have HC := Aside0.mk hC
  have HMD := Aside0.mk hmd
  obtain ⟨i0, hi, hz0, hz1, hz2⟩ := info_parts info5
  have HII := Aside0.mk (And.intro hi (And.intro hz0 (And.intro hz1 hz2)))
  obtain ⟨l, hl⟩ : ∃ l, l = D.length := ⟨_, rfl⟩
  have HL := Aside0.mk hl
  have HB := Aside0.mk (Below.refl w.heap.size w)
  rw [← hl] at hD ⊢
  clear hi hz0 hz1 hz2 hl hC hmd
  go_enter Tryd.func42, Tryd.ntmps42
  go_wp2_with (first
    | ((with_reducible refine gate_dst (N := 17) rfl ?_); refine box_event ?hg (N := 17) ?hd (cs := #[.int .u32 n, .int .u8 p, .int .u64 0, .slice none 0 0]) (t := 62) ?hr ?_; (case hd => rfl); (case hg => rfl); (case hr => first | (go_simp; done) | (go_simp; rfl)); intro f hg w1 hbox hb1; have HF1 := Aside0.mk hbox; have HB1 := Aside0.mk (below_step HB.out hb1); have HG : Aside0 (w.heap.size ≤ f) := ⟨by rw [hg]; exact Nat.le_refl _⟩; have k0 := (cell_of_blk hbox (i := 0) rfl).1; clear hg hbox hb1)
    | ((with_reducible refine gate_store (t := 22) (p := 27) rfl ?_); refine blk_store22 rfl rfl rfl (i := 2) (z := 0) HF1.out rfl HB1.out HG.out rfl rfl ?_; intro w2 hF hB hK; have HF2 := Aside0.mk hF; have HB2 := Aside0.mk hB; have HFL := Aside0.mk (Array.getElem?_eq_some_iff.1 hF).1; clear hF hB hK k0)
    | (at_make; refine wpList_make_full _ rfl _ _ 29 rfl w.heap.size 5 i0 (.int .u8 0) 1 Tryd.underlying29 HII.out.1 HII.out.2.1 HII.out.2.2.1 .i64 .i64 _ _ l rfl rfl rfl rfl (by rw [HII.out.2.2.2]; omega) (by unfold maxLen; omega) HB2.out.size ?_; intro w3 hown hgrow; have HO := Aside0.mk (own_full hown); have HB3 := Aside0.mk (HB2.out.grown hgrow HB2.out.size (fun _ h => by cases h)); have HF3 := Aside0.mk ((hgrow.block _ HFL.out (by simp)).trans HF2.out); clear hown hgrow)
    | ((with_reducible refine gate_store (t := 29) (p := 33) rfl ?_); refine blk_store29 rfl rfl rfl (i := 3) HF3.out rfl HB3.out HG.out rfl rfl ?_; intro w4 hF hB hK; have HF4 := Aside0.mk hF; have HB4 := Aside0.mk hB; have HO4 := Aside0.mk ((hK _ (Nat.ne_of_gt HFL.out)).trans HO.out.1); have k3 := (cell_of_blk hF (i := 3) rfl).1; clear hF hB hK)
    | (with_reducible refine wpList_copy_splice rfl (.tmp 37) (.tmp 38) 29 29 rfl 5 Tryd.underlying29 size5 _ _ _ _ _ _ rfl rfl w2.heap.size 0 _ 5 HO4.out (D.map (Value.int .u8)) (by simp [HL.out]) (fun hp => ⟨rfl, by obtain ⟨ad, e, hc⟩ := C_cells (Kd.C_below HC.out HB4.out) (by simpa using hp); exact ⟨ad, e, hc⟩⟩) (by rw [made_zeros]; simp [HL.out]) (ints_one _ _) (f + 1) w4 (Below.refl _ _) (by have := HFL.out; omega) ?_; intro w5 hsp hb5; have HSP := Aside0.mk hsp.out; have HB5 := Aside0.mk hb5; clear hsp hb5 k3)
    | fail)
  refine bodyPost_ret (results_tmp2 rfl _ _ _) rfl ?_
  have h := HSP.out
  rw [made_zeros, HL.out, splice_all] at h
  have hB5 : Below w.heap.size w w5 := by
    have hle : w.heap.size ≤ f + 1 := Nat.le_succ_of_le HG.out
    exact HB4.out.trans ⟨HB5.out.os, HB5.out.tape, HB5.out.output, HB5.out.size, fun k hk => HB5.out.block k (by omega)⟩
  refine ⟨f, some ⟨w2.heap.size, 0, none⟩, l, rfl, ⟨?_, C_by8 h (by rw [← HL.out]; exact hD), by rw [HL.out]; exact Nat.le_refl _⟩, HG.out, hB5⟩
  have h4 := HF4.out
  rw [HMD.out] at h4
  have h5 := (HB5.out.block f (Nat.lt_succ_self f)).trans h4
  rw [HL.out] at h5 ⊢
  exact h5
end Go.Proofs.YtfhkkojdaejnjaaDoor.Gcs
namespace Go.Proofs.YtfhkkojdaejnjaaDoor.Gcs
open Go.RowKit Go.Proofs.YtfhkkojdaejnjaaDoor.Hand Go.Proofs.YtfhkkojdaejnjaaDoor.Buf Go.Proofs.YtfhkkojdaejnjaaDoor.PFnForms Go.Proofs.YtfhkkojdaejnjaaDoorW.PrintWords Go.Proofs.YtfhkkojdaejnjaaDoorW.PrintLast Go.Proofs.YtfhkkojdaejnjaaDoorW.PrintMore

def IsRow (w : World) (D : List Int) (e : Ending) (w' : World) : Prop := ∃ v, e = .returned (.tuple #[v, .nilIface]) ∧ (Kd.int .u8).R 5 w' w.heap.size (fun _ => True) v D ∧ Below w.heap.size w w'
def IsOne (w : World) (D : List Int) (e : Ending) (w' : World) : Prop := ∃ v, e = .returned v ∧ (Kd.int .u8).R 5 w' w.heap.size (fun _ => True) v D ∧ Below w.heap.size w w'
theorem varint_R (n : Int) (w : World) (h0 : 0 ≤ n) (h1 : n < 253) : Calls Tryd.prog 45 #[.int .u64 n] w (IsOne w [n]) :=
  (varint_calls n w h0 h1).mono fun e w' ⟨a, b⟩ => by
    subst b
    refine ⟨_, a, ?_, (Below.refl _ _).alloc (Nat.le_refl _) _⟩
    have h := own_lit w w.heap.size 5 .u8 [n] (Nat.le_refl _) (by simp)
    exact Kd.R_of_own (enc := Value.int .u8) (h1 := fun _ => rfl) (xs := [n]) h (fun _ _ => trivial)

theorem step_calls {P : Program} {ops : Array Oper} {o : Oper} {a : Act} {W : World} {Kc : Act → World → Prop} {Q : Exit → Act → World → Prop} {E : Prop} (hgd : o.guard = none) {f : FuncId} {vals : Array Value} {Post : Ending → World → Prop}
    (hrun : (execOp a.eval o).run P W = .ok (.enter f vals) W) (hc : Calls P f vals W Post) (hp : ∀ e w1, Post e w1 → ∃ v, e = .returned v ∧ Kc (a.put o.dst v) w1) :
    if Region.wanted o (yielded ops a.tmps) = true then Oper.wp P o a W Kc Q else E := by
  rw [if_pos (by simp [Region.wanted, hgd])]
  unfold Oper.wp
  rw [hrun, Oper.upon_enter]
  exact hc.mono fun e w1 h => by
    obtain ⟨v, rfl, hk⟩ := hp e w1 h
    exact hk
set_option maxRecDepth 100000 in
set_option maxHeartbeats 8000000 in
theorem nbytes_calls (f : Nat) (n p md : Int) (A : Option Addr) (c : Nat) (D : List Int) (w : World) (hF : Flt w f n p md A c D) (hD : D.length ≤ 1000000) (h0 : 0 ≤ n) (h1 : n < 253) : Calls Tryd.prog 28 #[.pointer (some ⟨f, 0, none⟩)] w (IsRow w (n :: D)) := by
  obtain ⟨k0, k1, k2, k3⟩ := hF.cells
  have HF := Aside0.mk hF
  clear hF k1 k2
  obtain ⟨l, hl⟩ : ∃ l, l = D.length := ⟨_, rfl⟩
  have HL := Aside0.mk hl
  rw [← hl] at hD k3
  have HV : Aside0 (∀ W, Calls Tryd.prog 45 #[.int .u64 (IntKind.u64.wrap n)] W (IsOne W [n])) := ⟨fun W => by rw [wrap_id h0 (by omega)]; exact varint_R n W h0 h1⟩
  clear hl
  go_enter Tryd.func28, Tryd.ntmps28
  go_wp2_with fail
  go_region_law (first
    | (refine step_calls (o := ⟨some 9, _, _, _, _, _⟩) rfl (f := 45) (vals := #[.int .u64 (IntKind.u64.wrap n)]) (by go_simp) (HV.out _) ?_; intro e1 w1 hq; unfold IsOne at hq; obtain ⟨v1, rfl, hR1, hb1⟩ := hq; refine ⟨_, rfl, ?_⟩; have HB1 := Aside0.mk (show Below w.heap.size w w1 from below_step (below_drew (Below.refl _ _)) hb1); have HR1 := Aside0.mk hR1; have HF1 := Aside0.mk (HF.out.below HB1.out); have k4 := HF1.out.cells.2.2.2; rw [← HL.out] at k4; clear hR1 hb1)
    | (refine Kd.R_append_rows_step (Kd.int .u8) (w0 := w) w.heap.size rfl (.tmp 9) (.tmp 13) 29 5 (.int .u8 0) 1 rfl Tryd.underlying29 info5 rfl (by decide) (by decide) v1 [n] D A l c (fun _ => True) (fun _ => False) rfl rfl HR1.out (by rw [HL.out]; exact HF1.out.C) (fun _ _ h => h) (fun _ h => h.elim) (fun _ _ => trivial) HB1.out HB1.out.size (by simp; omega) ?_; intro v2 w2 hR2 hb2 _ _; have HR2 := Aside0.mk hR2; have HB2 := Aside0.mk hb2; clear hR2 hb2))
  all_goals
    go_wp2_with fail
    exact bodyPost_ret (results_tmp2 rfl _ _ _) rfl ⟨_, rfl, HR2.out, HB2.out⟩

end Go.Proofs.YtfhkkojdaejnjaaDoor.Gcs
