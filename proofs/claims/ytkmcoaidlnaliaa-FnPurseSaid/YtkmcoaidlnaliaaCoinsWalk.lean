/-
  NewCoinSet, CoinSet.Coins, TotalValue and TotalValueAge, walked.
-/
import Derived.Test.YtkmcoaidlnaliaaInvWalk
namespace Go.Proofs.Ytkmcoaidlnaliaa.Purse
open Go.RowKit Go.Proofs.Ytkmcoaidlnaliaa.Hand Go.Proofs.YtkmcoaidlnaliaaW.PrintWords Go.Proofs.YtkmcoaidlnaliaaW.PrintLast Go.Proofs.YtkmcoaidlnaliaaW.PrintMore

abbrev listO (L : Nat) : Obj := .cells #[P L, P L, .pointer none, .nilIface, .int .i64 0] 78 (0, 0)
abbrev setO (L : Nat) : Obj := .cells #[P L, .int .i64 0, .int .i64 0] 69 (0, 0)
set_option maxHeartbeats 4000000 in
theorem listNew (w : World) : Calls Try.prog 19 #[] w fun e w' => e = .returned (P w.heap.size) ∧ w' = w.alloc (listO w.heap.size) := by
  go_enter Try.func19, Try.ntmps19
  go_wp2
  go_ret
  exact ⟨rfl, rfl⟩
theorem new_inv (w : World) : Inv ((w.alloc (listO w.heap.size)).alloc (setO w.heap.size)) w.heap.size (w.heap.size + 1) w.heap.size [] [] := by
  have hs1 : (w.alloc (listO w.heap.size)).heap.size = w.heap.size + 1 := by simp
  have h1 := new_blk w (listO w.heap.size)
  have h2 := new_blk (w.alloc (listO w.heap.size)) (setO w.heap.size)
  rw [hs1] at h2
  have hb : Below (w.alloc (listO w.heap.size)).heap.size (w.alloc (listO w.heap.size)) ((w.alloc (listO w.heap.size)).alloc (setO w.heap.size)) := below_alloc (Below.refl _ _) _
  have h3 : ((w.alloc (listO w.heap.size)).alloc (setO w.heap.size)).heap[w.heap.size]? = some (listO w.heap.size) := (hb.block _ (by rw [hs1]; omega)).trans h1
  have hs2 : ((w.alloc (listO w.heap.size)).alloc (setO w.heap.size)).heap.size = w.heap.size + 2 := by simp
  generalize (w.alloc (listO w.heap.size)).alloc (setO w.heap.size) = W at h2 h3 hs2
  have c := blk_cell h3
  have d := blk_cell h2
  refine ⟨⟨by simp, fun b hb => ?_, fun b hb => ?_, c 4, c 0, c 1, fun b hb => by simp at hb, rfl, fun i b v h => by simp at h⟩, ⟨d 0, d 1, d 2, blk_frozen h2 1, blk_frozen h2 2⟩, by simp, by omega, by omega⟩
  · rw [List.mem_singleton.1 hb]; omega
  · rw [List.mem_singleton.1 hb]; exact ⟨_, _, h3⟩
def IsNew (w : World) (en : Ending) (w' : World) : Prop := ∃ C L, en = .returned (P C) ∧ Inv w' w.heap.size C L [] [] ∧ Below w.heap.size w w'
set_option maxHeartbeats 4000000 in
theorem newSet (w : World) : Calls Try.prog 10 #[.slice none 0 0] w (IsNew w) := by
  have HI := Aside0.mk (new_inv w)
  have HB : Aside0 (Below w.heap.size w ((w.alloc (listO w.heap.size)).alloc (setO w.heap.size))) := ⟨below_alloc (below_alloc (Below.refl _ _) _) _⟩
  go_enter Try.func10, Try.ntmps10
  go_wp2_with (first | (go_at_call 19; refine (listNew w).mono ?_; rintro e1 w1 ⟨rfl, rfl⟩) | fail)
  revert HI HB
  generalize (w.alloc (listO w.heap.size)).alloc (setO w.heap.size) = W
  obtain ⟨L, hL⟩ : ∃ L, L = w.heap.size := ⟨_, rfl⟩
  obtain ⟨C, hC⟩ : ∃ C, C = L + 1 := ⟨_, rfl⟩
  have HLE := Aside0.mk hL
  rw [← hL, ← hC]
  clear hL hC
  intro HI HB
  go_loopw [11] (fun v11 wr => v11 = .int .i64 0 ∧ wr = W) (fun _ _ => 0)
  case atStart => exact ⟨rfl, rfl⟩
  case round =>
    obtain ⟨rfl, rfl⟩ := hrel
    go_wp2
    go_ret
    exact ⟨C, L, rfl, by rw [← HLE.out]; exact HI.out, by rw [← HLE.out]; exact HB.out⟩

theorem info76 : ∃ j, Try.prog.info? 76 = some j ∧ j.size ≠ 0 := by
  obtain ⟨j, hj, hs⟩ := Option.map_eq_some_iff.1 (show (Try.prog.info? 76).map (fun i => i.size) = some 4 by kernel_rfl)
  exact ⟨j, hj, by rw [hs]; decide⟩
theorem nePSame (L : Nat) : ∀ w, Sem.run Try.prog (binOp BinOp.neq 70 (P L) (P L)) w = .ok (.bool false) w := fun w => by
  obtain ⟨j, hj, _⟩ := info76
  have h : ∀ d : Nat, (Op.equalIn (d + 1) 70 (P L) (P L)).run Try.prog w = .ok true w := fun d => by
    simp [Op.equalIn, run_underlying Try.underlying70, sizeOf, typeInfo, hj, run_sameAddr_same]
  simp only [binOp]
  simp [Op.equal, Op.maxDepth, h 9999]
theorem nePOther (c L : Nat) (w : World) (hne : c ≠ L) (hc : IsCells w c) (hL : IsCells w L) : Sem.run Try.prog (binOp BinOp.neq 70 (P c) (P L)) w = .ok (.bool true) w := by
  obtain ⟨j, hj, hs⟩ := info76
  obtain ⟨ca, ta, ha⟩ := hc
  obtain ⟨cb, tb, hb⟩ := hL
  have hne2 : (⟨c, 0, none⟩ : Addr) ≠ ⟨L, 0, none⟩ := fun e => hne (by injection e)
  have h : ∀ d : Nat, (Op.equalIn (d + 1) 70 (P c) (P L)).run Try.prog w = .ok false w := fun d => by
    simp [Op.equalIn, run_underlying Try.underlying70, sizeOf, typeInfo, hj, hs, run_sameAddr_other w hne2 ha hb]
  simp only [binOp]
  simp [Op.equal, Op.maxDepth, h 9999]
set_option maxHeartbeats 4000000 in
theorem next_last (e L : Nat) (w : World) (c0 : w.cell? ⟨e, 0, none⟩ = some (P L)) (c2 : w.cell? ⟨e, 2, none⟩ = some (P L)) : Calls Try.prog 25 #[P e] w fun en w' => en = .returned (.pointer none) ∧ w = w' := by
  have hq := nePSame L
  go_enter Try.func25, Try.ntmps25
  go_wp2
  go_ret
  exact ⟨rfl, rfl⟩
set_option maxHeartbeats 4000000 in
theorem next_more (e c L : Nat) (w : World) (hne : c ≠ L) (hc : IsCells w c) (hL : IsCells w L) (c0 : w.cell? ⟨e, 0, none⟩ = some (P c)) (c2 : w.cell? ⟨e, 2, none⟩ = some (P L)) : Calls Try.prog 25 #[P e] w fun en w' => en = .returned (P c) ∧ w = w' := by
  have hq := nePOther c L w hne hc hL
  clear hne hc hL
  go_enter Try.func25, Try.ntmps25
  go_wp2
  go_ret
  exact ⟨rfl, rfl⟩
theorem totV_calls (C L : Nat) (w : World) (tv ta : Int) (h : SetAt C L w tv ta) : Calls Try.prog 16 #[P C] w fun e w' => e = .returned (.int .i64 tv) ∧ w = w' := by
  have k := h.c1
  clear h
  go_enter Try.func16, Try.ntmps16
  go_wp2
  go_ret
  exact ⟨rfl, rfl⟩
theorem totA_calls (C L : Nat) (w : World) (tv ta : Int) (h : SetAt C L w tv ta) : Calls Try.prog 17 #[P C] w fun e w' => e = .returned (.int .i64 ta) ∧ w = w' := by
  have k := h.c2
  clear h
  go_enter Try.func17, Try.ntmps17
  go_wp2
  go_ret
  exact ⟨rfl, rfl⟩
theorem len_calls (L n : Nat) (w : World) (k : w.cell? ⟨L, 4, none⟩ = some (.int .i64 n)) : Calls Try.prog 24 #[P L] w fun e w' => e = .returned (.int .i64 n) ∧ w = w' := by
  go_enter Try.func24, Try.ntmps24
  go_wp2
  go_ret
  exact ⟨rfl, rfl⟩

theorem Fwd.get {w : World} {L : Nat} : ∀ {b : Nat} {bs : List Nat}, Fwd w L b bs → ∀ (i x : Nat), (b :: bs)[i]? = some x → w.cell? ⟨x, 0, none⟩ = some (P ((b :: bs).getD (i + 1) L))
  | b, [], h, i, x, hx => by
    cases i with
    | zero => simp at hx; subst hx; exact h
    | succ i => simp at hx
  | b, c :: t, h, i, x, hx => by
    cases i with
    | zero => simp at hx; subst hx; exact h.1
    | succ i =>
      have := Fwd.get (b := c) (bs := t) h.2 i x (by simpa using hx)
      simpa using this
/-- The pointer that the walk over a list holds. -/
def ptrAt (bs : List Nat) (i : Nat) : Value := if h : i < bs.length then P bs[i] else .pointer none
def coinsArr (vs : List Value) (i : Nat) : List Value := vs.take i ++ List.replicate (vs.length - i) .nilIface
theorem coinsArr_len (vs : List Value) (i : Nat) (h : i ≤ vs.length) : (coinsArr vs i).length = vs.length := by simp [coinsArr]; omega
theorem coinsArr_set (vs : List Value) (i : Nat) (h : i < vs.length) : (coinsArr vs i).set i vs[i] = coinsArr vs (i + 1) := by
  unfold coinsArr
  rw [List.set_append_right _ _ (by rw [List.length_take]; omega)]
  have e : (vs.take i).length = i := by rw [List.length_take]; omega
  rw [e, Nat.sub_self, show vs.length - i = (vs.length - (i + 1)) + 1 by omega, List.replicate_succ, List.set_cons_zero, List.take_succ_eq_append_getElem h, List.append_assoc]
  rfl
theorem coinsArr_all (vs : List Value) : coinsArr vs vs.length = vs := by simp [coinsArr]

theorem ptrAt_lt {bs : List Nat} {i : Nat} (h : i < bs.length) : ptrAt bs i = P bs[i] := by unfold ptrAt; rw [dif_pos h]
theorem ptrAt_end {bs : List Nat} {i : Nat} (h : ¬ i < bs.length) : ptrAt bs i = .pointer none := by unfold ptrAt; rw [dif_neg h]
theorem made_nil (n : Nat) : (madeCells Value.nilIface.cells (n * 1)).toList = List.replicate n Value.nilIface := by
  apply List.ext_getElem
  · simp [size_madeCells]
  · intro i h1 h2
    simp [madeCells, Value.cells, Nat.mod_one]

def IsCoins (w : World) (vs : List Value) (en : Ending) (w' : World) : Prop := ∃ g t, en = .returned (.slice (some ⟨g, 0, none⟩) vs.length vs.length) ∧ w'.heap[g]? = some (.cells vs.toArray t (0, 0)) ∧ Below w.heap.size w w'
set_option maxRecDepth 100000 in
set_option maxHeartbeats 8000000 in
theorem coins_calls (w : World) (base C L : Nat) (bs : List Nat) (cs : List Cn) (hI : Inv w base C L bs cs) (hl : cs.length ≤ 20) :
    Calls Try.prog 15 #[P C] w (IsCoins w (cs.map coinOf)) := by
  obtain ⟨i0, hi, hz0, hz1, hz2⟩ := info_parts (show (Try.prog.info? 40).map (fun i => (i.zero, i.size, i.bytes)) = some (some .nilIface, 1, 16) by kernel_rfl)
  have HII := Aside0.mk (show Try.prog.info? 40 = some i0 ∧ i0.zero = some .nilIface ∧ i0.size = 1 ∧ i0.bytes = 16 from ⟨hi, hz0, hz1, hz2⟩)
  have HI := Aside0.mk hI
  obtain ⟨n, hn⟩ : ∃ n, n = bs.length := ⟨_, rfl⟩
  have hcn : cs.length = n := by rw [hI.len, hn]
  have k0 := hI.set.c0
  have k4 := hI.ring.len
  rw [← hn] at k4
  have HN := Aside0.mk hn
  have HCN := Aside0.mk hcn
  clear hI hn hi hz0 hz1 hz2
  have hn20 : n ≤ 20 := by omega
  clear hcn hl
  obtain ⟨g, hg⟩ : ∃ g, g = w.heap.size := ⟨_, rfl⟩
  have HGE := Aside0.mk hg
  clear hg
  have HVL : Aside0 ((cs.map coinOf).length = n) := ⟨by rw [List.length_map, HCN.out]⟩
  have HP0 : Aside0 (∀ w2 : World, Below w.heap.size w w2 → Calls Try.prog 23 #[P L] w2 fun en w' => en = .returned (ptrAt bs 0) ∧ w2 = w') := ⟨fun w2 hb => by
    have hI2 := HI.out.below hb
    have hlen := hI2.ring.len
    cases hbs : bs with
    | nil =>
      rw [hbs] at hlen
      exact front_none L w2 hlen
    | cons e t =>
      have hh := hI2.ring.fwd.head
      rw [hbs] at hlen hh
      exact front_calls L (e :: t).length e w2 hh hlen (by simp; omega)⟩
  obtain ⟨p0, hp0⟩ : ∃ p0, p0 = ptrAt bs 0 := ⟨_, rfl⟩
  have HPE := Aside0.mk hp0
  rw [← hp0] at HP0
  clear hp0
  go_enter Try.func15, Try.ntmps15
  go_wp2_with (first
    | (go_at_call 24; refine (len_calls L n w k4).mono ?_; rintro e1 w1 ⟨rfl, rfl⟩)
    | (at_make; refine wpList_make_full w rfl _ _ 46 rfl w.heap.size 40 i0 .nilIface 1 Try.underlying46 HII.out.1 HII.out.2.1 HII.out.2.2.1 .i64 .i64 _ _ n rfl rfl rfl rfl (by rw [HII.out.2.2.2]; omega) (by unfold maxLen; omega) (Nat.le_refl _) ?_; intro w2 hown hgrow; have HB1 := Aside0.mk ((Below.refl w.heap.size w).grown hgrow (Nat.le_refl _) (fun _ h => by cases h)); have HG1 : Aside0 (w2.heap[g]? = some (.cells (coinsArr (cs.map coinOf) 0).toArray 40 (0, 0))) := ⟨(by have h := (own_full hown).1; rw [made_nil] at h; rw [HGE.out, h]; simp [coinsArr, HCN.out])⟩; have k0b := pw_cell_below HB1.out k0; clear hown hgrow)
    | (go_at_call 23; refine (HP0.out w2 HB1.out).mono ?_; rintro e1 w1 ⟨rfl, rfl⟩)
    | fail)
  rw [← HGE.out]
  clear HP0 k0b k0 k4 HII
  go_loopw [4, 5] (fun v4 v5 wr => ∃ i : Nat, v4 = .int .i64 i ∧ i ≤ n ∧ Aside0 (v5 = ptrAt bs i) ∧ Aside0 (wr.heap[g]? = some (.cells (coinsArr (cs.map coinOf) i).toArray 40 (0, 0))) ∧ Aside0 (Below w.heap.size w wr)) (fun v4 _ _ => n - (intOf v4).toNat)
  case atStart => exact ⟨0, rfl, Nat.zero_le _, HPE, HG1, HB1⟩
  case round =>
    obtain ⟨i, rfl, hi, HP, HG, HB⟩ := hrel
    clear HG1 HB1 HPE
    by_cases hlt : i < n
    · have hib : i < bs.length := by have := HN.out; omega
      have hic : i < cs.length := by have := HCN.out; omega
      obtain ⟨e, he⟩ : ∃ e, e = bs[i] := ⟨_, rfl⟩
      have hu := HP.out
      rw [ptrAt_lt hib, ← he] at hu
      subst hu
      have hI2 := HI.out.below HB.out
      have hem : e ∈ bs := by rw [he]; exact List.getElem_mem _
      have hbe : bs[i]? = some e := by rw [he]; exact List.getElem?_eq_getElem hib
      obtain ⟨x, hx⟩ : ∃ x, x = cs[i] := ⟨_, rfl⟩
      have k3 := hI2.ring.val i e (coinOf x) hbe (by rw [List.getElem?_map, List.getElem?_eq_getElem hic, hx]; rfl)
      have hcl : (coinsArr (cs.map coinOf) i).length = n := by rw [coinsArr_len _ _ (by rw [HVL.out]; exact hi), HVL.out]
      have hcs : (coinsArr (cs.map coinOf) i).set i (coinOf x) = coinsArr (cs.map coinOf) (i + 1) := by
        rw [← coinsArr_set _ i (by rw [HVL.out]; exact hlt)]
        congr 1
        rw [List.getElem_map, hx]
      obtain ⟨u, hu⟩ : ∃ u, wr.cell? ⟨g, i, none⟩ = some u := ⟨_, by rw [blk_cell HG.out, List.getElem?_toArray]; exact List.getElem?_eq_getElem (by rw [hcl]; exact hlt)⟩
      have hfz : wr.frozen? ⟨g, i, none⟩ = false := blk_frozen HG.out i
      have HG2 : Aside0 ((wr.setCell ⟨g, i, none⟩ (coinOf x)).heap[g]? = some (.cells (coinsArr (cs.map coinOf) (i + 1)).toArray 40 (0, 0))) := ⟨by
        rw [blk_set HG.out]
        congr 2
        rw [← hcs]
        simp⟩
      have HB2 : Aside0 (Below w.heap.size w (wr.setCell ⟨g, i, none⟩ (coinOf x))) := ⟨HB.out.setCell (by rw [HGE.out]; exact Nat.le_refl _) _⟩
      have HNX : Aside0 (Calls Try.prog 25 #[P e] (wr.setCell ⟨g, i, none⟩ (coinOf x)) fun en w' => en = .returned (ptrAt bs (i + 1)) ∧ (wr.setCell ⟨g, i, none⟩ (coinOf x)) = w') := ⟨by
        have hI3 := HI.out.below HB2.out
        have hget := Fwd.get hI3.ring.fwd (i + 1) e (by rw [List.getElem?_cons_succ]; exact hbe)
        have hown := hI3.ring.own e hem
        by_cases h1 : i + 1 < bs.length
        · have e1 : (L :: bs).getD (i + 1 + 1) L = bs[i + 1] := by simp [List.getD_eq_getElem?_getD, List.getElem?_eq_getElem h1]
          rw [e1] at hget
          rw [ptrAt_lt h1]
          have hm : bs[i + 1] ∈ bs := List.getElem_mem _
          exact next_more e bs[i + 1] L _ (fun h => (List.nodup_cons.1 hI3.ring.nodup).1 (h ▸ hm)) (hI3.ring.blk _ (.tail _ hm)) (hI3.ring.blk L (.head _)) hget hown
        · have e1 : (L :: bs).getD (i + 1 + 1) L = L := by
            rw [List.getD_eq_getElem?_getD, List.getElem?_cons_succ, List.getElem?_eq_none (by omega)]
            rfl
          rw [e1] at hget
          rw [ptrAt_end h1]
          exact next_last e L _ hget hown⟩
      obtain ⟨p1, hp1⟩ : ∃ p1, p1 = ptrAt bs (i + 1) := ⟨_, rfl⟩
      have HP1 := Aside0.mk hp1
      rw [← hp1] at HNX
      have hta := asCoin x.1 x.2.1 x.2.2
      clear hI2 hem hbe hcl hcs hib hic he hx hp1 HP
      go_wp2_with (first | (go_at_call 25; refine HNX.out.mono ?_; rintro e1 w1 ⟨rfl, rfl⟩) | fail)
      go_roundw
      case rel => exact ⟨i + 1, by go_num, by omega, HP1, HG2, HB2⟩
      case measure => simp [intOf]; omega
    · obtain rfl : i = n := by omega
      have hu := HP.out
      rw [ptrAt_end (by have := HN.out; omega)] at hu
      subst hu
      have HG2 := HG.out
      rw [show coinsArr (cs.map coinOf) i = cs.map coinOf by rw [← HVL.out]; exact coinsArr_all _] at HG2
      have HG3 := Aside0.mk HG2
      clear HG2 HG
      go_wp2
      go_ret
      exact ⟨g, 40, by rw [HVL.out]; rfl, HG3.out, HB.out⟩
end Go.Proofs.Ytkmcoaidlnaliaa.Purse
