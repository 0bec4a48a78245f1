/-
  impl.Purse, walked.
-/
import Derived.Test.YtkmcoaidlnaliaaPurPure
namespace Go.Proofs.Ytkmcoaidlnaliaa.Purse
open Go.RowKit Go.Proofs.Ytkmcoaidlnaliaa.Hand Go.Proofs.Ytkmcoaidlnaliaa.PFnPurse Go.Proofs.YtkmcoaidlnaliaaW.PrintWords Go.Proofs.YtkmcoaidlnaliaaW.PrintLast Go.Proofs.YtkmcoaidlnaliaaW.PrintMore

theorem info3 : (Try.prog.info? 3).map (fun i => (i.zero, i.size, i.bytes)) = some (some (.int .i64 0), 1, 8) := by kernel_rfl
theorem R_lt {w : World} {base : Nat} {ok : Nat → Prop} {v : Value} {xs : List Int} (h : (Kd.int .i64).R 3 w base ok v xs) {g : Nat} (hg : v.ownBlock = some g) : g < w.heap.size := by
  have ho := Kd.own_of_R h
  rcases ho.2 with ⟨e, _⟩ | ⟨g', cap, cur, e1, _, h3, _⟩
  · rw [e] at hg; cases hg
  · rw [e1] at hg
    injection hg with hg
    subst hg
    exact (Array.getElem?_eq_some_iff.1 h3).1
/-- Of a list apart from the ring. -/
def Apart (v : Value) (S : List Nat) : Prop := ∀ k, v.ownBlock = some k → k ∉ S
theorem R_fr {w w' : World} {base : Nat} {ok : Nat → Prop} {v : Value} {xs : List Int} {S : List Nat} (h : (Kd.int .i64).R 3 w base ok v xs) (hf : Fr S w w') (ha : Apart v S) : (Kd.int .i64).R 3 w' base ok v xs :=
  R_frame h fun g hg => hf.blk g (R_lt h hg) (ha g hg)
theorem asNum (v c a : Int) : ∀ w, Sem.run Try.prog (Instr.typeAssert (coinV v c a) 40 44 false) w = .ok (.agg #[.int .i64 v, .int .i64 c, .int .i64 a]) w := fun w => by kernel_rfl
theorem Apart.fresh {v : Value} {w : World} {base : Nat} {ok : Nat → Prop} {xs : List Int} {S T : List Nat} (h : Apart v S) (hR : (Kd.int .i64).R 3 w base ok v xs) (hT : ∀ b ∈ T, b ∈ S ∨ w.heap.size ≤ b) : Apart v T := fun k hk hm => by
  rcases hT k hm with g | g
  · exact h k hk g
  · have := R_lt hR hk; omega
/-- Behind an append: the set, and the list apart from it still. -/
theorem behind {W w6 : World} {base C L : Nat} {bs : List Nat} {cs : List Cn} {v v6 : Value} (hI : Inv W base C L bs cs) (ha : Apart v (C :: L :: bs)) (hg : W.grownBy w6 v.ownBlock) (hat : v6.ownBlock = v.ownBlock ∨ ∃ b, v6.ownBlock = some b ∧ W.heap.size ≤ b) :
    Inv w6 base C L bs cs ∧ Apart v6 (C :: L :: bs) := by
  refine ⟨hI.frame (fun k hk => hg.block k (hI.mem_lt k hk).2 (fun e => ha k e.symm hk)) hg.size, fun k hk hm => ?_⟩
  rcases hat with e | ⟨b, e, hb⟩
  · rw [e] at hk
    exact ha k hk hm
  · rw [e] at hk
    injection hk with hk
    subst hk
    have := (hI.mem_lt b hm).2
    omega

/-- What a step leaves: the set, the list of those taken. -/
structure Mid (w wr : World) (C L : Nat) (bs : List Nat) (cl : List S28) (σ : St) (v : Value) : Prop where
  inv : Inv wr w.heap.size C L bs (σ.left.map (cnAt cl))
  tak : (Kd.int .i64).R 3 wr w.heap.size (fun _ => True) v σ.taken
  ap : Apart v (C :: L :: bs)
  bel : Below w.heap.size w wr
/-- What PopCoin or ShiftCoin hands back, as a place. -/
def Got (cl : List S28) (r : Value) (a : Int) : Prop := (r = .nilIface ∧ a = -1) ∨ ∃ j : Nat, r = coinOf (cnAt cl j) ∧ a = j
def IsTaken (w : World) (C L : Nat) (cl : List S28) (σ τ : St) (v : Value) (en : Ending) (w' : World) : Prop :=
  ∃ r a bs', en = .returned r ∧ Got cl r a ∧ τ.taken = σ.taken ++ [a] ∧ τ.next = σ.next ∧ Inv w' w.heap.size C L bs' (τ.left.map (cnAt cl)) ∧ (Kd.int .i64).R 3 w' w.heap.size (fun _ => True) v σ.taken ∧ Apart v (C :: L :: bs') ∧ Below w.heap.size w w'
theorem mid_fr {w wr w' : World} {C L : Nat} {bs bs' : List Nat} {cl : List S28} {σ : St} {v : Value} (h : Mid w wr C L bs cl σ v) (hf : Fr (C :: L :: bs) wr w') (hs : ∀ b ∈ bs', b ∈ bs ∨ wr.heap.size ≤ b) :
    (Kd.int .i64).R 3 w' w.heap.size (fun _ => True) v σ.taken ∧ Apart v (C :: L :: bs') ∧ Below w.heap.size w w' :=
  ⟨R_fr h.tak hf h.ap, h.ap.fresh h.tak (fun b hb => by
    rcases List.mem_cons.1 hb with rfl | hb
    · exact .inl (.head _)
    · rcases List.mem_cons.1 hb with rfl | hb
      · exact .inl (.tail _ (.head _))
      · rcases hs b hb with g | g
        · exact .inl (.tail _ (.tail _ g))
        · exact .inr g), h.bel.trans (hf.to_below h.bel.size (fun b hb => (h.inv.mem_lt b hb).1))⟩
theorem fit_all {cl : List S28} (hc : coinsB cl = true) {n i : Nat} {σ : St} (hF : Fine n i σ) (hn : n = cl.length) : ∀ y ∈ σ.left.map (cnAt cl), fitC y := fun y hy => by
  obtain ⟨j, hj, rfl⟩ := List.mem_map.1 hy
  have := hF.low j hj
  have := hF.next
  exact cn_fit hc j (by omega)
theorem pop_step {w wr : World} {C L n i : Nat} {bs : List Nat} {cl : List S28} {σ : St} {v : Value} (h : Mid w wr C L bs cl σ v) (hc : coinsB cl = true) (hF : Fine n i σ) (hn : n = cl.length) (hn10 : n ≤ 10) :
    Calls Try.prog 13 #[P C] wr (IsTaken w C L cl σ (stp 1 σ) v) := by
  have hfit := fit_all hc hF hn
  have hlen := hF.len
  have hnx := hF.next
  rcases List.eq_nil_or_concat σ.left with hl | ⟨t, j, hl⟩
  · have hs : stp 1 σ = ⟨[], σ.next, σ.taken ++ [-1]⟩ := by unfold stp; rw [if_neg (by decide), if_pos rfl, hl]; rfl
    have hbl : bs.length = 0 := by rw [← h.inv.len, List.length_map, hl]; rfl
    have k4 := h.inv.ring.len
    rw [hbl] at k4
    refine (pop_none C L wr h.inv.set.c0 k4).mono fun en w' ⟨a, b⟩ => ?_
    subst b
    rw [hs]
    exact ⟨_, -1, bs, a, .inl ⟨rfl, rfl⟩, rfl, rfl, by have := h.inv; rw [hl] at this; exact this, h.tak, h.ap, h.bel⟩
  · rw [List.concat_eq_append] at hl
    have hs : stp 1 σ = ⟨t, σ.next, σ.taken ++ [(j : Int)]⟩ := by unfold stp; rw [if_neg (by decide), if_pos rfl, hl]; simp
    have hI := h.inv
    have hbl := hI.len
    rw [hl, List.map_append] at hI hbl hfit
    have hbne : bs ≠ [] := fun e => by rw [e] at hbl; simp at hbl
    obtain ⟨bt, e, rfl⟩ : ∃ bt e, bs = bt ++ [e] := ⟨bs.dropLast, bs.getLast hbne, (List.dropLast_concat_getLast hbne).symm⟩
    refine (popCoin wr w.heap.size C L e bt (t.map (cnAt cl)) (cnAt cl j) hI hfit (by rw [hl] at hlen; simp at hlen ⊢; omega)).mono fun en w' ⟨a, b, f⟩ => ?_
    obtain ⟨m1, m2, m3⟩ := mid_fr (bs' := bt) h f (fun b hb => .inl (List.mem_append_left _ hb))
    rw [hs]
    exact ⟨_, j, bt, a, .inr ⟨j, rfl, rfl⟩, rfl, rfl, b, m1, m2, m3⟩
theorem shift_step {w wr : World} {C L n i : Nat} {bs : List Nat} {cl : List S28} {σ : St} {v : Value} (h : Mid w wr C L bs cl σ v) (hc : coinsB cl = true) (hF : Fine n i σ) (hn : n = cl.length) (hn10 : n ≤ 10) :
    Calls Try.prog 14 #[P C] wr (IsTaken w C L cl σ (stp 2 σ) v) := by
  have hfit := fit_all hc hF hn
  have hlen := hF.len
  have hnx := hF.next
  cases hl : σ.left with
  | nil =>
    have hs : stp 2 σ = ⟨[], σ.next, σ.taken ++ [-1]⟩ := by unfold stp; rw [if_neg (by decide), if_neg (by decide), hl]
    have hbl : bs.length = 0 := by rw [← h.inv.len, List.length_map, hl]; rfl
    have k4 := h.inv.ring.len
    rw [hbl] at k4
    refine (shift_none C L wr h.inv.set.c0 k4).mono fun en w' ⟨a, b⟩ => ?_
    subst b
    rw [hs]
    exact ⟨_, -1, bs, a, .inl ⟨rfl, rfl⟩, rfl, rfl, by have := h.inv; rw [hl] at this; exact this, h.tak, h.ap, h.bel⟩
  | cons j t =>
    have hs : stp 2 σ = ⟨t, σ.next, σ.taken ++ [(j : Int)]⟩ := by unfold stp; rw [if_neg (by decide), if_neg (by decide), hl]
    have hI := h.inv
    have hbl := hI.len
    rw [hl, List.map_cons] at hI hbl hfit
    cases bs with
    | nil => simp at hbl
    | cons e bt =>
      refine (shiftCoin wr w.heap.size C L e bt (t.map (cnAt cl)) (cnAt cl j) hI hfit (by rw [hl] at hlen; simp at hlen ⊢; omega)).mono fun en w' ⟨a, b, f⟩ => ?_
      obtain ⟨m1, m2, m3⟩ := mid_fr (bs' := bt) h f (fun b hb => .inl (.tail _ hb))
      rw [hs]
      exact ⟨_, j, bt, a, .inr ⟨j, rfl, rfl⟩, rfl, rfl, b, m1, m2, m3⟩
def IsMid (w : World) (C L : Nat) (cl : List S28) (τ : St) (v : Value) (en : Ending) (w' : World) : Prop := en = .returned (.tuple #[]) ∧ ∃ bs', Mid w w' C L bs' cl τ v
theorem push_step {w wr : World} {C L n i : Nat} {bs : List Nat} {cl : List S28} {σ : St} {v : Value} (h : Mid w wr C L bs cl σ v) (hc : coinsB cl = true) (hF : Fine n i σ) (hn : n = cl.length) (hn10 : n ≤ 10) (hlt : σ.next < n) :
    Calls Try.prog 12 #[P C, coinOf (cnAt cl σ.next)] wr (IsMid w C L cl (stp 0 σ) v) := by
  have hlen := hF.len
  have hs : stp 0 σ = ⟨σ.left ++ [σ.next], σ.next + 1, σ.taken⟩ := by unfold stp; rw [if_pos rfl]
  refine (pushCoin wr w.heap.size C L bs (σ.left.map (cnAt cl)) (cnAt cl σ.next) h.inv (cn_fit hc _ (by omega)) (fit_all hc hF hn) (by rw [List.length_map]; omega) h.bel.size).mono fun en w' hp => ?_
  unfold IsPushed at hp
  obtain ⟨a, b, f⟩ := hp
  obtain ⟨m1, m2, m3⟩ := mid_fr (bs' := bs ++ [wr.heap.size]) h f (fun b hb => by
    rcases List.mem_append.1 hb with g | g
    · exact .inl g
    · exact .inr (by rw [List.mem_singleton.1 g]; exact Nat.le_refl _))
  refine ⟨a, bs ++ [wr.heap.size], ?_, ?_, m2, m3⟩
  · rw [hs]
    show Inv w' _ C L _ ((σ.left ++ [σ.next]).map (cnAt cl))
    rw [List.map_append]
    exact b
  · rw [hs]; exact m1
theorem Mid.below {w wr w' : World} {C L : Nat} {bs : List Nat} {cl : List S28} {σ : St} {v : Value} (h : Mid w wr C L bs cl σ v) (hb : Below wr.heap.size wr w') : Mid w w' C L bs cl σ v :=
  ⟨h.inv.below hb, Kd.R_below h.tak hb, h.ap, below_then h.bel h.bel.size hb⟩
end Go.Proofs.Ytkmcoaidlnaliaa.Purse
