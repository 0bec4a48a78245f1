/-
  The set of coins as a whole: pushed, popped, shifted.
-/
import Derived.Test.YtkmcoaidlnaliaaSetWalk
namespace Go.Proofs.Ytkmcoaidlnaliaa.Purse
open Go.RowKit Go.Proofs.Ytkmcoaidlnaliaa.Hand Go.Proofs.YtkmcoaidlnaliaaW.PrintWords Go.Proofs.YtkmcoaidlnaliaaW.PrintLast Go.Proofs.YtkmcoaidlnaliaaW.PrintMore

/-- A coin: its value, its confirmations, its place. -/
abbrev Cn := Int × Int × Int
abbrev coinOf (x : Cn) : Value := coinV x.1 x.2.1 x.2.2
def fitC (x : Cn) : Prop := 0 ≤ x.1 ∧ x.1 ≤ 1000000 ∧ 0 ≤ x.2.1 ∧ x.2.1 ≤ 10000
def sumV : List Cn → Int
  | [] => 0
  | x :: t => x.1 + sumV t
def sumA : List Cn → Int
  | [] => 0
  | x :: t => x.2.1 * x.1 + sumA t
theorem sumV_snoc : ∀ (l : List Cn) (x : Cn), sumV (l ++ [x]) = sumV l + x.1
  | [], x => by simp [sumV]
  | y :: t, x => by simp only [List.cons_append, sumV, sumV_snoc t x]; omega
theorem sumA_snoc : ∀ (l : List Cn) (x : Cn), sumA (l ++ [x]) = sumA l + x.2.1 * x.1
  | [], x => by simp [sumA]
  | y :: t, x => by simp only [List.cons_append, sumA, sumA_snoc t x]; omega
theorem sum_bd : ∀ l : List Cn, (∀ x ∈ l, fitC x) → 0 ≤ sumV l ∧ sumV l ≤ 1000000 * l.length ∧ 0 ≤ sumA l ∧ sumA l ≤ 10000000000 * l.length
  | [], _ => by simp [sumV, sumA]
  | x :: t, h => by
    obtain ⟨a, b, c, d⟩ := sum_bd t (fun y hy => h y (by simp [hy]))
    obtain ⟨h0, h1, h2, h3⟩ := h x (by simp)
    have hm0 : 0 ≤ x.2.1 * x.1 := Int.mul_nonneg h2 h0
    have hm1 : x.2.1 * x.1 ≤ 10000 * 1000000 := Int.mul_le_mul h3 h1 h0 (by omega)
    simp only [sumV, sumA, List.length_cons]
    omega

structure Inv (w : World) (base C L : Nat) (bs : List Nat) (cs : List Cn) : Prop where
  ring : Ring w base L bs (cs.map coinOf)
  set : SetAt C L w (sumV cs) (sumA cs)
  cne : C ∉ L :: bs
  clow : base ≤ C ∧ C < w.heap.size
theorem Inv.len {w : World} {base C L : Nat} {bs : List Nat} {cs : List Cn} (h : Inv w base C L bs cs) : cs.length = bs.length := by
  have := h.ring.vlen
  rwa [List.length_map] at this
theorem Inv.frame {w w' : World} {base C L : Nat} {bs : List Nat} {cs : List Cn} (h : Inv w base C L bs cs) (hk : ∀ k ∈ C :: L :: bs, w'.heap[k]? = w.heap[k]?) (hs : w.heap.size ≤ w'.heap.size) : Inv w' base C L bs cs :=
  ⟨h.ring.frame (fun k hm => hk k (.tail _ hm)) hs, h.set.eq (hk C (.head _)), h.cne, h.clow.1, Nat.lt_of_lt_of_le h.clow.2 hs⟩
theorem Inv.mem_lt {w : World} {base C L : Nat} {bs : List Nat} {cs : List Cn} (h : Inv w base C L bs cs) : ∀ b ∈ C :: L :: bs, base ≤ b ∧ b < w.heap.size := fun b hb => by
  rcases List.mem_cons.1 hb with rfl | hb
  · exact h.clow
  · exact h.ring.low b hb
theorem Inv.below {w w' : World} {base C L : Nat} {bs : List Nat} {cs : List Cn} (h : Inv w base C L bs cs) (hb : Below w.heap.size w w') : Inv w' base C L bs cs :=
  h.frame (fun k hk => hb.block k (h.mem_lt k hk).2) hb.size

/-- Behind the totals: the ring of another world, that the totals have not touched. -/
theorem Inv.of_tot {w1 w' : World} {base C L : Nat} {bs : List Nat} {cs : List Cn} {tv ta : Int} (hr : Ring w1 base L bs (cs.map coinOf)) (hne : C ∉ L :: bs) (hc : base ≤ C ∧ C < w1.heap.size) (hf : Fr [C] w1 w') (hs : SetAt C L w' tv ta) (e1 : tv = sumV cs) (e2 : ta = sumA cs) : Inv w' base C L bs cs :=
  ⟨hr.frame (fun k hk => hf.blk k (hr.low k hk).2 (fun hm => hne (by rw [← List.mem_singleton.1 hm]; exact hk))) hf.size, by rw [← e1, ← e2]; exact hs, hne, hc.1, Nat.lt_of_lt_of_le hc.2 hf.size⟩

def IsPushed (w : World) (base C L : Nat) (bs : List Nat) (cs : List Cn) (x : Cn) (en : Ending) (w' : World) : Prop :=
  en = .returned (.tuple #[]) ∧ Inv w' base C L (bs ++ [w.heap.size]) (cs ++ [x]) ∧ Fr (C :: L :: bs) w w'
theorem pushCoin (w : World) (base C L : Nat) (bs : List Nat) (cs : List Cn) (x : Cn) (hI : Inv w base C L bs cs) (hx : fitC x) (hf : ∀ y ∈ cs, fitC y) (hl : cs.length ≤ 20) (hb : base ≤ w.heap.size) :
    Calls Try.prog 12 #[P C, coinOf x] w (IsPushed w base C L bs cs x) := by
  have hlen := hI.len
  obtain ⟨s0, s1, s2, s3⟩ := sum_bd cs hf
  have hcl := hI.clow
  have HPB : Aside0 (Calls Try.prog 20 #[P L, coinOf x] w fun en w' => en = .returned (P w.heap.size) ∧ (Ring w' base L (bs ++ [w.heap.size]) (cs.map coinOf ++ [coinOf x]) ∧ Fr (L :: bs) w w')) := ⟨pushBack_calls L base bs (cs.map coinOf) x.1 x.2.1 x.2.2 w hI.ring (by omega) hb⟩
  have h := push_calls C L w.heap.size x.1 x.2.1 x.2.2 (sumV cs) (sumA cs) hx.1 hx.2.1 hx.2.2.1 hx.2.2.2 s0 (by omega) s2 (by omega) w _ hI.set.c0 HPB ⟨fun w1 hq => hI.set.eq (hq.2.blk C hcl.2 hI.cne)⟩
  refine h.mono fun en w' ht => ?_
  unfold Tot at ht
  obtain ⟨he, w1, ⟨hr, hf1⟩, hf2, hs⟩ := ht
  refine ⟨he, Inv.of_tot (w1 := w1) (by rw [List.map_append]; exact hr) (fun hm => ?_) ⟨hcl.1, Nat.lt_of_lt_of_le hcl.2 hf1.size⟩ hf2 hs (sumV_snoc cs x).symm (sumA_snoc cs x).symm, ?_⟩
  · rw [← List.cons_append] at hm
    rcases List.mem_append.1 hm with g | g
    · exact hI.cne g
    · have := List.mem_singleton.1 g
      omega
  · exact (hf1.mono (fun b hb => .tail _ hb)).trans (hf2.mono (fun b hb => by rw [List.mem_singleton.1 hb]; exact .head _))

theorem back_calls (L n z : Nat) (w : World) (k1 : w.cell? ⟨L, 1, none⟩ = some (P z)) (k4 : w.cell? ⟨L, 4, none⟩ = some (.int .i64 n)) (hn : 1 ≤ (n : Int)) : Calls Try.prog 21 #[P L] w fun e w' => e = .returned (P z) ∧ w = w' := by
  have hn0 : ¬ (n : Int) = 0 := by omega
  go_enter Try.func21, Try.ntmps21
  go_wp2
  go_ret
  exact ⟨rfl, rfl⟩
theorem front_calls (L n z : Nat) (w : World) (k1 : w.cell? ⟨L, 0, none⟩ = some (P z)) (k4 : w.cell? ⟨L, 4, none⟩ = some (.int .i64 n)) (hn : 1 ≤ (n : Int)) : Calls Try.prog 23 #[P L] w fun e w' => e = .returned (P z) ∧ w = w' := by
  have hn0 : ¬ (n : Int) = 0 := by omega
  go_enter Try.func23, Try.ntmps23
  go_wp2
  go_ret
  exact ⟨rfl, rfl⟩
theorem back_none (L : Nat) (w : World) (k4 : w.cell? ⟨L, 4, none⟩ = some (.int .i64 0)) : Calls Try.prog 21 #[P L] w fun e w' => e = .returned (.pointer none) ∧ w = w' := by
  go_enter Try.func21, Try.ntmps21
  go_wp2
  go_ret
  exact ⟨rfl, rfl⟩
theorem front_none (L : Nat) (w : World) (k4 : w.cell? ⟨L, 4, none⟩ = some (.int .i64 0)) : Calls Try.prog 23 #[P L] w fun e w' => e = .returned (.pointer none) ∧ w = w' := by
  go_enter Try.func23, Try.ntmps23
  go_wp2
  go_ret
  exact ⟨rfl, rfl⟩
theorem pop_none (C L : Nat) (w : World) (k0 : w.cell? ⟨C, 0, none⟩ = some (P L)) (k4 : w.cell? ⟨L, 4, none⟩ = some (.int .i64 0)) : Calls Try.prog 13 #[P C] w fun e w' => e = .returned .nilIface ∧ w = w' := by
  go_enter Try.func13, Try.ntmps13
  go_wp2_with (first | (go_at_call 21; refine (back_none L w k4).mono ?_; rintro e1 w1 ⟨rfl, rfl⟩) | fail)
  go_ret
  exact ⟨rfl, rfl⟩
theorem shift_none (C L : Nat) (w : World) (k0 : w.cell? ⟨C, 0, none⟩ = some (P L)) (k4 : w.cell? ⟨L, 4, none⟩ = some (.int .i64 0)) : Calls Try.prog 14 #[P C] w fun e w' => e = .returned .nilIface ∧ w = w' := by
  go_enter Try.func14, Try.ntmps14
  go_wp2_with (first | (go_at_call 23; refine (front_none L w k4).mono ?_; rintro e1 w1 ⟨rfl, rfl⟩) | fail)
  go_ret
  exact ⟨rfl, rfl⟩
theorem pop_x (C L e n : Nat) (r : Value) (R : World → Prop) (w : World) (k0 : w.cell? ⟨C, 0, none⟩ = some (P L)) (k1 : w.cell? ⟨L, 1, none⟩ = some (P e)) (k4 : w.cell? ⟨L, 4, none⟩ = some (.int .i64 n)) (hn : 1 ≤ (n : Int)) (H : Aside0 (Calls Try.prog 22 #[P C, P e] w fun en w' => en = .returned r ∧ R w')) :
    Calls Try.prog 13 #[P C] w fun en w' => en = .returned r ∧ R w' := by
  go_enter Try.func13, Try.ntmps13
  go_wp2_with (first | (go_at_call 21; refine (back_calls L n e w k1 k4 hn).mono ?_; rintro e1 w1 ⟨rfl, rfl⟩) | (go_at_call 22; refine H.out.mono ?_; rintro e1 w1 ⟨rfl, h2⟩; have H2 := Aside0.mk h2; clear h2) | fail)
  go_ret
  exact ⟨rfl, H2.out⟩
theorem shift_x (C L e n : Nat) (r : Value) (R : World → Prop) (w : World) (k0 : w.cell? ⟨C, 0, none⟩ = some (P L)) (k1 : w.cell? ⟨L, 0, none⟩ = some (P e)) (k4 : w.cell? ⟨L, 4, none⟩ = some (.int .i64 n)) (hn : 1 ≤ (n : Int)) (H : Aside0 (Calls Try.prog 22 #[P C, P e] w fun en w' => en = .returned r ∧ R w')) :
    Calls Try.prog 14 #[P C] w fun en w' => en = .returned r ∧ R w' := by
  go_enter Try.func14, Try.ntmps14
  go_wp2_with (first | (go_at_call 23; refine (front_calls L n e w k1 k4 hn).mono ?_; rintro e1 w1 ⟨rfl, rfl⟩) | (go_at_call 22; refine H.out.mono ?_; rintro e1 w1 ⟨rfl, h2⟩; have H2 := Aside0.mk h2; clear h2) | fail)
  go_ret
  exact ⟨rfl, H2.out⟩

theorem Ring.drew2 {X : World} {base L : Nat} {bs : List Nat} {vs : List Value} (h : Ring X base L bs vs) : Ring X.drew.drew base L bs vs := h.frame (fun _ _ => rfl) (Nat.le_refl _)
/-- Behind a removal: what is left. -/
theorem taken (w : World) (base C L e z c : Nat) (bs t : List Nat) (cs us : List Cn) (x : Cn) (hI : Inv w base C L bs cs) (hx : fitC x) (hf : ∀ y ∈ cs, fitC y) (hl : cs.length ≤ 20)
    (hsub : ∀ y ∈ t, y ∈ bs) (he : e ∈ bs) (hz : z ∈ L :: bs) (hc : c ∈ L :: bs) (hze : z ≠ e) (hce : c ≠ e) (hzc : z = L ∧ c = L ∨ z = L ∧ c ≠ L ∨ z ≠ L ∧ c = L)
    (c0 : w.cell? ⟨e, 0, none⟩ = some (P c)) (c1 : w.cell? ⟨e, 1, none⟩ = some (P z)) (c3 : w.cell? ⟨e, 3, none⟩ = some (coinOf x)) {y0 y1 : Value} (k0 : w.cell? ⟨z, 0, none⟩ = some y0) (k1 : w.cell? ⟨c, 1, none⟩ = some y1)
    (hR : Ring (remW w L e z c bs.length) base L t (us.map coinOf)) (hv : sumV cs - x.1 = sumV us) (ha : sumA cs - x.2.1 * x.1 = sumA us) :
    Calls Try.prog 22 #[P C, P e] w fun en w' => en = .returned (coinOf x) ∧ (Inv w' base C L t us ∧ Fr (C :: L :: bs) w w') := by
  have hlen := hI.len
  have hbl : 1 ≤ bs.length := List.length_pos_of_mem he
  obtain ⟨s0, s1, s2, s3⟩ := sum_bd cs hf
  have hcl := hI.clow
  have hLe : L ≠ e := fun h => (List.nodup_cons.1 hI.ring.nodup).1 (h ▸ he)
  have H31 := Aside0.mk (rem_calls L e z c bs.length w hLe hze hce hzc y0 y1 c0 c1 (hI.ring.own e he) hI.ring.len (by omega) (by omega) k0 k1 (hI.ring.fz z hz 0) (hI.ring.fz c hc 1) (hI.ring.fz L (by simp) 4) (hI.ring.fz e (by simp [he]) 0) (hI.ring.fz e (by simp [he]) 1) (hI.ring.fz e (by simp [he]) 2))
  have H29 := remove_calls L e z c bs.length x.1 x.2.1 x.2.2 w (hI.ring.own e he) c3 H31
  have hfr : Fr (L :: bs) w (remW w L e z c bs.length).drew.drew := (Fr.rem (.head _) (.tail _ he) hz hc).drew.drew
  have HPB : Aside0 (Calls Try.prog 29 #[P L, P e] w fun en w' => en = .returned (coinOf x) ∧ (Ring w' base L t (us.map coinOf) ∧ Fr (L :: bs) w w')) := ⟨H29.mono fun en w' ⟨a, b⟩ => ⟨a, by rw [b]; exact ⟨hR.drew2, hfr⟩⟩⟩
  have h := relem_calls C L e x.1 x.2.1 x.2.2 (sumV cs) (sumA cs) hx.1 hx.2.1 hx.2.2.1 hx.2.2.2 s0 (by omega) s2 (by omega) w _ hI.set.c0 c3 HPB ⟨fun w1 hq => hI.set.eq (hq.2.blk C hcl.2 hI.cne)⟩
  refine h.mono fun en w' ht => ?_
  unfold Tot at ht
  obtain ⟨he2, w1, ⟨hr, hf1⟩, hf2, hs⟩ := ht
  refine ⟨he2, Inv.of_tot (w1 := w1) hr (fun hm => hI.cne ?_) ⟨hcl.1, Nat.lt_of_lt_of_le hcl.2 hf1.size⟩ hf2 hs hv ha, (hf1.mono (fun b hb => .tail _ hb)).trans (hf2.mono (fun b hb => by rw [List.mem_singleton.1 hb]; exact .head _))⟩
  rcases List.mem_cons.1 hm with rfl | hm
  · exact .head _
  · exact .tail _ (hsub _ hm)

theorem popCoin (w : World) (base C L e : Nat) (t : List Nat) (us : List Cn) (x : Cn) (hI : Inv w base C L (t ++ [e]) (us ++ [x])) (hf : ∀ y ∈ us ++ [x], fitC y) (hl : (us ++ [x]).length ≤ 20) :
    Calls Try.prog 13 #[P C] w fun en w' => en = .returned (coinOf x) ∧ (Inv w' base C L t us ∧ Fr (C :: L :: (t ++ [e])) w w') := by
  have hx := hf x (by simp)
  have hr := hI.ring
  rw [List.map_append] at hr
  have hnd := hr.nodup
  rw [← List.cons_append] at hnd
  obtain ⟨n1, _, n3⟩ := List.nodup_append.1 hnd
  have hze : lastB L t ≠ e := n3 _ (lastB_mem L t) e (by simp)
  have hLe : L ≠ e := n3 L (by simp) e (by simp)
  have hk1 := hr.bwd.last
  rw [lastB_snoc] at hk1
  have hz0 : ∃ u, w.cell? ⟨lastB L t, 0, none⟩ = some u := by
    have : ∀ (b : Nat) (t : List Nat), Fwd w L b (t ++ [e]) → ∃ u, w.cell? ⟨lastB b t, 0, none⟩ = some u := by
      intro b t
      induction t generalizing b with
      | nil => intro g; exact ⟨_, g.1⟩
      | cons c t ih => intro g; exact ih c g.2
    exact this L t hr.fwd
  obtain ⟨u, hu⟩ := hz0
  have hlen : (t ++ [e]).length = t.length + 1 := by simp
  have hul : us.length = t.length := by have := hI.len; simp at this; exact this
  have hpop := Ring.pop hr
  have hcase : lastB L t = L ∧ L = L ∨ lastB L t = L ∧ L ≠ L ∨ lastB L t ≠ L ∧ L = L := by
    by_cases h : lastB L t = L
    · exact .inl ⟨h, rfl⟩
    · exact .inr (.inr ⟨h, rfl⟩)
  have hc3 : w.cell? ⟨e, 3, none⟩ = some (coinOf x) := hr.val t.length e (coinOf x) (by simp) (by rw [List.getElem?_append_right (by simp [hul])]; simp [hul])
  have h22 := taken w base C L e (lastB L t) L (t ++ [e]) t (us ++ [x]) us x hI hx hf hl (fun y hy => List.mem_append_left _ hy) (by simp) (by rw [← List.cons_append]; exact List.mem_append_left _ (lastB_mem L t)) (.head _) hze hLe hcase hr.fwd.at_ hr.bwd.at_ hc3 hu hk1
    (by rw [hlen]; exact hpop) (by rw [sumV_snoc]; omega) (by rw [sumA_snoc]; omega)
  exact pop_x C L e _ _ _ w hI.set.c0 hk1 hr.len (by rw [hlen]; omega) ⟨h22⟩
theorem shiftCoin (w : World) (base C L e : Nat) (t : List Nat) (us : List Cn) (x : Cn) (hI : Inv w base C L (e :: t) (x :: us)) (hf : ∀ y ∈ x :: us, fitC y) (hl : (x :: us).length ≤ 20) :
    Calls Try.prog 14 #[P C] w fun en w' => en = .returned (coinOf x) ∧ (Inv w' base C L t us ∧ Fr (C :: L :: e :: t) w w') := by
  have hx := hf x (by simp)
  have hr := hI.ring
  rw [List.map_cons] at hr
  obtain ⟨n1, n2⟩ := List.nodup_cons.1 hr.nodup
  obtain ⟨n3, n4⟩ := List.nodup_cons.1 n2
  have hLe : L ≠ e := fun h => n1 (h ▸ .head _)
  have hLt : L ∉ t := fun h => n1 (.tail _ h)
  have hce : t.headD L ≠ e := by
    cases t with
    | nil => exact hLe
    | cons c t => exact fun h => n3 (h ▸ .head _)
  have hcm : t.headD L ∈ L :: e :: t := by
    cases t with
    | nil => exact .head _
    | cons c t => exact .tail _ (.tail _ (.head _))
  have hk0 := hr.fwd.head
  have hc0 : w.cell? ⟨e, 0, none⟩ = some (P (t.headD L)) := Fwd.head (b := e) (bs := t) hr.fwd.2
  have hc1 : ∃ u, w.cell? ⟨t.headD L, 1, none⟩ = some u := by
    cases t with
    | nil => exact ⟨_, hr.bwd.2⟩
    | cons c t => exact ⟨_, hr.bwd.2.1⟩
  obtain ⟨u, hu⟩ := hc1
  have hcase : L = L ∧ t.headD L = L ∨ L = L ∧ t.headD L ≠ L ∨ L ≠ L ∧ t.headD L = L := by
    by_cases h : t.headD L = L
    · exact .inl ⟨rfl, h⟩
    · exact .inr (.inl ⟨rfl, h⟩)
  have hc3 : w.cell? ⟨e, 3, none⟩ = some (coinOf x) := hr.val 0 e (coinOf x) rfl rfl
  have h22 := taken w base C L e L (t.headD L) (e :: t) t (x :: us) us x hI hx hf hl (fun y hy => .tail _ hy) (.head _) (.head _) hcm hLe hce hcase hc0 hr.bwd.1 hc3 hk0 hu
    (Ring.shift hr) (by simp only [sumV]; omega) (by simp only [sumA]; omega)
  exact shift_x C L e _ _ _ w hI.set.c0 hk0 hr.len (by simp; omega) ⟨h22⟩
end Go.Proofs.Ytkmcoaidlnaliaa.Purse
