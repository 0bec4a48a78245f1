/-
  The writer of bits.
  gcs.zzWriter, WriteBits, Bytes.
  gcs.BuildGCSFilter: a filter whose bytes are what spec.Coded says.
-/
import Derived.Test.YtfhkkojdaejnjaaDoorJO
import Derived.Test.YtfhkkojdaejnjaaDoorJB
import Derived.BigRegion
import Derived.Test.YtfhkkojdaejnjaaDoorJM
set_option linter.unusedVariables false
namespace Go.Proofs.YtfhkkojdaejnjaaDoor.Gcs
open Go.RowKit Go.Proofs.YtfhkkojdaejnjaaDoor.Hand Go.Proofs.YtfhkkojdaejnjaaDoor.Buf Go.Proofs.YtfhkkojdaejnjaaDoor.PFnForms Go.Proofs.YtfhkkojdaejnjaaDoorW.PrintWords Go.Proofs.YtfhkkojdaejnjaaDoorW.PrintLast Go.Proofs.YtfhkkojdaejnjaaDoorW.PrintMore

theorem R_any {k : IntKind} {e : Nat} {w : World} {base : Nat} {ok : Nat → Prop} {v : Value} {xs : List Int} (h : (Kd.int k).R e w base ok v xs) : (Kd.int k).R e w base (fun j => v.ownBlock = some j) v xs := ⟨fun _ hk => hk, h.2.imp_ (fun _ _ hp => hp)⟩
/-- The writer in its block. -/
structure WrS (base : Nat) (w : World) (g : Nat) (bs : List Int) : Prop where
  hb : base ≤ g
  ex : ∃ A c, w.heap[g]? = some (.cells #[.slice A (packB bs).length c, .int .i64 bs.length] 87 (0, 0)) ∧ (Kd.int .u8).R 5 w base (fun j => (Value.slice A (packB bs).length c).ownBlock = some j) (.slice A (packB bs).length c) (packB bs)
theorem WrS.below {base : Nat} {w w1 : World} {g : Nat} {bs : List Int} (h : WrS base w g bs) (hb : Below w.heap.size w w1) : WrS base w1 g bs := by
  obtain ⟨A, c, h1, h2⟩ := h.ex
  exact ⟨h.hb, A, c, (hb.block g (blk_lt h1)).trans h1, Kd.R_below h2 hb⟩
theorem k87 {w : World} {g n c : Nat} {A : Option Addr} {N : Int} (h : w.heap[g]? = some (.cells #[.slice A n c, .int .i64 N] 87 (0, 0))) :
    w.cell? ⟨g, 0, none⟩ = some (.slice A n c) ∧ w.cell? ⟨g, 1, none⟩ = some (.int .i64 N) ∧ w.frozen? ⟨g, 0, none⟩ = false ∧ w.frozen? ⟨g, 1, none⟩ = false :=
  ⟨(cell_of_blk h (i := 0) rfl).1, (cell_of_blk h (i := 1) rfl).1, (cell_of_blk h (i := 0) rfl).2, (cell_of_blk h (i := 1) rfl).2⟩
theorem WrS.fin {base : Nat} {w : World} {g n c : Nat} {A : Option Addr} {N : Int} {ok : Nat → Prop} {X bs : List Int} (hb : base ≤ g) (h : w.heap[g]? = some (.cells #[.slice A n c, .int .i64 N] 87 (0, 0))) (hR : (Kd.int .u8).R 5 w base ok (.slice A n c) X) (hX : packB bs = X) (hN : N = bs.length) : WrS base w g bs := by
  have e := (Kd.R_reads' hR).1
  subst hX hN e
  exact ⟨hb, A, c, h, R_any hR⟩
section
variable {ops : Array Oper} {rest : List Oper} {o : Oper} {a : Act} {Q : Exit → Act → World → Prop} {W : World}
theorem st_run3 {p : Tmp} {v : Operand} (ho : o.op = .store 3 (.tmp p) v) {g i : Nat} {x z : Int} (hp : a.eval (.tmp p) = .pointer (some ⟨g, i, none⟩)) (hv : a.eval v = .int .i64 x) (hc : W.cell? ⟨g, i, none⟩ = some (.int .i64 z)) (hf : W.frozen? ⟨g, i, none⟩ = false) :
    (execOp a.eval o).run Tryd.prog W = .ok .skip (W.setCell ⟨g, i, none⟩ (.int .i64 x)) := by
  unfold execOp
  rw [ho]
  simp only [hp, hv]
  simp [go_sem, hc, hf]
theorem st87_0 (hgd : o.guard = none) {p : Tmp} {v : Operand} (ho : o.op = .store 29 (.tmp p) v) (hN : o.dst = none) {g : Nat} {B : Nat} {w0 : World} {A A1 : Option Addr} {l c l1 c1 : Nat} {N : Int} (hb : W.heap[g]? = some (.cells #[.slice A1 l1 c1, .int .i64 N] 87 (0, 0))) (hB : Below B w0 W) (hg : B ≤ g)
    (hp : a.eval (.tmp p) = .pointer (some ⟨g, 0, none⟩)) (hv : a.eval v = .slice A l c)
    (h : ∀ w1, w1.heap[g]? = some (.cells #[.slice A l c, .int .i64 N] 87 (0, 0)) → Below B w0 w1 → (∀ k, k ≠ g → w1.heap[k]? = W.heap[k]?) → wpList Tryd.prog ops Q rest a w1) : wpList Tryd.prog ops Q (o :: rest) a W :=
  blk_store29 hgd ho hN hb (i := 0) rfl hB hg hp hv fun w1 h1 h2 h3 => h w1 h1 h2 h3
theorem st87_1 (hgd : o.guard = none) {p : Tmp} {v : Operand} (ho : o.op = .store 3 (.tmp p) v) (hN : o.dst = none) {g : Nat} {B : Nat} {w0 : World} {A1 : Option Addr} {l1 c1 : Nat} {N M : Int} (hb : W.heap[g]? = some (.cells #[.slice A1 l1 c1, .int .i64 N] 87 (0, 0))) (hB : Below B w0 W) (hg : B ≤ g)
    (hp : a.eval (.tmp p) = .pointer (some ⟨g, 1, none⟩)) (hv : a.eval v = .int .i64 M)
    (h : ∀ w1, w1.heap[g]? = some (.cells #[.slice A1 l1 c1, .int .i64 M] 87 (0, 0)) → Below B w0 w1 → (∀ k, k ≠ g → w1.heap[k]? = W.heap[k]?) → wpList Tryd.prog ops Q rest a w1) : wpList Tryd.prog ops Q (o :: rest) a W :=
  store_event hgd ho hN (st_run3 ho hp hv (k87 hb).2.1 (k87 hb).2.2.2) fun w1 e => h w1 (by subst e; exact bx_set hb) (by subst e; exact hB.setCell hg _) (by subst e; exact fun k hk => Below.heap_setCell W _ _ k hk)
end
def IsWr (base : Nat) (w : World) (g : Nat) (bs : List Int) (e : Ending) (w' : World) : Prop := e = .returned (.tuple #[]) ∧ WrS base w' g bs ∧ ∀ w0, Below base w0 w → Below base w0 w'

theorem setB_zero (X : List Int) (N : Nat) (h : N / 8 < X.length) (hB : ∀ x ∈ X, 0 ≤ x ∧ x < 256) : setB X N 0 = X := by
  have hx := hB (X[N / 8]) (List.getElem_mem _)
  have hg : X.getD (N / 8) 0 = X[N / 8] := by rw [List.getD_eq_getElem?_getD, List.getElem?_eq_getElem h]; rfl
  have ho := or_none ⟨(X[N / 8]).toNat, by omega⟩ ⟨7 - N % 8, by omega⟩
  have hc : (((X[N / 8]).toNat : Nat) : Int) = X[N / 8] := by omega
  simp only [hc] at ho
  unfold setB
  rw [hg, ho]
  exact List.set_getElem_self h
theorem packB_bytes (bs : List Int) : ∀ x ∈ packB bs, 0 ≤ x ∧ x < 256 := (outB_facts bs _).2
theorem pack_zero (bs : List Int) : setB (packB bs ++ [0]) bs.length 0 = packB bs ++ [0] := setB_zero _ _ (by rw [List.length_append, packB_length]; simp; omega) (fun x hx => by
  rcases List.mem_append.1 hx with h | h
  · exact packB_bytes bs x h
  · rw [List.mem_singleton.1 h]; decide)
theorem pack_same (bs : List Int) (h : ¬ bs.length % 8 = 0) : setB (packB bs) bs.length 0 = packB bs := setB_zero _ _ (by rw [packB_length]; omega) (packB_bytes bs)
set_option maxRecDepth 100000 in
set_option maxHeartbeats 8000000 in
theorem wbit_calls (base g : Nat) (bs : List Int) (on : Bool) (b : Int) (w : World) (hW : WrS base w g bs) (hbs : base ≤ w.heap.size) (hl : bs.length ≤ 100000) (hbv : b = if on then 1 else 0) :
    Calls Tryd.prog 37 #[.pointer (some ⟨g, 0, none⟩), .bool on] w (IsWr base w g (bs ++ [b])) := by
  obtain ⟨hbg, A, c, hblk, hR⟩ := hW
  have HPL := Aside0.mk (packB_length bs)
  have HPS := Aside0.mk (packB_snoc bs b)
  have HPZ := Aside0.mk (pack_zero bs)
  have HPQ := Aside0.mk (pack_same bs)
  obtain ⟨N, hN⟩ : ∃ N, N = bs.length := ⟨_, rfl⟩
  obtain ⟨L, hL⟩ : ∃ L, L = (packB bs).length := ⟨_, rfl⟩
  rw [← hL] at hR hblk HPL
  rw [← hN] at hblk HPL hl HPS HPZ HPQ
  have HBK := Aside0.mk hblk
  obtain ⟨k0, k1, f0, f1⟩ := k87 hblk
  have HR := Aside0.mk hR
  have HB := Aside0.mk (Below.refl base w)
  have HNN := Aside0.mk hN
  have HLL := Aside0.mk hL
  have HNE := Aside0.mk (Kd.R_ne hR hblk (by decide))
  clear hN hL hR hblk
  by_cases h8 : N % 8 = 0
  · have h8z : (N : Int) % 8 = 0 := by omega
    cases on
    · have HBV : Aside0 (b = 0) := ⟨hbv⟩
      clear hbv
      go_enter Tryd.func37, Tryd.ntmps37
      go_wp2_with (first
        | (at_builtin; refine Kd.R_append (Kd.int .u8) (w0 := w) base rfl (.tmp 14) (.tmp 15) 29 5 (.int .u8 0) 1 rfl Tryd.underlying29 info5 rfl (by decide) (by decide) _ (packB bs) (0 : Int) [.int .u8 0] (fun _ => True) (fun _ => False) rfl rfl rfl (fun _ hk => hk.elim) (fun _ _ => trivial) (Kd.R_mono HR.out (fun _ _ => trivial)) HB.out hbs (by rw [← HLL.out, HPL.out]; omega) ?_; intro v9 w9 hR9 hb9 hg9 hat9; obtain ⟨X9, hX9⟩ : ∃ X, X = packB bs ++ [(0 : Int)] := ⟨_, rfl⟩; rw [← hX9] at hR9; obtain ⟨A9, c9, rfl⟩ := Kd.R_slice hR9; obtain ⟨L9, hL9⟩ : ∃ L, L = X9.length := ⟨_, rfl⟩; rw [← hL9] at hR9 ⊢; have HX9 := Aside0.mk hX9; have HL9 := Aside0.mk hL9; have HR9 := Aside0.mk hR9; have HB9 := Aside0.mk hb9; have HK9 := Aside0.mk ((hg9.block _ (blk_lt HBK.out) HNE.out).trans HBK.out); clear hR9 hb9 hg9 hat9 hX9 hL9)
        | ((with_reducible refine gate_store (t := 29) (p := 18) rfl ?_); refine st87_0 rfl rfl rfl HK9.out HB9.out hbg rfl rfl ?_; intro w10 hK hB hF; have HK10 := Aside0.mk hK; have HB10 := Aside0.mk hB; have HR10 := Aside0.mk (Kd.R_step (R_any HR9.out) (fun j hj _ => hF j (fun e => Kd.R_ne HR9.out HK9.out (by decide) (by rw [hj, e])))); clear hK hB hF k0 k1 f0 f1; obtain ⟨k0, k1, f0, f1⟩ := k87 HK10.out)
        | ((with_reducible refine gate_store (t := 3) (p := 46) rfl ?_); refine st87_1 rfl rfl rfl HK10.out HB10.out hbg rfl rfl ?_; intro w12 hK hB hF; have HK12 := Aside0.mk hK; have HB12 := Aside0.mk hB; have HR12 := Aside0.mk (Kd.R_step (R_any HR10.out) (fun j hj _ => hF j (fun e => Kd.R_ne HR10.out HK10.out (by decide) (by rw [hj, e])))); clear hK hB hF)
        | fail)
      refine bodyPost_ret (results_none rfl _ _ _) rfl ⟨rfl, WrS.fin hbg HK12.out HR12.out (by rw [HPS.out, HBV.out]; rw [if_pos h8, HPZ.out, ← HX9.out]) (by rw [List.length_append, ← HNN.out]; rfl), fun w0 h => h.trans HB12.out⟩
    · have HBV : Aside0 (b = 1) := ⟨hbv⟩
      clear hbv
      go_enter Tryd.func37, Tryd.ntmps37
      go_wp2_with (first
        | (at_builtin; refine Kd.R_append (Kd.int .u8) (w0 := w) base rfl (.tmp 14) (.tmp 15) 29 5 (.int .u8 0) 1 rfl Tryd.underlying29 info5 rfl (by decide) (by decide) _ (packB bs) (0 : Int) [.int .u8 0] (fun _ => True) (fun _ => False) rfl rfl rfl (fun _ hk => hk.elim) (fun _ _ => trivial) (Kd.R_mono HR.out (fun _ _ => trivial)) HB.out hbs (by rw [← HLL.out, HPL.out]; omega) ?_; intro v9 w9 hR9 hb9 hg9 hat9; obtain ⟨X9, hX9⟩ : ∃ X, X = packB bs ++ [(0 : Int)] := ⟨_, rfl⟩; rw [← hX9] at hR9; obtain ⟨A9, c9, rfl⟩ := Kd.R_slice hR9; obtain ⟨L9, hL9⟩ : ∃ L, L = X9.length := ⟨_, rfl⟩; rw [← hL9] at hR9 ⊢; have HX9 := Aside0.mk hX9; have HL9 := Aside0.mk hL9; have HR9 := Aside0.mk hR9; have HB9 := Aside0.mk hb9; have HK9 := Aside0.mk ((hg9.block _ (blk_lt HBK.out) HNE.out).trans HBK.out); clear hR9 hb9 hg9 hat9 hX9 hL9)
        | ((with_reducible refine gate_store (t := 29) (p := 18) rfl ?_); refine st87_0 rfl rfl rfl HK9.out HB9.out hbg rfl rfl ?_; intro w10 hK hB hF; have HK10 := Aside0.mk hK; have HB10 := Aside0.mk hB; have HR10 := Aside0.mk (Kd.R_step (R_any HR9.out) (fun j hj _ => hF j (fun e => Kd.R_ne HR9.out HK9.out (by decide) (by rw [hj, e])))); clear hK hB hF k0 k1 f0 f1; obtain ⟨k0, k1, f0, f1⟩ := k87 HK10.out)
        | fail)
      have hI : (N / 8 : Nat) < L9 := by rw [HL9.out, HX9.out, List.length_append, ← HLL.out, HPL.out]; simp; omega
      obtain ⟨I8, hI8⟩ : ∃ I8, I8 = N / 8 := ⟨_, rfl⟩
      obtain ⟨S8, hS8⟩ : ∃ S8, S8 = 7 - N % 8 := ⟨_, rfl⟩
      have e8 : (N : Int) / 8 = (I8 : Int) := by omega
      have es : (7 : Int) - (N : Int) % 8 = (S8 : Int) := by omega
      have hS7 : S8 ≤ 7 := by omega
      rw [← hI8] at hI
      obtain ⟨go, cc, eo, gb, gl, cells, hc⟩ := Kd.R_form HR10.out (by rw [← (Kd.R_reads' HR10.out).1]; omega)
      injection eo with ea en ec
      subst ea ec
      clear en
      obtain ⟨kb, fb⟩ := Kd.R_celln 0 HR10.out (I8 : Int) (by omega) (by omega)
      rw [Int.toNat_natCast] at kb fb
      have HSB : Aside0 (setB X9 N 1 = X9.set I8 (Go.bits .or .u8 (rdOf 0 X9 (I8 : Int)) (128))) := ⟨by rw [hI8]; unfold setB rdOf; rw [Int.toNat_natCast, IntKind.wrap_u8, Int.one_mul, h8]; rfl⟩
      have HPT : Aside0 (∀ y, (Kd.int .u8).R 5 ((World.setCell w10 ⟨go, I8, none⟩ (.int .u8 y)).drew) base (fun _ => True) (.slice (some ⟨go, 0, none⟩) L9 c9) (X9.set I8 y)) := ⟨fun y => by
        have h := Kd.R_putn HR10.out (I8 : Int) y
        rw [Int.toNat_natCast] at h
        exact Kd.R_mono (show (Kd.int .u8).R 5 ((World.setCell w10 ⟨go, I8, none⟩ (.int .u8 y)).drew) base _ (.slice (some ⟨go, 0, none⟩) L9 c9) (X9.set I8 y) from h) (fun _ _ => trivial)⟩
      have HGB := Aside0.mk gb
      have HKP : Aside0 (∀ y, ((World.setCell w10 ⟨go, I8, none⟩ (.int .u8 y)).drew).heap[g]? = w10.heap[g]?) := ⟨fun y => Below.heap_setCell _ _ _ _ (fun e => Kd.R_ne HR10.out HK10.out (by decide) (by show some g = some go; rw [e]))⟩
      generalize rdOf 0 X9 (I8 : Int) = y at kb HSB
      clear hI8 hS8 gl hc gb
      go_region
      have HY := HSB.out
      obtain ⟨Y, hY⟩ : ∃ Y, Y = Go.bits .or .u8 y (128) := ⟨_, rfl⟩
      rw [← hY] at HY ⊢
      have HR2 := HPT.out Y
      have HK2 := (HKP.out Y).trans HK10.out
      have HB2 : Below base w (World.setCell w10 ⟨go, I8, none⟩ (.int .u8 Y)).drew := below_drew1 (HB10.out.setCell HGB.out _)
      rw [← HY] at HR2
      have HSY := Aside0.mk HY
      clear k0 k1 f0 f1 kb fb hY HY HPT HKP HSB
      generalize (World.setCell w10 ⟨go, I8, none⟩ (.int .u8 Y)).drew = w11 at HR2 HK2 HB2 ⊢
      obtain ⟨k0, k1, f0, f1⟩ := k87 HK2
      have HR11 := Aside0.mk HR2
      have HK11 := Aside0.mk HK2
      have HB11 := Aside0.mk HB2
      clear HR2 HK2 HB2
      go_wp2_with (first
        | ((with_reducible refine gate_store (t := 3) (p := 46) rfl ?_); refine st87_1 rfl rfl rfl HK11.out HB11.out hbg rfl rfl ?_; intro w12 hK hB hF; have HK12 := Aside0.mk hK; have HB12 := Aside0.mk hB; have HR12 := Aside0.mk (Kd.R_step (R_any HR11.out) (fun j hj _ => hF j (fun e => Kd.R_ne HR11.out HK11.out (by decide) (by rw [hj, e])))); clear hK hB hF)
        | fail)
      refine bodyPost_ret (results_none rfl _ _ _) rfl ⟨rfl, WrS.fin hbg HK12.out HR12.out (by rw [HPS.out, HBV.out]; rw [if_pos h8, ← HX9.out]) (by rw [List.length_append, ← HNN.out]; rfl), fun w0 h => h.trans HB12.out⟩

  · have h8z : ¬ (N : Int) % 8 = 0 := by omega
    cases on
    · have HBV : Aside0 (b = 0) := ⟨hbv⟩
      clear hbv
      go_enter Tryd.func37, Tryd.ntmps37
      go_wp2_with (first
        | ((with_reducible refine gate_store (t := 3) (p := 46) rfl ?_); refine st87_1 rfl rfl rfl HBK.out HB.out hbg rfl rfl ?_; intro w12 hK hB hF; have HK12 := Aside0.mk hK; have HB12 := Aside0.mk hB; have HR12 := Aside0.mk (Kd.R_step (R_any HR.out) (fun j hj _ => hF j (fun e => Kd.R_ne HR.out HBK.out (by decide) (by rw [hj, e])))); clear hK hB hF)
        | fail)
      refine bodyPost_ret (results_none rfl _ _ _) rfl ⟨rfl, WrS.fin hbg HK12.out HR12.out (by rw [HPS.out, HBV.out]; rw [if_neg h8, HPQ.out h8]) (by rw [List.length_append, ← HNN.out]; rfl), fun w0 h => h.trans HB12.out⟩
    · have HBV : Aside0 (b = 1) := ⟨hbv⟩
      clear hbv
      go_enter Tryd.func37, Tryd.ntmps37
      go_wp2_with fail
      have hI : (N / 8 : Nat) < L := by rw [HPL.out]; omega
      obtain ⟨I8, hI8⟩ : ∃ I8, I8 = N / 8 := ⟨_, rfl⟩
      obtain ⟨S8, hS8⟩ : ∃ S8, S8 = 7 - N % 8 := ⟨_, rfl⟩
      have e8 : (N : Int) / 8 = (I8 : Int) := by omega
      have es : (7 : Int) - (N : Int) % 8 = (S8 : Int) := by omega
      have hS7 : S8 ≤ 7 := by omega
      rw [← hI8] at hI
      obtain ⟨go, cc, eo, gb, gl, cells, hc⟩ := Kd.R_form HR.out (by rw [← (Kd.R_reads' HR.out).1]; omega)
      injection eo with ea en ec
      subst ea ec
      clear en
      obtain ⟨kb, fb⟩ := Kd.R_celln 0 HR.out (I8 : Int) (by omega) (by omega)
      rw [Int.toNat_natCast] at kb fb
      have HSB : Aside0 (setB (packB bs) N 1 = (packB bs).set I8 (Go.bits .or .u8 (rdOf 0 (packB bs) (I8 : Int)) (2 ^ S8 % 256))) := ⟨by rw [hI8, hS8]; unfold setB rdOf; rw [Int.toNat_natCast, IntKind.wrap_u8, Int.one_mul]⟩
      have HPT : Aside0 (∀ y, (Kd.int .u8).R 5 ((World.setCell w ⟨go, I8, none⟩ (.int .u8 y)).drew) base (fun _ => True) (.slice (some ⟨go, 0, none⟩) L c) ((packB bs).set I8 y)) := ⟨fun y => by
        have h := Kd.R_putn HR.out (I8 : Int) y
        rw [Int.toNat_natCast] at h
        exact Kd.R_mono (show (Kd.int .u8).R 5 ((World.setCell w ⟨go, I8, none⟩ (.int .u8 y)).drew) base _ (.slice (some ⟨go, 0, none⟩) L c) ((packB bs).set I8 y) from h) (fun _ _ => trivial)⟩
      have HGB := Aside0.mk gb
      have HKP : Aside0 (∀ y, ((World.setCell w ⟨go, I8, none⟩ (.int .u8 y)).drew).heap[g]? = w.heap[g]?) := ⟨fun y => Below.heap_setCell _ _ _ _ (fun e => Kd.R_ne HR.out HBK.out (by decide) (by show some g = some go; rw [e]))⟩
      generalize rdOf 0 (packB bs) (I8 : Int) = y at kb HSB
      clear hI8 hS8 gl hc gb
      go_region
      have HY := HSB.out
      obtain ⟨Y, hY⟩ : ∃ Y, Y = Go.bits .or .u8 y (2 ^ S8 % 256) := ⟨_, rfl⟩
      rw [← hY] at HY ⊢
      have HR2 := HPT.out Y
      have HK2 := (HKP.out Y).trans HBK.out
      have HB2 : Below base w (World.setCell w ⟨go, I8, none⟩ (.int .u8 Y)).drew := below_drew1 (HB.out.setCell HGB.out _)
      rw [← HY] at HR2
      have HSY := Aside0.mk HY
      clear k0 k1 f0 f1 kb fb hY HY HPT HKP HSB
      generalize (World.setCell w ⟨go, I8, none⟩ (.int .u8 Y)).drew = w11 at HR2 HK2 HB2 ⊢
      obtain ⟨k0, k1, f0, f1⟩ := k87 HK2
      have HR11 := Aside0.mk HR2
      have HK11 := Aside0.mk HK2
      have HB11 := Aside0.mk HB2
      clear HR2 HK2 HB2
      go_wp2_with (first
        | ((with_reducible refine gate_store (t := 3) (p := 46) rfl ?_); refine st87_1 rfl rfl rfl HK11.out HB11.out hbg rfl rfl ?_; intro w12 hK hB hF; have HK12 := Aside0.mk hK; have HB12 := Aside0.mk hB; have HR12 := Aside0.mk (Kd.R_step (R_any HR11.out) (fun j hj _ => hF j (fun e => Kd.R_ne HR11.out HK11.out (by decide) (by rw [hj, e])))); clear hK hB hF)
        | fail)
      refine bodyPost_ret (results_none rfl _ _ _) rfl ⟨rfl, WrS.fin hbg HK12.out HR12.out (by rw [HPS.out, HBV.out]; rw [if_neg h8]) (by rw [List.length_append, ← HNN.out]; rfl), fun w0 h => h.trans HB12.out⟩

end Go.Proofs.YtfhkkojdaejnjaaDoor.Gcs
namespace Go.Proofs.YtfhkkojdaejnjaaDoor.Gcs
open Go.RowKit Go.Proofs.YtfhkkojdaejnjaaDoor.Hand Go.Proofs.YtfhkkojdaejnjaaDoor.Buf Go.Proofs.YtfhkkojdaejnjaaDoor.PFnForms Go.Proofs.YtfhkkojdaejnjaaDoorW.PrintWords Go.Proofs.YtfhkkojdaejnjaaDoorW.PrintLast Go.Proofs.YtfhkkojdaejnjaaDoorW.PrintMore

def IsNewWr (w : World) (e : Ending) (w' : World) : Prop := e = .returned (.pointer (some ⟨w.heap.size, 0, none⟩)) ∧ w'.heap[w.heap.size]? = some (.cells #[.slice none 0 0, .int .i64 0] 87 (0, 0)) ∧ Below w.heap.size w w'
theorem writer_calls (w : World) : Calls Tryd.prog 33 #[] w (IsNewWr w) := by
  have HB := Aside0.mk (Below.refl w.heap.size w)
  go_enter Tryd.func33, Tryd.ntmps33
  go_wp2_with (first
    | ((with_reducible refine gate_dst (N := 2) rfl ?_); refine box_event ?hg (N := 2) ?hd (cs := #[.slice none 0 0, .int .i64 0]) (t := 87) ?hr ?_; (case hd => rfl); (case hg => rfl); (case hr => first | (go_simp; done) | (go_simp; rfl)); intro g hg w1 hbox hb1; have HX := Aside0.mk hbox; have HB1 := Aside0.mk (below_step HB.out hb1); have HG := Aside0.mk hg; clear hg hbox hb1)
    | fail)
  refine bodyPost_ret (results_tmp rfl _ _ _) rfl ?_
  have hg := HG.out
  subst hg
  exact ⟨rfl, HX.out, HB1.out⟩
theorem WrS.start {w : World} {g base : Nat} (h : w.heap[g]? = some (.cells #[.slice none 0 0, .int .i64 0] 87 (0, 0))) (hb : base ≤ g) : WrS base w g [] := WrS.fin hb h (Kd.R_nil _ _ _ _ (fun _ => True)) rfl rfl
theorem restB_mod (p : Nat) (d : Int) : ∀ k, k ≤ p → restB p (d % 2 ^ p) k = restB p d k
  | 0, _ => rfl
  | k + 1, h => by
    show restB p (d % 2 ^ p) k ++ [d % 2 ^ p / 2 ^ (p - (k + 1)) % 2] = restB p d k ++ [d / 2 ^ (p - (k + 1)) % 2]
    rw [restB_mod p d k (by omega)]
    have e : (2 : Int) ^ p = 2 ^ (p - (k + 1)) * (2 * 2 ^ k) := by
      rw [← Int.pow_succ', ← Int.pow_add, show p - (k + 1) + (k + 1) = p by omega]
    congr 2
    generalize p - (k + 1) = j at e ⊢
    have hj : (0 : Int) < 2 ^ j := Int.pow_pos (by decide)
    have e2 : d % (2 ^ j * (2 * 2 ^ k)) = d + 2 ^ j * (2 * -(2 ^ k * (d / (2 ^ j * (2 * 2 ^ k))))) := by
      rw [Int.emod_def, Int.mul_neg, Int.mul_neg, ← Int.sub_eq_add_neg, Int.mul_assoc (2 ^ j), Int.mul_assoc 2]
    rw [e, e2, Int.add_mul_ediv_left _ _ (by omega), Int.add_mul_emod_self_left]
theorem wbytes_calls (base g : Nat) (bs : List Int) (w : World) (hW : WrS base w g bs) :
    Calls Tryd.prog 39 #[.pointer (some ⟨g, 0, none⟩)] w fun e w' => (∃ A c, e = .returned (.slice A (packB bs).length c) ∧ (Kd.int .u8).R 5 w base (fun _ => True) (.slice A (packB bs).length c) (packB bs)) ∧ w' = w := by
  obtain ⟨hbg, A, c, hblk, hR⟩ := hW
  obtain ⟨k0, k1, f0, f1⟩ := k87 hblk
  have HR := Aside0.mk hR
  clear hR hblk
  go_enter Tryd.func39, Tryd.ntmps39
  go_wp2_with fail
  exact bodyPost_ret (results_tmp rfl _ _ _) rfl ⟨⟨A, c, rfl, Kd.R_mono HR.out (fun _ _ => trivial)⟩, rfl⟩
theorem restB_succ (p : Nat) (v : Int) (r : Nat) (hr : r + 1 ≤ p) : restB p v (p - r) = restB p v (p - (r + 1)) ++ [v / 2 ^ r % 2] := by
  rw [show p - r = (p - (r + 1)) + 1 by omega]
  show restB p v (p - (r + 1)) ++ [v / 2 ^ (p - (p - (r + 1) + 1)) % 2] = _
  rw [show p - (p - (r + 1) + 1) = r by omega]
set_option maxRecDepth 100000 in
set_option maxHeartbeats 8000000 in
theorem wbits_calls (base g p : Nat) (bs : List Int) (v : Int) (w : World) (hW : WrS base w g bs) (hbs : base ≤ w.heap.size) (hl : bs.length + p ≤ 100000) (hp : p ≤ 32) (hv0 : 0 ≤ v) (hv1 : v < 18446744073709551616) :
    Calls Tryd.prog 38 #[.pointer (some ⟨g, 0, none⟩), .int .u64 v, .int .i64 p] w (IsWr base w g (bs ++ restB p v p)) := by
  have HW0 : Aside0 (WrS base w g (bs ++ restB p v (p - p))) := ⟨by rw [Nat.sub_self]; unfold restB; rw [List.append_nil]; exact hW⟩
  have HB0 := Aside0.mk (Below.refl base w)
  clear hW
  go_enter Tryd.func38, Tryd.ntmps38
  go_wp2_with fail
  go_loopw [6] (fun v6 wr => ∃ r : Nat, v6 = .int .i64 ((r : Int) - 1) ∧ r ≤ p ∧ Aside0 (WrS base wr g (bs ++ restB p v (p - r))) ∧ Aside0 (Below base w wr)) (fun v6 _ => (intOf v6 + 1).toNat)
  case atStart => exact ⟨p, by go_num, Nat.le_refl _, HW0, HB0⟩
  case round =>
    obtain ⟨r, rfl, hr, HW, HB⟩ := hrel
    clear HW0 HB0
    rcases Nat.eq_zero_or_pos r with rfl | hr0
    · rw [Nat.sub_zero] at HW
      go_wp2_with fail
      go_end0
      exact ⟨rfl, HW.out, fun w0 h => h.trans HB.out⟩
    · obtain ⟨r', rfl⟩ : ∃ r', r = r' + 1 := ⟨r - 1, by omega⟩
      have HRS := Aside0.mk (restB_succ p v r' hr)
      have HBIT : Aside0 (Go.bits .and .u64 (v / 2 ^ r') 1 = v / 2 ^ r' % 2) := ⟨by
        have hpos : (0 : Int) < 2 ^ r' := Int.pow_pos (by decide)
        have h0 : 0 ≤ v / 2 ^ r' := Int.ediv_nonneg hv0 (Int.le_of_lt hpos)
        have h1 : v / 2 ^ r' ≤ v := Int.ediv_le_self _ hv0
        exact bits_mask .u64 64 (by decide) (fun n h0 h1 => wrap_id h0 (by simpa using h1)) 1 (by decide) _ h0 (by simp; omega)⟩
      have HCL : Aside0 (Calls Tryd.prog 37 #[.pointer (some ⟨g, 0, none⟩), .bool (Go.bits .and .u64 (v / 2 ^ r') 1 == 1)] wr (IsWr base wr g (bs ++ restB p v (p - (r' + 1)) ++ [v / 2 ^ r' % 2]))) := ⟨wbit_calls base g _ _ _ wr HW.out (Nat.le_trans hbs HB.out.size) (by rw [List.length_append, restB_length]; omega) (by
        rw [HBIT.out]
        have : v / 2 ^ r' % 2 = 0 ∨ v / 2 ^ r' % 2 = 1 := by omega
        rcases this with h | h <;> rw [h] <;> rfl)⟩
      clear HBIT
      go_wp2_with (first
        | (go_at_call 37; (with_reducible refine HCL.out.mono ?_); intro e2 w2 hq; unfold IsWr at hq; obtain ⟨rfl, hW2, hb2⟩ := hq; have HW2 := Aside0.mk hW2; have HB2 := Aside0.mk (hb2 _ HB.out); clear hW2 hb2)
        | fail)
      go_roundw
      case rel => exact ⟨r', by first | (congr 1; omega) | go_num, by omega, ⟨by rw [HRS.out, ← List.append_assoc]; exact HW2.out⟩, HB2⟩
      case measure => first | (simp [intOf]; done) | (simp [intOf]; omega)
end Go.Proofs.YtfhkkojdaejnjaaDoor.Gcs
namespace Go.Proofs.YtfhkkojdaejnjaaDoor.Gcs
open Go.RowKit Go.Proofs.YtfhkkojdaejnjaaDoor.Hand Go.Proofs.YtfhkkojdaejnjaaDoor.Buf Go.Proofs.YtfhkkojdaejnjaaDoor.PFnForms Go.Proofs.YtfhkkojdaejnjaaDoorW.PrintWords Go.Proofs.YtfhkkojdaejnjaaDoorW.PrintLast Go.Proofs.YtfhkkojdaejnjaaDoorW.PrintMore

section
variable {ops : Array Oper} {rest : List Oper} {o : Oper} {a : Act} {Q : Exit → Act → World → Prop} {W : World}
/-- The whole filter, stored. -/
theorem st62 (hgd : o.guard = none) {p : Tmp} {v : Operand} (ho : o.op = .store 62 (.tmp p) v) (hN : o.dst = none) {g : Nat} {B : Nat} {w0 : World} {n0 p0 m0 n1 p1 m1 : Int} {l0 c0 l1 c1 : Nat} {A0 A1 : Option Addr} (hb : W.heap[g]? = some (.cells #[.int .u32 n0, .int .u8 p0, .int .u64 m0, .slice A0 l0 c0] 62 (0, 0))) (hB : Below B w0 W) (hg : B ≤ g)
    (hp : a.eval (.tmp p) = .pointer (some ⟨g, 0, none⟩)) (hv : a.eval v = .agg #[.int .u32 n1, .int .u8 p1, .int .u64 m1, .slice A1 l1 c1])
    (h : ∀ w1, w1.heap[g]? = some (.cells #[.int .u32 n1, .int .u8 p1, .int .u64 m1, .slice A1 l1 c1] 62 (0, 0)) → Below B w0 w1 → (∀ k, k ≠ g → w1.heap[k]? = W.heap[k]?) → wpList Tryd.prog ops Q rest a w1) : wpList Tryd.prog ops Q (o :: rest) a W := by
  obtain ⟨k0, f0⟩ := cell_of_blk hb (i := 0) rfl
  obtain ⟨k1, f1⟩ := cell_of_blk hb (i := 1) rfl
  obtain ⟨k2, f2⟩ := cell_of_blk hb (i := 2) rfl
  obtain ⟨k3, f3⟩ := cell_of_blk hb (i := 3) rfl
  have hr : (execOp a.eval o).run Tryd.prog W = .ok .skip ((((W.setCell ⟨g, 0, none⟩ (.int .u32 n1)).setCell ⟨g, 1, none⟩ (.int .u8 p1)).setCell ⟨g, 2, none⟩ (.int .u64 m1)).setCell ⟨g, 3, none⟩ (.slice A1 l1 c1)) := by
    unfold execOp
    rw [ho]
    simp only [hp, hv]
    simp [go_sem, k0, k1, k2, k3, f0, f1, f2, f3]
  refine store_event hgd ho hN hr fun w1 e => ?_
  subst e
  exact h _ (bx_set (bx_set (bx_set (bx_set hb)))) ((((hB.setCell hg _).setCell hg _).setCell hg _).setCell hg _) fun k hk => by rw [Below.heap_setCell _ _ _ k hk, Below.heap_setCell _ _ _ k hk, Below.heap_setCell _ _ _ k hk, Below.heap_setCell _ _ _ k hk]
end

set_option maxRecDepth 100000 in
set_option maxHeartbeats 16000000 in
theorem build_calls (p : Nat) (m f : Int) (ks : List Int) (A : Option Addr) (n c : Nat) (items : List (List Int)) (w : World) (hk : ks.length = 16) (hkb : Bytes ks) (hC : Kd.C (Kd.slice 5 (Kd.int .u8)) w A n items) (hn : items.length = n) (hc : n ≤ c) (h1 : 1 ≤ n) (h20 : n ≤ 20) (h60 : ∀ x ∈ items, x.length ≤ 60 ∧ Bytes x)
    (hp1 : 1 ≤ p) (hp24 : p ≤ 24) (hf : IntKind.u64.wrap ((n : Int) * m) = f) (hf0 : 0 < f) (hf1 : f ≤ 320 * 2 ^ p) :
    Calls Tryd.prog 17 #[.int .u8 p, .int .u64 m, .agg (ks.map (Value.int .u8)).toArray, .slice A n c] w (IsFlt w n p f (packB (bitsB p (valsI ks f items) n))) := by
  have hp2 : (2 : Int) ^ p ≤ 16777216 := by
    have h : (2 : Nat) ^ p ≤ 16777216 := Nat.le_trans (Nat.pow_le_pow_right (by decide) hp24) (by decide)
    have h2 := Int.ofNat_le.2 h
    rw [Int.natCast_pow] at h2
    exact h2
  have hfb : f ≤ 5368709120 := by omega
  obtain ⟨X, hX⟩ : ∃ X, X = (ks.map (Value.int .u8)).toArray := ⟨_, rfl⟩
  rw [← hX]
  have HX := Aside0.mk hX
  have HK := Aside0.mk hk
  have HKY := Aside0.mk hkb
  have HC := Aside0.mk hC
  have HN := Aside0.mk hn
  have H60 := Aside0.mk h60
  have HVE := Aside0.mk (valsI_eq ks f hf0 items)
  have HVF := Aside0.mk (valsI_facts ks f hf0 items)
  have HMD := Aside0.mk hf
  clear hX hC hn h60 hk hkb hf
  have HB := Aside0.mk (Below.refl w.heap.size w)
  obtain ⟨i0, hi, hz0, hz1, hz2⟩ := info_parts info22
  have HII := Aside0.mk (And.intro hi (And.intro hz0 (And.intro hz1 hz2)))
  clear hi hz0 hz1 hz2
  have HFA : Aside0 (∀ (s : Int) (W : World), 0 ≤ s → s < 18446744073709551616 → Calls Tryd.prog 35 #[.int .u64 s, .int .u64 (f / 4294967296), .int .u64 (f % 4294967296)] W fun e w' => e = .returned (.int .u64 (s * f / 18446744073709551616)) ∧ w' = W) := ⟨fun s W h0 h1 => fast_calls s f W h0 h1 (by omega) (by omega)⟩
  have n32 : (n : Int) % 4294967296 = n := by omega
  have nge : ¬ (4294967296 : Int) ≤ (n : Int) := by omega
  have pgt : ¬ (32 : Int) < (p : Int) := by omega
  have n0 : ¬ (n : Int) = 0 := by omega
  go_enter Tryd.func17, Tryd.ntmps17
  go_wp2_with (first
    | ((with_reducible refine gate_dst (N := 6) rfl ?_); refine box_event ?hg (N := 6) ?hd (cs := X) (t := 23) ?hr ?_; (case hd => rfl); (case hg => rfl); (case hr => first | (go_simp; done) | (go_simp; rfl)); intro gk hg w1 hbox hb1; have HKB := Aside0.mk hbox; have HB1 := Aside0.mk (below_step HB.out hb1); clear hg hbox hb1)
    | ((with_reducible refine gate_dst (N := 10) rfl ?_); refine box_event ?hg (N := 10) ?hd (cs := #[.int .u32 0, .int .u8 0, .int .u64 0, .slice none 0 0]) (t := 62) ?hr ?_; (case hd => rfl); (case hg => rfl); (case hr => first | (go_simp; done) | (go_simp; rfl)); intro gf hg w2 hbox hb2; have HF2 := Aside0.mk hbox; have HB2 := Aside0.mk hb2; have HGF : Aside0 (w1.heap.size ≤ gf) := ⟨by rw [hg]; exact Nat.le_refl _⟩; clear hg hbox hb2)
    | ((with_reducible refine gate_store (t := 62) (p := 10) rfl ?_); refine st62 rfl rfl rfl HF2.out HB2.out HGF.out rfl rfl ?_; intro w3 hF hB hK; have HF3 := Aside0.mk hF; have HB3 := Aside0.mk hB; have k0 := (cell_of_blk hF (i := 0) rfl).1; clear hF hB hK)
    | ((with_reducible refine gate_store (t := 22) (p := 41) rfl ?_); refine blk_store22 rfl rfl rfl (i := 2) (z := 0) HF3.out rfl HB3.out HGF.out rfl rfl ?_; intro w4 hF hB hK; have HF4 := Aside0.mk hF; have HB4 := Aside0.mk hB; clear k0 hF hB hK; have k0 := (cell_of_blk HF4.out (i := 0) rfl).1; have k2 := (cell_of_blk HF4.out (i := 2) rfl).1)
    | (at_make; refine wpList_make_own _ rfl _ _ 52 rfl w4.heap.size 22 i0 (.int .u64 0) 1 Tryd.underlying52 HII.out.1 HII.out.2.1 HII.out.2.2.1 .i64 .i64 _ n rfl rfl rfl (by rw [HII.out.2.2.2]; omega) (by unfold maxLen; omega) (Nat.le_refl _) ?_; intro w5 hown hgrow; have HV5 := Aside0.mk (Bw.of_own0 hown (Nat.le_refl _)); have HB5 := Aside0.mk (HB4.out.grown hgrow HB4.out.size (fun _ h => by cases h)); have HF5 := Aside0.mk ((hgrow.block gf (blk_lt HF4.out) (by simp)).trans HF4.out); have HVS : Aside0 (w4.heap.size < w5.heap.size) := ⟨HV5.out.lt⟩; clear hown hgrow k0 k2)
    | (go_at_call 33; (with_reducible refine (writer_calls _).mono ?_); intro e6 w6 hq; unfold IsNewWr at hq; obtain ⟨rfl, hw6, hb6⟩ := hq; have HW6 := Aside0.mk hw6; have HV6 := Aside0.mk (HV5.out.below hb6); have HB6 := Aside0.mk (below_step HB5.out hb6); have HF6 := Aside0.mk ((hb6.block gf (blk_lt HF5.out)).trans HF5.out); have k2 : w6.cell? ⟨gf, 2, none⟩ = some (.int .u64 f) := (cell_of_blk (show w6.heap[gf]? = some (Obj.cells #[.int .u32 n, .int .u8 p, .int .u64 f, .slice none 0 0] 62 (0, 0)) by rw [← HMD.out]; exact HF6.out) (i := 2) rfl).1; clear hw6 hb6)
    | fail)
  have HF7 : Aside0 (w6.heap[gf]? = some (.cells #[.int .u32 n, .int .u8 p, .int .u64 f, .slice none 0 0] 62 (0, 0))) := ⟨by rw [← HMD.out]; exact HF6.out⟩
  obtain ⟨gv, hgv⟩ : ∃ gv, gv = w4.heap.size := ⟨_, rfl⟩
  obtain ⟨gw, hgw⟩ : ∃ gw, gw = w5.heap.size := ⟨_, rfl⟩
  rw [← hgv, ← hgw]
  have HV60 : Aside0 (Bw gv w6 (.slice (some ⟨gv, 0, none⟩) 0 n) ((items.map (valI ks f)).take 0)) := ⟨by rw [hgv]; exact HV6.out⟩
  have HW60 : Aside0 (w6.heap[gw]? = some (.cells #[.slice none 0 0, .int .i64 0] 87 (0, 0))) := ⟨by rw [hgw]; exact HW6.out⟩
  have HVW : Aside0 (gv < gw) := ⟨by rw [hgv, hgw]; exact HVS.out⟩
  have HG1 : Aside0 (w1.heap.size ≤ gv) := ⟨by rw [hgv]; exact HB4.out.size⟩
  have HGV : Aside0 (gf < gv) := ⟨by rw [hgv]; exact blk_lt HF4.out⟩
  have HFR0 := Aside0.mk (Fr1.refl gv w6)
  clear hgv hgw HV5 HV6 HW6 HF2 HF3 HF4 HF5 HF6 HB2 HB3 HB4 HB5 HVS HII HMD k2 n32 nge n0 pgt
  go_loopw [11, 58] (fun v11 v58 wr => ∃ k : Nat, v58 = .int .i64 k ∧ k ≤ n ∧ v11 = .slice (some ⟨gv, 0, none⟩) k n ∧ Aside0 (Bw gv wr (.slice (some ⟨gv, 0, none⟩) k n) ((items.map (valI ks f)).take k)) ∧ Aside0 (Fr1 gv w6 wr) ∧ Aside0 (Below w1.heap.size w1 wr)) (fun _ v58 _ => n - (intOf v58).toNat)
  case atStart => exact ⟨0, rfl, Nat.zero_le _, rfl, HV60, HFR0, HB6⟩
  case round =>
    obtain ⟨k, rfl, hk, rfl, HBW, HFR, HBr⟩ := hrel
    clear HV60 HFR0 HB6
    by_cases hkn : k < n
    · obtain ⟨ad, A0, c0, rfl, kd, hc0, hCb⟩ := at_L1 (Kd.C_below HC.out (below_step HB1.out HBr.out)) (k : Int) (by omega) (by omega)
      have hbm : rd_L1 items (k : Int) ∈ items := by unfold rd_L1; rw [Int.toNat_natCast, List.getD_eq_getElem?_getD, List.getElem?_eq_getElem (by rw [HN.out]; exact hkn)]; exact List.getElem_mem _
      have hbl := H60.out _ hbm
      have HTK : Aside0 ((items.map (valI ks f)).take (k + 1) = (items.map (valI ks f)).take k ++ [valI ks f (rd_L1 items (k : Int))]) := ⟨by
        rw [List.take_succ_eq_append_getElem (by rw [List.length_map, HN.out]; exact hkn), List.getElem_map]
        unfold rd_L1
        rw [Int.toNat_natCast, List.getD_eq_getElem?_getD, List.getElem?_eq_getElem (by rw [HN.out]; exact hkn)]
        rfl⟩
      have HTL : Aside0 (((items.map (valI ks f)).take k).length = k) := ⟨by rw [List.length_take, List.length_map, HN.out]; omega⟩
      clear hbm
      rw [Int.toNat_natCast] at kd
      generalize rd_L1 items (k : Int) = b at kd hc0 hCb hbl HTK
      generalize (items.map (valI ks f)).take k = T at HBW HTK HTL
      have hsl := sip_lo ks b
      have HSP : Aside0 (Calls Tryd.prog 34 #[.slice A0 b.length c0, .pointer (some ⟨gk, 0, none⟩)] wr (IsU64 wr (sipP ks b))) := ⟨zzsip_calls ks gk A0 b.length c0 b wr HK.out HKY.out (by
        have h := C_of_block (w := wr) (g := gk) (k := .u8) (xs := ks) (e := 23) (fr := (0, 0)) ((HBr.out.block gk (blk_lt HKB.out)).trans (by rw [HKB.out, HX.out])) (by rw [HK.out]; omega)
        rwa [HK.out] at h) hCb rfl hc0 (by omega) hbl.2⟩
      have HSB : Aside0 (sipP ks b * f / 18446744073709551616 = valI ks f b) := ⟨rfl⟩
      clear hCb hbl
      go_wp2_with (first
        | (go_at_call 34; (with_reducible refine HSP.out.mono ?_); intro e2 w2 hq; unfold IsU64 at hq; obtain ⟨rfl, hb2⟩ := hq; have HBW2 := Aside0.mk (HBW.out.below hb2); have HB2 := Aside0.mk (below_step HBr.out hb2); have HFR2 := Aside0.mk (HFR.out.trans (Fr1.of_below hb2)); clear hb2)
        | (go_at_call 35; (with_reducible refine (HFA.out (sipP ks b) _ hsl.1 hsl.2).mono ?_); rintro e3 w3 ⟨rfl, rfl⟩; rw [HSB.out])
        | (at_builtin; refine wpList_bw_room (w0 := w3) gv rfl (.tmp 68) (.tmp 70) 52 22 rfl Tryd.underlying52 info22 gv k n T (valI ks f b) rfl rfl HBW2.out HTL.out (Below.refl _ _) (Nat.le_of_lt HBW2.out.lt) (by omega) (by omega) ?_; intro w8 hB8 _ hg8; have HBW8 : Aside0 (Bw gv w8 (.slice (some ⟨gv, 0, none⟩) (k + 1) n) ((items.map (valI ks f)).take (k + 1))) := ⟨by rw [HTK.out]; exact hB8⟩; have HB8 := Aside0.mk (HB2.out.grown hg8 HB2.out.size (fun j e => by injection e with e; rw [← e]; exact HG1.out)); have HFR8 := Aside0.mk (HFR2.out.trans ⟨hg8.size, fun j hj hne => hg8.block j hj (fun e => hne (by injection e))⟩); clear hB8 hg8)
        | fail)
      go_roundw
      case rel => exact ⟨k + 1, by go_num, by omega, rfl, HBW8, HFR8, HB8⟩
      case measure => simp [intOf]; omega
    · obtain rfl : k = n := by omega
      rw [List.take_of_length_le (by rw [List.length_map, HN.out]; exact Nat.le_refl _)] at HBW
      have HML : Aside0 ((items.map (valI ks f)).length = k) := ⟨by rw [List.length_map, HN.out]⟩
      go_wp2_with (first
        | (go_at_call 36; (with_reducible refine (sort_calls gv _ _ _ HBW.out (Nat.le_of_lt HBW.out.lt) (by rw [HML.out]; omega)).mono ?_); intro e9 w9 hq; unfold IsSorted at hq; obtain ⟨rfl, hB9, _, hg9⟩ := hq; rw [← HVE.out] at hB9; replace hg9 : World.grownBy _ w9 (some gv) := hg9; have HBW9 := Aside0.mk hB9; have HB9 := Aside0.mk (HBr.out.grown hg9 HBr.out.size (fun j e => by injection e with e; rw [← e]; exact HG1.out)); have HFR9 := Aside0.mk (HFR.out.trans ⟨hg9.size, fun j hj hne => hg9.block j hj (fun e => hne (by injection e))⟩); clear hB9 hg9)
        | fail)
      have HF9 := Aside0.mk ((HFR9.out.blk gf (blk_lt HF7.out) (Nat.ne_of_lt HGV.out)).trans HF7.out)
      have HWR := Aside0.mk (WrS.start ((HFR9.out.blk gw (blk_lt HW60.out) (Nat.ne_of_gt HVW.out)).trans HW60.out) (Nat.le_refl gw))
      have HGS : Aside0 (gw < w9.heap.size) := ⟨Nat.lt_of_lt_of_le (blk_lt HW60.out) HFR9.out.size⟩
      clear HBW HFR HBr HFR9 HF7 HW60 HFA HVE HML
      obtain ⟨S, hS⟩ : ∃ S, S = valsI ks f items := ⟨_, rfl⟩
      rw [← hS] at HBW9 HVF
      have HSE := Aside0.mk hS
      have HLN : Aside0 (S.length = k) := ⟨by rw [HVF.out.2.1, HN.out]⟩
      have HSR := Aside0.mk HVF.out.1
      have HRG := Aside0.mk HVF.out.2.2
      have HWR0 : Aside0 (WrS gw w9 gw (bitsB p S 0)) := HWR
      have hlb0 : (bitsB p S 0).length ≤ 345 * 0 := Nat.le_refl _
      have HB90 := Aside0.mk (Below.refl gw w9)
      clear hS HVF HWR
      go_loopw [19, 77] (fun v19 v77 wr => ∃ q : Nat, v77 = .int .i64 q ∧ q ≤ k ∧ (bitsB p S q).length ≤ 345 * q ∧ Aside0 (v19 = .int .u64 (if q = 0 then 0 else S.getD (q - 1) 0)) ∧ Aside0 (WrS gw wr gw (bitsB p S q)) ∧ Aside0 (Below gw w9 wr)) (fun _ v77 _ => k - (intOf v77).toNat)
      case atStart => exact ⟨0, rfl, Nat.zero_le _, hlb0, ⟨rfl⟩, HWR0, HB90⟩
      case round =>
        obtain ⟨q, rfl, hq, hlb, HLA, HWq, HBq⟩ := hrel
        clear HWR0 HB90 hlb0
        by_cases hqk : q < k
        · have hqL : q < S.length := by rw [HLN.out]; exact hqk
          have kv := (HBq.out.cell (p := ⟨gv, q, none⟩) HVW.out).trans (HBW9.out.at_ q hqL).1
          have k1 : wr.cell? ⟨gf, 1, none⟩ = some (.int .u8 p) := (cell_of_blk ((HBq.out.block gf (Nat.lt_trans HGV.out HVW.out)).trans HF9.out) (i := 1) rfl).1
          obtain ⟨la, hla⟩ : ∃ la : Int, la = (if q = 0 then 0 else S.getD (q - 1) 0) := ⟨_, rfl⟩
          have hu := HLA.out
          rw [← hla] at hu
          subst hu
          have HLQ : Aside0 (S.getD q 0 = if q + 1 = 0 then 0 else S.getD (q + 1 - 1) 0) := ⟨by rw [if_neg (by omega)]; rfl⟩
          have hmem : S.getD q 0 ∈ S := by rw [getD_mem hqL]; exact List.getElem_mem _
          obtain ⟨hv0, hv1⟩ := HRG.out _ hmem
          have hlale : 0 ≤ la ∧ la ≤ S.getD q 0 := by
            rw [hla]
            by_cases hq0 : q = 0
            · rw [if_pos hq0]; exact ⟨Int.le_refl _, hv0⟩
            · rw [if_neg hq0, getD_mem (by omega), getD_mem hqL]
              exact ⟨(HRG.out _ (List.getElem_mem _)).1, List.pairwise_iff_getElem.1 HSR.out _ _ _ _ (by omega)⟩
          have HBQ : Aside0 (bitsB p S (q + 1) = bitsB p S q ++ diffB p (S.getD q 0 - la)) := ⟨by rw [hla]; rfl⟩
          clear hla HLA hmem
          generalize S.getD q 0 = v at kv HLQ hv0 hv1 hlale HBQ
          obtain ⟨d, hd⟩ : ∃ d, d = v - la := ⟨_, rfl⟩
          have HDE := Aside0.mk hd
          rw [← hd] at HBQ
          have hd0 : 0 ≤ d := by omega
          have hdf : d < f := by omega
          have hpp : (0 : Int) < 2 ^ p := Int.pow_pos (by decide)
          have hq320 : d / 2 ^ p < 320 := Int.ediv_lt_of_lt_mul hpp (by omega)
          have hq0 : 0 ≤ d / 2 ^ p := Int.ediv_nonneg hd0 (Int.le_of_lt hpp)
          obtain ⟨Qn, hQn⟩ := Int.eq_ofNat_of_zero_le hq0
          have hQ320 : Qn ≤ 320 := by omega
          have HDB : Aside0 (diffB p d = List.replicate Qn 1 ++ [0] ++ restB p d p) := ⟨by unfold diffB; rw [hQn]; rfl⟩
          have HMK : Aside0 (Go.bits .and .u64 d (2 ^ p - 1) = d % 2 ^ p) := ⟨bits_mask .u64 64 (by decide) (fun n h0 h1 => wrap_id h0 (by simpa using h1)) p (by omega) d hd0 (by simp; omega)⟩
          have HQV : Aside0 (IntKind.u64.wrap (d - d % 2 ^ p) / 2 ^ p = (Qn : Int)) := ⟨by
            have e := Int.mul_ediv_add_emod d (2 ^ p)
            rw [hQn] at e
            have h0 : 0 ≤ d % 2 ^ p := Int.emod_nonneg _ (by omega)
            have e2 : d - d % 2 ^ p = 2 ^ p * (Qn : Int) := by omega
            rw [wrap_id (by rw [e2]; exact Int.mul_nonneg (Int.le_of_lt hpp) (by omega)) (by omega), e2, Int.mul_ediv_cancel_left _ (by omega)]⟩
          have HMR : Aside0 (0 ≤ d % 2 ^ p ∧ d % 2 ^ p < 18446744073709551616) := ⟨⟨Int.emod_nonneg _ (by omega), by have := Int.emod_lt_of_pos d hpp; omega⟩⟩
          clear hq320 hq0 hd hpp hQn
          go_wp2_with fail
          rw [← HDE.out, HMK.out, HQV.out]
          obtain ⟨bl, hbl⟩ : ∃ bl, bl = (bitsB p S q).length := ⟨_, rfl⟩
          rw [← hbl] at hlb
          have hbl6 : bl ≤ 6900 := by omega
          have HBLQ := Aside0.mk hbl.symm
          clear hbl HDE HMK HQV kv k1
          generalize bitsB p S q = bq at HWq HBQ HBLQ
          have HW0 : Aside0 (WrS gw wr gw (bq ++ List.replicate (Qn - Qn) 1)) := ⟨by rw [Nat.sub_self, List.replicate_zero, List.append_nil]; exact HWq.out⟩
          go_loopw [18] (fun v18 w' => ∃ r : Nat, v18 = .int .u64 r ∧ r ≤ Qn ∧ Aside0 (WrS gw w' gw (bq ++ List.replicate (Qn - r) 1)) ∧ Aside0 (Below gw w9 w')) (fun v18 _ => (intOf v18).toNat)
          case atStart => exact ⟨Qn, rfl, Nat.le_refl _, HW0, HBq⟩
          case round =>
            obtain ⟨r, rfl, hr, HWr, HBr⟩ := hrel
            clear HW0 HBq HWq
            have HRL : Aside0 ((bq ++ List.replicate (Qn - r) (1 : Int)).length = bl + (Qn - r)) := ⟨by rw [List.length_append, List.length_replicate, HBLQ.out]⟩
            have HSZ : Aside0 (gw ≤ wr.heap.size) := ⟨Nat.le_trans (Nat.le_of_lt HGS.out) HBr.out.size⟩
            rcases Nat.eq_zero_or_pos r with rfl | hr0
            · rw [Nat.sub_zero] at HWr HRL
              have HCF : Aside0 (Calls Tryd.prog 37 #[.pointer (some ⟨gw, 0, none⟩), .bool false] wr (IsWr gw wr gw (bq ++ List.replicate Qn 1 ++ [0]))) := ⟨wbit_calls gw gw _ false 0 wr HWr.out HSZ.out (by rw [HRL.out]; omega) rfl⟩
              have HCB : Aside0 (∀ W, WrS gw W gw (bq ++ List.replicate Qn 1 ++ [0]) → gw ≤ W.heap.size → Calls Tryd.prog 38 #[.pointer (some ⟨gw, 0, none⟩), .int .u64 (d % 2 ^ p), .int .i64 p] W (IsWr gw W gw (bq ++ List.replicate Qn 1 ++ [0] ++ restB p (d % 2 ^ p) p))) := ⟨fun W h1 h2 => wbits_calls gw gw p _ _ W h1 h2 (by rw [List.length_append, HRL.out, List.length_singleton]; omega) (by omega) HMR.out.1 HMR.out.2⟩
              go_wp2_with (first
                | (go_at_call 37; (with_reducible refine HCF.out.mono ?_); intro e6 wa hq6; unfold IsWr at hq6; obtain ⟨rfl, hW6, hb6⟩ := hq6; have HWa := Aside0.mk hW6; have HBa := Aside0.mk (hb6 _ HBr.out); have k1 : wa.cell? ⟨gf, 1, none⟩ = some (.int .u8 p) := (cell_of_blk ((HBa.out.block gf (Nat.lt_trans HGV.out HVW.out)).trans HF9.out) (i := 1) rfl).1; clear hW6 hb6)
                | (go_at_call 38; (with_reducible refine (HCB.out _ HWa.out (Nat.le_trans (Nat.le_of_lt HGS.out) HBa.out.size)).mono ?_); intro e7 wb hq7; unfold IsWr at hq7; obtain ⟨rfl, hW7, hb7⟩ := hq7; have HWb := Aside0.mk hW7; have HBb := Aside0.mk (hb7 _ HBa.out); clear hW7 hb7 k1)
                | fail)
              have HNX : Aside0 (bq ++ List.replicate Qn (1 : Int) ++ [0] ++ restB p (d % 2 ^ p) p = bitsB p S (q + 1)) := ⟨by rw [HBQ.out, HDB.out, restB_mod p d p (Nat.le_refl _)]; simp only [List.append_assoc]⟩
              have HNL : Aside0 ((bitsB p S (q + 1)).length ≤ 345 * (q + 1)) := ⟨by rw [HBQ.out, HDB.out]; simp only [List.length_append, List.length_replicate, restB_length, HBLQ.out, List.length_singleton]; omega⟩
              go_roundw
              case rel => exact ⟨q + 1, by go_num, by omega, HNL.out, ⟨by rw [← HLQ.out]⟩, ⟨by rw [← HNX.out]; exact HWb.out⟩, HBb⟩
              case measure => simp [intOf]; omega
            · obtain ⟨r', rfl⟩ : ∃ r', r = r' + 1 := ⟨r - 1, by omega⟩
              have HCT : Aside0 (Calls Tryd.prog 37 #[.pointer (some ⟨gw, 0, none⟩), .bool true] wr (IsWr gw wr gw (bq ++ List.replicate (Qn - (r' + 1)) 1 ++ [1]))) := ⟨wbit_calls gw gw _ true 1 wr HWr.out HSZ.out (by rw [HRL.out]; omega) rfl⟩
              go_wp2_with (first
                | (go_at_call 37; (with_reducible refine HCT.out.mono ?_); intro e6 wa hq6; unfold IsWr at hq6; obtain ⟨rfl, hW6, hb6⟩ := hq6; have HWa := Aside0.mk hW6; have HBa := Aside0.mk (hb6 _ HBr.out); clear hW6 hb6)
                | fail)
              go_roundw
              case rel => exact ⟨r', by go_num, by omega, ⟨by rw [show Qn - r' = (Qn - (r' + 1)) + 1 by omega, List.replicate_succ', ← List.append_assoc]; exact HWa.out⟩, HBa⟩
              case measure => first | (simp [intOf]; done) | (simp [intOf]; omega)
        · obtain rfl : q = k := by omega
          have HFq := Aside0.mk ((HBq.out.block gf (Nat.lt_trans HGV.out HVW.out)).trans HF9.out)
          have HBT : Aside0 (Below w1.heap.size w1 wr) := ⟨HB9.out.trans ⟨HBq.out.os, HBq.out.tape, HBq.out.output, HBq.out.size, fun j hj => HBq.out.block j (Nat.lt_of_lt_of_le hj (Nat.le_trans HG1.out (Nat.le_of_lt HVW.out)))⟩⟩
          have HBYT := Aside0.mk (wbytes_calls gw gw (bitsB p S q) wr HWq.out)
          obtain ⟨D, hD⟩ : ∃ D, D = packB (bitsB p S q) := ⟨_, rfl⟩
          rw [← hD] at HBYT
          have HDD := Aside0.mk hD
          clear hD HLA hlb
          obtain ⟨L, hL⟩ : ∃ L, L = D.length := ⟨_, rfl⟩
          rw [← hL] at HBYT
          have HLD := Aside0.mk hL
          clear hL
          go_wp2_with (first
            | (go_at_call 39; (with_reducible refine HBYT.out.mono ?_); rintro e8 w8 ⟨⟨A8, c8, rfl, hR8⟩, hw8⟩; have HW8 := Aside0.mk hw8; have HR8 := Aside0.mk hR8; clear hR8 hw8; have HF8 : Aside0 (w8.heap[gf]? = some (.cells #[.int .u32 q, .int .u8 p, .int .u64 f, .slice none 0 0] 62 (0, 0))) := ⟨by rw [HW8.out]; exact HFq.out⟩; have HB8 : Aside0 (Below w1.heap.size w1 w8) := ⟨by rw [HW8.out]; exact HBT.out⟩)
            | ((with_reducible refine gate_store (t := 29) (p := 115) rfl ?_); refine blk_store29 rfl rfl rfl (i := 3) HF8.out rfl HB8.out HGF.out rfl rfl ?_; intro wz hF hB hKp; have HFZ := Aside0.mk hF; have HBZ := Aside0.mk hB; have HRZ := Aside0.mk (Kd.R_step (R_any HR8.out) (fun j hj _ => (hKp j (fun e => Kd.R_ne HR8.out (by rw [← HW8.out]; exact HF8.out) (by decide) (by rw [hj, e]))).trans (by rw [HW8.out]))); clear hF hB hKp)
            | fail)
          refine bodyPost_ret (results_tmp2 rfl _ _ _) rfl ?_
          rw [← HSE.out, ← HDD.out]
          have hr := Kd.R_reads' HRZ.out
          have hF := HFZ.out
          rw [HLD.out] at hF
          exact ⟨gf, A8, c8, rfl, ⟨hF, hr.2.2, by rw [← HLD.out]; exact hr.2.1⟩, Nat.le_trans HB1.out.size HGF.out, below_step HB1.out HBZ.out⟩
end Go.Proofs.YtfhkkojdaejnjaaDoor.Gcs
