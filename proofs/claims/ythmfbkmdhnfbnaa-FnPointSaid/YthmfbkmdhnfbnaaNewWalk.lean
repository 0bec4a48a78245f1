/-
  bloom.NewFilter: whatever the floats give, the numbers of a filter that is small and empty.
-/
import Derived.Test.YthmfbkmdhnfbnaaLogWalk
import Derived.Test.YthmfbkmdhnfbnaaHand
import Derived.Deep.RegionHeld3
import Derived.Deep.QuietTactic
import Derived.BigQuiet
namespace Go.Proofs.Ythmfbkmdhnfbnaa.PFnNew
open Go.RowKit Go.Proofs.Ythmfbkmdhnfbnaa.Hand Go.Proofs.YthmfbkmdhnfbnaaW.PrintWords Go.Proofs.YthmfbkmdhnfbnaaW.PrintLast Go.Proofs.YthmfbkmdhnfbnaaW.PrintMore

section
variable {P : Program} {ops : Array Oper} {rest : List Oper} {o : Oper} {a : Act} {Q : Exit → Act → World → Prop}
theorem wpList_farith (w : World) (hg : o.guard = none) (op : BinOp) (x y : Operand) (t t2 : TypeId) (hop : o.op = Op.binOp op t x y t2) (ha : op = .add ∨ op = .sub ∨ op = .mul ∨ op = .quo) (b1 b2 : Nat)
    (hx : a.eval x = .float .f64 b1) (hy : a.eval y = .float .f64 b2) (hK : ∀ r n, wpList P ops Q rest (a.put o.dst (.float .f64 r)) (w.drewN n)) : wpList P ops Q (o :: rest) a w := by
  refine wpList_plain hg fun K hK' => ?_
  obtain ⟨r, n, hrun⟩ := gives_arith op .f64 b1 b2 ha P w
  have hb : (binOp op t (.float .f64 b1) (.float .f64 b2)).run P w = .ok (.float .f64 r) (w.drewN n) := by
    rcases ha with rfl | rfl | rfl | rfl <;> simpa [binOp] using hrun
  have hq : (eqGuard op t x y (.float .f64 b1) (.float .f64 b2)).run P w = .ok () w := by
    rcases ha with rfl | rfl | rfl | rfl <;> simp [eqGuard]
  unfold Oper.wp
  simp [execOp, hop, hx, hy, hb, hq, Result.andThen]
  exact hK' _ _ (hK r n)

theorem gate_bin {W : World} {op : BinOp} {x y : Operand} {t t2 : TypeId} (_ho : o.op = Op.binOp op t x y t2) (h : wpList P ops Q (o :: rest) a W) : wpList P ops Q (o :: rest) a W := h
theorem gate_conv {W : World} {x : Operand} {t d : TypeId} (_ho : o.op = Op.convert t d x) (h : wpList P ops Q (o :: rest) a W) : wpList P ops Q (o :: rest) a W := h
theorem gives_wrap {m : Sem Nat} (h : Gives m) (P : Program) (w : World) : ∃ r n, ((do pure (.int .u32 (IntKind.u32.wrap (← m)))) : Sem Value).run P w = .ok (.int .u32 r) (w.drewN n) ∧ 0 ≤ r ∧ r < 4294967296 := by
  obtain ⟨r, n, e⟩ := h P w
  refine ⟨IntKind.u32.wrap r, n, by simp [e], ?_, ?_⟩
  · rw [IntKind.wrap_u32]; omega
  · rw [IntKind.wrap_u32]; omega
theorem gives_f2u (bits : Nat) : ∀ (P : Program) (w : World), ∃ r n, (Conv.floatToInt .f64 bits .u32).run P w = .ok (.int .u32 r) (w.drewN n) ∧ 0 ≤ r ∧ r < 4294967296 := by
  intro P w
  have hany : ∀ q, ∃ r n, ((do pure (.int .u32 (IntKind.u32.wrap (← choose q)))) : Sem Value).run P w = .ok (.int .u32 r) (w.drewN n) ∧ 0 ≤ r ∧ r < 4294967296 := fun q => gives_wrap (gives_choose q) P w
  unfold Conv.floatToInt
  dsimp only
  split
  · rename_i n hn
    split
    · rename_i hb
      refine ⟨n, 0, by simp; rfl, ?_, ?_⟩
      · have := hb.1; simpa [IntKind.min, IntKind.signed] using this
      · have := hb.2; simp [IntKind.max, IntKind.signed, IntKind.bits] at this; omega
    · exact hany _
  · exact hany _
theorem wpList_f2u (w : World) (hg : o.guard = none) (x : Operand) (t d : TypeId) (hop : o.op = Op.convert t d x) (ht : P.underlying t = some (.float .f64)) (hd : P.underlying d = some (.int .u32)) (b : Nat)
    (hx : a.eval x = .float .f64 b) (hK : ∀ r n, 0 ≤ r → r < 4294967296 → wpList P ops Q rest (a.put o.dst (.int .u32 r)) (w.drewN n)) : wpList P ops Q (o :: rest) a w := by
  refine wpList_plain hg fun K hK' => ?_
  obtain ⟨r, n, hrun, h0, h1⟩ := gives_f2u b P w
  have hb : (convert t d (.float .f64 b)).run P w = .ok (.int .u32 r) (w.drewN n) := by
    simpa [convert, run_underlying ht, run_underlying hd] using hrun
  unfold Oper.wp
  simp [execOp, hop, hx, hb, Result.andThen]
  exact hK' _ _ (hK r n h0 h1)
end

theorem arch_calls (x : Nat) (w : World) : Calls Try.prog 42 #[.float .f64 x] w fun e w' => ∃ r n, e = .returned (.float .f64 r) ∧ w' = w.drewN n := by
  obtain ⟨r, n, he⟩ := gives_archLog x Try.prog w
  have hf := run_callFunc_extern (P := Try.prog) (f := 46) (e := Extern.MathLog.archLog) Try.func46 (by kernel_rfl) (by kernel_rfl) (by kernel_rfl) (by kernel_rfl) #[.float .f64 x] w
  rw [he] at hf
  go_enter Try.func42, Try.ntmps42
  go_wp2_with fail
  go_ret
  exact ⟨r, n, rfl, rfl⟩

/-- A filter as it lies in memory: the pointer to it, and its numbers. -/
structure Filt (w : World) (f m : Nat) (A : Option Addr) (n c : Nat) (fu tw fl : Int) : Prop where
  cF : w.cell? ⟨f, 0, none⟩ = some (.pointer (some ⟨m, 0, none⟩))
  c0 : w.cell? ⟨m, 0, none⟩ = some (.slice A n c)
  c1 : w.cell? ⟨m, 1, none⟩ = some (.int .u32 fu)
  c2 : w.cell? ⟨m, 2, none⟩ = some (.int .u32 tw)
  c3 : w.cell? ⟨m, 3, none⟩ = some (.int .u8 fl)

theorem info5 : (Try.prog.info? 5).map (fun i => (i.zero, i.size, i.bytes)) = some (some (.int .u8 0), 1, 1) := by kernel_rfl
theorem made_new {w wr w2 : World} {k : IntKind} {e n : Nat} (hb : Below w.heap.size w wr) {e' : Nat} (hown : w2.ownsRow w.heap.size e' 1 (.slice (some ⟨e, 0, none⟩) n n) n (madeCells (Value.int k 0).cells (n * 1)).toList) (hg : wr.grownBy w2 none) :
    w2.heap[e]? = some (.cells (List.replicate n (Value.int k 0)).toArray e' (0, 0)) ∧ Below w.heap.size w w2 := by
  obtain ⟨b1, _, b2⟩ := own_full hown
  rw [made_zeros] at b1
  exact ⟨b1, hb.grown hg hb.size (fun _ h => by cases h)⟩
theorem filt_built (w4 : World) (A : Option Addr) (n c : Nat) (fu tw fl : Int) : Filt ((w4.alloc (.cells #[.slice A n c, .int .u32 fu, .int .u32 tw, .int .u8 fl] 73)).alloc (.cells #[.pointer (some ⟨w4.heap.size, 0, none⟩)] 78)) (w4.heap.size + 1) w4.heap.size A n c fu tw fl := by
  have h1 : ((w4.alloc (.cells #[.slice A n c, .int .u32 fu, .int .u32 tw, .int .u8 fl] 73)).alloc (.cells #[.pointer (some ⟨w4.heap.size, 0, none⟩)] 78)).heap[w4.heap.size + 1]? = some (.cells #[.pointer (some ⟨w4.heap.size, 0, none⟩)] 78 (0, 0)) := by
    show ((w4.heap.push _).push _)[w4.heap.size + 1]? = _
    rw [Array.getElem?_push, if_pos (by simp)]
  have h2 : ((w4.alloc (.cells #[.slice A n c, .int .u32 fu, .int .u32 tw, .int .u8 fl] 73)).alloc (.cells #[.pointer (some ⟨w4.heap.size, 0, none⟩)] 78)).heap[w4.heap.size]? = some (.cells #[.slice A n c, .int .u32 fu, .int .u32 tw, .int .u8 fl] 73 (0, 0)) := by
    show ((w4.heap.push _).push _)[w4.heap.size]? = _
    rw [Array.getElem?_push, if_neg (by simp), Array.getElem?_push, if_pos rfl]
  exact ⟨by rw [blk_cell h1]; rfl, by rw [blk_cell h2]; rfl, by rw [blk_cell h2]; rfl, by rw [blk_cell h2]; rfl, by rw [blk_cell h2]; rfl⟩
theorem min_calls (a b : Int) (w : World) (h0 : 0 ≤ a) (hb : 0 ≤ b) : Calls Try.prog 43 #[.int .u32 a, .int .u32 b] w fun e w' => (∃ q, e = .returned (.int .u32 q) ∧ 0 ≤ q ∧ q ≤ b) ∧ w = w' := by
  by_cases h : a < b
  · go_enter Try.func43, Try.ntmps43
    go_wp2
    go_ret
    exact ⟨⟨a, rfl, h0, by omega⟩, rfl⟩
  · go_enter Try.func43, Try.ntmps43
    go_wp2
    go_ret
    exact ⟨⟨b, rfl, hb, Int.le_refl _⟩, rfl⟩

set_option maxHeartbeats 4000000 in
theorem new_calls (el tw fl : Int) (x : Nat) (w : World) :
    Calls Try.prog 34 #[.int .u32 el, .int .u32 tw, .float .f64 x, .int .u8 fl] w fun e w' => ∃ f m A n fu, e = .returned (.pointer (some ⟨f, 0, none⟩)) ∧ Filt w' f m A n n fu tw fl ∧ Kd.C (Kd.int .u8) w' A n (List.replicate n 0) ∧ n ≤ 36000 ∧ 0 ≤ fu ∧ fu ≤ 50 ∧ Below w.heap.size w w' := by
  obtain ⟨i0, hi, hz0, hz1, hz2⟩ := info_parts info5
  go_enter Try.func34, Try.ntmps34
  go_wp2_with (first
    | ((with_reducible refine gate_bin (op := .mul) (y := .tmp 18) rfl ?_); refine wpList_farith _ rfl .mul (.const _) (.tmp 18) 46 46 rfl (by simp) _ _ rfl rfl ?_; intro r1 n1)
    | (go_at_call 42; refine (arch_calls _ _).mono ?_; rintro e w1 ⟨r2, n2, rfl, rfl⟩)
    | ((with_reducible refine gate_bin (op := .mul) (x := .tmp 19) (y := .tmp 21) rfl ?_); refine wpList_farith _ rfl .mul (.tmp 19) (.tmp 21) 46 46 rfl (by simp) _ _ rfl rfl ?_; intro r3 n3)
    | ((with_reducible refine gate_bin (op := .quo) (x := .tmp 22) rfl ?_); refine wpList_farith _ rfl .quo (.tmp 22) (.const _) 46 46 rfl (by simp) _ _ rfl rfl ?_; intro r4 n4)
    | ((with_reducible refine gate_conv (t := 46) (d := 22) (x := .tmp 23) rfl ?_); refine wpList_f2u _ rfl (.tmp 23) 46 22 rfl Try.underlying46 Try.underlying22 _ rfl ?_; intro r5 n5 h50 h51)
    | (go_at_call 43; with_reducible refine (min_calls r5 288000 _ h50 (by omega)).mono ?_; rintro e w2 ⟨⟨q, rfl, hq0, hq1⟩, rfl⟩; obtain ⟨n, hn⟩ : ∃ n : Nat, q / 8 = (n : Int) := ⟨(q / 8).toNat, by omega⟩; have hn2 : n ≤ 36000 := by omega)
    | ((with_reducible refine gate_bin (op := .quo) (x := .tmp 30) (y := .tmp 32) rfl ?_); refine wpList_farith _ rfl .quo (.tmp 30) (.tmp 32) 46 46 rfl (by simp) _ _ rfl rfl ?_; intro r6 n6)
    | ((with_reducible refine gate_bin (op := .mul) (x := .tmp 33) rfl ?_); refine wpList_farith _ rfl .mul (.tmp 33) (.const _) 46 46 rfl (by simp) _ _ rfl rfl ?_; intro r7 n7)
    | ((with_reducible refine gate_conv (t := 46) (d := 22) (x := .tmp 34) rfl ?_); refine wpList_f2u _ rfl (.tmp 34) 46 22 rfl Try.underlying46 Try.underlying22 _ rfl ?_; intro r8 n8 h80 h81)
    | (go_at_call 43; with_reducible refine (min_calls r8 50 _ h80 (by omega)).mono ?_; rintro e w3 ⟨⟨q2, rfl, hq20, hq21⟩, rfl⟩)
    | (at_make; refine wpList_make_full _ rfl _ _ 23 rfl w.heap.size 5 i0 (.int .u8 0) 1 Try.underlying23 hi hz0 hz1 .u32 .u32 _ _ n rfl rfl (by first | rfl | exact hn | omega) (by first | rfl | exact hn | omega) (by rw [hz2]; omega) (by unfold maxLen; omega) (by simp) ?_; intro w4 hown hgrow; have HN := Aside0.mk (made_new (pw_below_drewN (Below.refl w.heap.size w) _) hown hgrow); clear hown hgrow)
    | fail)
  all_goals
    go_ret
    refine ⟨_, _, _, n, q2, rfl, filt_built w4 _ _ _ _ _ _, ?_, hn2, hq20, hq21, below_alloc (below_alloc HN.out.2 _) _⟩
    have hb := HN.out.1
    have hc := C_of_block (xs := List.replicate n 0) (k := .u8) (by rw [List.map_replicate]; exact hb) (by simp; omega)
    rw [List.length_replicate] at hc
    exact Kd.C_below hc (below_alloc (below_alloc (Below.refl _ _) _) _)
end Go.Proofs.Ythmfbkmdhnfbnaa.PFnNew
