-- PRINTED BY print.sh 35421559b90ae4d0a3588c463048766b98c2df88dd9212a6774a882060cdf62d: not written by this session
import Derived.Test.YtkcbalikahmeiaaDoorPFnAmountTextx0
namespace Go.Proofs.YtkcbalikahmeiaaDoor.PFnAmountText
open Go.RowKit Go.Proofs.YtkcbalikahmeiaaDoorW.PrintWords Go.Proofs.YtkcbalikahmeiaaDoorW.PrintLast Go.Proofs.YtkcbalikahmeiaaDoorW.PrintMore
attribute [local go_sem] max2_int min2_int max_two min_two max_three min_three max_four min_four   -- for this text's walks alone
set_option linter.unusedVariables false
set_option linter.unusedSimpArgs false

/-! ### strconv_skewed: function 44 -/
def strconv_skewed.f (a0 : Int) : Option (Int) := some ((wrap64 ((wrap64 (a0 * 631305)) - 261663)) / 2097152)
set_option maxHeartbeats 8000000 in
set_option maxRecDepth 100000 in
theorem strconv_skewed.calls (a0 : Int) (r : Int) (w : World) (h : strconv_skewed.f a0 = some r) :
    Calls Tryd.prog 44 #[.int .i64 a0] w fun e w' => e = .returned (.int .i64 r) ∧ Drawn0 w w' := by
  have H : (some ((wrap64 ((wrap64 (a0 * 631305)) - 261663)) / 2097152)) = some r := h
  clear h
  obtain rfl := Option.some.inj H
  go_enter Tryd.func44, Tryd.ntmps44
  go_wp2
  go_ret
  exact ⟨by first | rfl | (simp; done) | (simp [*]; done), by repeat (first | exact Drawn0.refl _ | apply Drawn0.step)⟩

-- NOT PRINTED: function 45 (strconv_prescale)

/-! ### strconv_log2Pow10: function 46 -/
def strconv_log2Pow10.f (a0 : Int) : Option (Int) := some ((wrap64 (a0 * 108853)) / 32768)
set_option maxHeartbeats 8000000 in
set_option maxRecDepth 100000 in
theorem strconv_log2Pow10.calls (a0 : Int) (r : Int) (w : World) (h : strconv_log2Pow10.f a0 = some r) :
    Calls Tryd.prog 46 #[.int .i64 a0] w fun e w' => e = .returned (.int .i64 r) ∧ Drawn0 w w' := by
  have H : (some ((wrap64 (a0 * 108853)) / 32768)) = some r := h
  clear h
  obtain rfl := Option.some.inj H
  go_enter Tryd.func46, Tryd.ntmps46
  go_wp2
  go_ret
  exact ⟨by first | rfl | (simp; done) | (simp [*]; done), by repeat (first | exact Drawn0.refl _ | apply Drawn0.step)⟩

/-! ### bits_Mul64: function 62 -/
def bits_Mul64.f (a0 : Int) (a1 : Int) : Option (Int × Int) := some (IntKind.u64.wrap ((IntKind.u64.wrap ((IntKind.u64.wrap ((a0 / 4294967296) * (a1 / 4294967296))) + ((IntKind.u64.wrap ((IntKind.u64.wrap ((a0 / 4294967296) * (Go.bits .and .u64 a1 4294967295))) + ((IntKind.u64.wrap ((Go.bits .and .u64 a0 4294967295) * (Go.bits .and .u64 a1 4294967295))) / 4294967296))) / 4294967296))) + ((IntKind.u64.wrap ((Go.bits .and .u64 (IntKind.u64.wrap ((IntKind.u64.wrap ((a0 / 4294967296) * (Go.bits .and .u64 a1 4294967295))) + ((IntKind.u64.wrap ((Go.bits .and .u64 a0 4294967295) * (Go.bits .and .u64 a1 4294967295))) / 4294967296))) 4294967295) + (IntKind.u64.wrap ((Go.bits .and .u64 a0 4294967295) * (a1 / 4294967296))))) / 4294967296)), IntKind.u64.wrap (a0 * a1))
set_option maxHeartbeats 8000000 in
set_option maxRecDepth 100000 in
theorem bits_Mul64.calls (a0 : Int) (a1 : Int) (r1 : Int) (r2 : Int) (w : World) (h : bits_Mul64.f a0 a1 = some (r1, r2)) :
    Calls Tryd.prog 62 #[.int .u64 a0, .int .u64 a1] w fun e w' => e = .returned (.tuple #[.int .u64 r1, .int .u64 r2]) ∧ Drawn0 w w' := by
  have H : (some (IntKind.u64.wrap ((IntKind.u64.wrap ((IntKind.u64.wrap ((a0 / 4294967296) * (a1 / 4294967296))) + ((IntKind.u64.wrap ((IntKind.u64.wrap ((a0 / 4294967296) * (Go.bits .and .u64 a1 4294967295))) + ((IntKind.u64.wrap ((Go.bits .and .u64 a0 4294967295) * (Go.bits .and .u64 a1 4294967295))) / 4294967296))) / 4294967296))) + ((IntKind.u64.wrap ((Go.bits .and .u64 (IntKind.u64.wrap ((IntKind.u64.wrap ((a0 / 4294967296) * (Go.bits .and .u64 a1 4294967295))) + ((IntKind.u64.wrap ((Go.bits .and .u64 a0 4294967295) * (Go.bits .and .u64 a1 4294967295))) / 4294967296))) 4294967295) + (IntKind.u64.wrap ((Go.bits .and .u64 a0 4294967295) * (a1 / 4294967296))))) / 4294967296)), IntKind.u64.wrap (a0 * a1))) = some (r1, r2) := h
  clear h
  simp only [Option.some.injEq, Prod.mk.injEq] at H
  obtain ⟨rfl, rfl⟩ := H
  go_enter Tryd.func62, Tryd.ntmps62
  go_wp2
  go_ret2
  exact ⟨by first | rfl | (simp; done) | (simp [*]; done), by repeat (first | exact Drawn0.refl _ | apply Drawn0.step)⟩

/-! ### strconv_bool2_uint64: function 63 -/
def strconv_bool2_uint64.f (a0 : Bool) : Option (Int) := if a0 = true then (some 1) else (some 0)
set_option maxHeartbeats 8000000 in
set_option maxRecDepth 100000 in
theorem strconv_bool2_uint64.calls (a0 : Bool) (r : Int) (w : World) (h : strconv_bool2_uint64.f a0 = some r) :
    Calls Tryd.prog 63 #[.bool a0] w fun e w' => e = .returned (.int .u64 r) ∧ Drawn0 w w' := by
  have H : (if a0 = true then (some 1) else (some 0)) = some r := h
  clear h
  by_cases c2 : a0 = true
  · subst c2
    have H1 : (some 1) = some r := by rw [if_pos rfl] at H; exact H
    clear H
    have H := H1
    clear H1
    obtain rfl := Option.some.inj H
    go_enter Tryd.func63, Tryd.ntmps63
    go_wp2
    go_ret
    exact ⟨by first | rfl | (simp; done) | (simp [*]; done), by repeat (first | exact Drawn0.refl _ | apply Drawn0.step)⟩
  · replace c2 := Bool.eq_false_iff.mpr c2
    subst c2
    have H1 : (some 0) = some r := by rw [if_neg (show ¬ (false = true) by decide)] at H; exact H
    clear H
    have H := H1
    clear H1
    obtain rfl := Option.some.inj H
    go_enter Tryd.func63, Tryd.ntmps63
    go_wp2
    go_ret
    exact ⟨by first | rfl | (simp; done) | (simp [*]; done), by repeat (first | exact Drawn0.refl _ | apply Drawn0.step)⟩

/-- A state of type 79 at block g of W; what its slices lead to came in by w0. -/
def IsS79 (w0 W : World) (g : Nat) (f0 : Int) (f1 : Int) (f2 : Int) : Prop := W.heap[g]? = some (.cells #[.int .u64 f0, .int .u64 f1, .int .i64 f2] 79 (0, 0)) ∧ w0.heap.size ≤ g
theorem IsS79.grown {w0 W : World} {g : Nat} {f0 : Int} {f1 : Int} {f2 : Int} {W1 : World} {row : Option Nat} (h : IsS79 w0 W g f0 f1 f2) (hw : W.grownBy W1 row) (hne : some g ≠ row) : IsS79 w0 W1 g f0 f1 f2 := by
  obtain ⟨hb, hg⟩ := h
  exact ⟨blk_grown hb hw hne, hg⟩
theorem IsS79.own_neN {w0 W : World} {g : Nat} {f0 : Int} {f1 : Int} {f2 : Int} {α : Type} {d : Kd α} {e : Nat} {base : Nat} {ok : Nat → Prop} {v : Value} {xs : List α} (h : IsS79 w0 W g f0 f1 f2) (ho : Kd.N d e W base ok v xs) (ht : e ≠ 79) : some g ≠ v.ownBlock := by
  obtain ⟨hb, hg⟩ := h
  exact Kd.N_ne ho hb ht
theorem IsS79.fresh {w0 W : World} {g : Nat} {f0 : Int} {f1 : Int} {f2 : Int} (h : IsS79 w0 W g f0 f1 f2) : ∀ k, W.heap.size ≤ k → k ≠ g := by
  obtain ⟨hb, hg⟩ := h
  exact Kd.freshB hb
theorem IsS79.kept {w0 W : World} {g : Nat} {f0 : Int} {f1 : Int} {f2 : Int} {W1 : World} {S : Nat → Prop} (h : IsS79 w0 W g f0 f1 f2) (hk : Kept W W1 S) (hne : ¬ S g) : IsS79 w0 W1 g f0 f1 f2 := by
  obtain ⟨hb, hg⟩ := h
  exact ⟨blk_kept hb hk hne, hg⟩
theorem IsS79.below {w0 W : World} {g : Nat} {f0 : Int} {f1 : Int} {f2 : Int} {W1 : World} (h : IsS79 w0 W g f0 f1 f2) (hw : Below W.heap.size W W1) : IsS79 w0 W1 g f0 f1 f2 := h.grown (grown_of_below hw none) (by simp)
theorem IsS79.alloc {w0 W : World} {g : Nat} {f0 : Int} {f1 : Int} {f2 : Int} (h : IsS79 w0 W g f0 f1 f2) (o : Obj) : IsS79 w0 (W.alloc o) g f0 f1 f2 := h.below (below_alloc (Below.refl _ _) o)
theorem IsS79.drewN {w0 W : World} {g : Nat} {f0 : Int} {f1 : Int} {f2 : Int} (h : IsS79 w0 W g f0 f1 f2) (m : Nat) : IsS79 w0 (W.drewN m) g f0 f1 f2 := h
theorem IsS79.drew {w0 W : World} {g : Nat} {f0 : Int} {f1 : Int} {f2 : Int} (h : IsS79 w0 W g f0 f1 f2) : IsS79 w0 W.drew g f0 f1 f2 := h
theorem IsS79.at_ {w0 W : World} {g : Nat} {f0 : Int} {f1 : Int} {f2 : Int} {w' : World} {m : Nat} (hq : W.drewN m = w') (h : IsS79 w0 W g f0 f1 f2) : IsS79 w0 w' g f0 f1 f2 := by subst hq; exact IsS79.drewN h m
theorem IsS79.apart {w0 W : World} {g : Nat} {f0 : Int} {f1 : Int} {f2 : Int} {α : Type} {d : Kd α} {e : Nat} {base : Nat} {ok : Nat → Prop} {v : Value} {xs : List α} (h : IsS79 w0 W g f0 f1 f2) (ho : d.R e W base ok v xs) (ht : ∀ q, q ∈ e :: d.E → q ≠ 79) : d.R e W base (fun k => ok k ∧ k ≠ g) v xs := by
  obtain ⟨hb, hg⟩ := h
  exact Kd.R_types ho hb ht
theorem IsS79.own_ne {w0 W : World} {g : Nat} {f0 : Int} {f1 : Int} {f2 : Int} {α : Type} {d : Kd α} {e : Nat} {base : Nat} {ok : Nat → Prop} {v : Value} {xs : List α} (h : IsS79 w0 W g f0 f1 f2) (ho : d.R e W base ok v xs) (ht : e ≠ 79) : some g ≠ v.ownBlock := by
  obtain ⟨hb, hg⟩ := h
  exact Kd.R_ne ho hb ht
theorem IsS79.apartQ {w0 W : World} {g : Nat} {f0 : Int} {f1 : Int} {f2 : Int} {α : Type} {d : Kd α} {e : Nat} {base : Nat} {ok : Nat → Prop} {v : Value} {xs : List α} (h : IsS79 w0 W g f0 f1 f2) (ho : d.Q e W base ok v xs) (ht : ∀ q, q ∈ e :: d.E → q ≠ 79) : d.Q e W base (fun k => ok k ∧ k ≠ g) v xs := by
  obtain ⟨hb, hg⟩ := h
  exact Kd.Q_types ho hb ht
theorem IsS79.own_neQ {w0 W : World} {g : Nat} {f0 : Int} {f1 : Int} {f2 : Int} {α : Type} {d : Kd α} {e : Nat} {base : Nat} {ok : Nat → Prop} {v : Value} {xs : List α} (h : IsS79 w0 W g f0 f1 f2) (ho : d.Q e W base ok v xs) (ht : e ≠ 79) : some g ≠ v.ownBlock := by
  obtain ⟨hb, hg⟩ := h
  exact Kd.Q_ne ho hb ht
theorem IsS79.apartS {w0 W : World} {g : Nat} {f0 : Int} {f1 : Int} {f2 : Int} {α : Type} {d : Kd α} {e : Nat} {base : Nat} {ok : Nat → Prop} {v : Value} {xs : List α} (h : IsS79 w0 W g f0 f1 f2) (ho : d.S e W base ok v xs) (ht : ∀ q, q ∈ e :: d.E → q ≠ 79) : d.S e W base (fun k => ok k ∧ k ≠ g) v xs := by
  obtain ⟨hb, hg⟩ := h
  exact Kd.S_types ho hb ht
theorem IsS79.own_neS {w0 W : World} {g : Nat} {f0 : Int} {f1 : Int} {f2 : Int} {α : Type} {d : Kd α} {e : Nat} {base : Nat} {ok : Nat → Prop} {v : Value} {xs : List α} (h : IsS79 w0 W g f0 f1 f2) (ho : d.S e W base ok v xs) (ht : e ≠ 79) : some g ≠ v.ownBlock := by
  obtain ⟨hb, hg⟩ := h
  exact Kd.S_ne ho hb ht
theorem IsS79.lt {w0 W : World} {g : Nat} {f0 : Int} {f1 : Int} {f2 : Int} (h : IsS79 w0 W g f0 f1 f2) : g < W.heap.size := by
  obtain ⟨hb, hg⟩ := h
  exact blk_lt hb
theorem IsS79.ge {w0 W : World} {g : Nat} {f0 : Int} {f1 : Int} {f2 : Int} (h : IsS79 w0 W g f0 f1 f2) : w0.heap.size ≤ g := by
  obtain ⟨hb, hg⟩ := h
  exact hg
theorem IsS79.ne_blk {w0 W : World} {g : Nat} {f0 : Int} {f1 : Int} {f2 : Int} {a : Nat} {cs : Array Value} {t : TypeId} {fr : Nat × Nat} (h : IsS79 w0 W g f0 f1 f2) (hb2 : W.heap[a]? = some (.cells cs t fr)) (ht : t ≠ 79) : g ≠ a := by
  obtain ⟨hb, hg⟩ := h
  rintro rfl
  rw [hb] at hb2
  injection hb2 with hb2
  injection hb2 with _ ht2
  exact ht ht2.symm
theorem IsS79.far {w0 W : World} {g : Nat} {f0 : Int} {f1 : Int} {f2 : Int} {p : Addr} (h : IsS79 w0 W g f0 f1 f2) (hne : g ≠ p.block) (u : Value) : IsS79 w0 (W.setCell p u) g f0 f1 f2 := by
  obtain ⟨hb, hg⟩ := h
  exact ⟨blk_far hb hne u, hg⟩
theorem cellS79_0 {W : World} {g : Nat} {f0 : Int} {f1 : Int} {f2 : Int} (h : W.heap[g]? = some (.cells #[.int .u64 f0, .int .u64 f1, .int .i64 f2] 79 (0, 0))) : W.cell? ⟨g, 0, none⟩ = some (.int .u64 f0) := (blk_cell h 0).trans rfl
theorem IsS79.set_0 {w0 W : World} {g : Nat} {f0 : Int} {f1 : Int} {f2 : Int} (h : IsS79 w0 W g f0 f1 f2) (x : Int) : IsS79 w0 (W.setCell ⟨g, 0, none⟩ (.int .u64 x)) g x f1 f2 := by
  obtain ⟨hb, hg⟩ := h
  exact ⟨by simpa using blk_set hb 0 (.int .u64 x), hg⟩
theorem cellS79_1 {W : World} {g : Nat} {f0 : Int} {f1 : Int} {f2 : Int} (h : W.heap[g]? = some (.cells #[.int .u64 f0, .int .u64 f1, .int .i64 f2] 79 (0, 0))) : W.cell? ⟨g, 1, none⟩ = some (.int .u64 f1) := (blk_cell h 1).trans rfl
theorem IsS79.set_1 {w0 W : World} {g : Nat} {f0 : Int} {f1 : Int} {f2 : Int} (h : IsS79 w0 W g f0 f1 f2) (x : Int) : IsS79 w0 (W.setCell ⟨g, 1, none⟩ (.int .u64 x)) g f0 x f2 := by
  obtain ⟨hb, hg⟩ := h
  exact ⟨by simpa using blk_set hb 1 (.int .u64 x), hg⟩
theorem cellS79_2 {W : World} {g : Nat} {f0 : Int} {f1 : Int} {f2 : Int} (h : W.heap[g]? = some (.cells #[.int .u64 f0, .int .u64 f1, .int .i64 f2] 79 (0, 0))) : W.cell? ⟨g, 2, none⟩ = some (.int .i64 f2) := (blk_cell h 2).trans rfl
theorem IsS79.set_2 {w0 W : World} {g : Nat} {f0 : Int} {f1 : Int} {f2 : Int} (h : IsS79 w0 W g f0 f1 f2) (x : Int) : IsS79 w0 (W.setCell ⟨g, 2, none⟩ (.int .i64 x)) g f0 f1 x := by
  obtain ⟨hb, hg⟩ := h
  exact ⟨by simpa using blk_set hb 2 (.int .i64 x), hg⟩
theorem IsS79.new (w0 W : World) (f0 : Int) (f1 : Int) (f2 : Int) (hB : Below w0.heap.size w0 W) : IsS79 w0 (W.alloc (.cells #[.int .u64 f0, .int .u64 f1, .int .i64 f2] 79)) W.heap.size f0 f1 f2 := ⟨by simpa using heap_alloc_new W _, hB.size⟩

/-! ### strconv_uscale: function 47 -/
def strconv_uscale.f (a0 : Int) (s1_0 : Int) (s1_1 : Int) (s1_2 : Int) : Option (Int × Int × Int × Int) := (bits_Mul64.f a0 s1_0).bind fun bt256 => (if 0 ≤ (Go.bits .and .i64 s1_2 63) then (if (shl .u64 (shr .u64 bt256.1 (Go.bits .and .i64 s1_2 63)) (Go.bits .and .i64 s1_2 63)) = bt256.1 then ((bits_Mul64.f a0 s1_1).bind fun bt258 => ((strconv_bool2_uint64.f (decide (bt256.2 < bt258.1))).bind fun t260 => ((strconv_bool2_uint64.f (decide ((IntKind.u64.wrap (bt256.2 - bt258.1)) > 1))).bind fun t261 => (some (Go.bits .or .u64 (shr .u64 (IntKind.u64.wrap (bt256.1 - t260)) (Go.bits .and .i64 s1_2 63)) t261, s1_0, s1_1, s1_2))))) else (some (Go.bits .or .u64 (shr .u64 bt256.1 (Go.bits .and .i64 s1_2 63)) 1, s1_0, s1_1, s1_2))) else (none))
set_option maxHeartbeats 8000000 in
set_option maxRecDepth 100000 in
theorem strconv_uscale.calls (a0 : Int) (g : Nat) (s1_0 : Int) (s1_1 : Int) (s1_2 : Int) (r1 : Int) (r2 : Int) (r3 : Int) (r4 : Int) (w0 w : World) (hI : IsS79 w0 w g s1_0 s1_1 s1_2) (hB : Below w0.heap.size w0 w) (h : strconv_uscale.f a0 s1_0 s1_1 s1_2 = some (r1, r2, r3, r4)) :
    Calls Tryd.prog 47 #[.int .u64 a0, .pointer (some ⟨g, 0, none⟩)] w fun e w' => e = .returned (.int .u64 r1) ∧ IsS79 w0 w' g r2 r3 r4 ∧ Below w0.heap.size w0 w' ∧ KeepBut w w' g none := by
  have HI1 := Aside0.mk hI
  have HK := Aside0.mk (KeepBut.refl w g none)
  have HL := Aside0.mk hB.size
  clear hI
  have HW0 := Aside0.mk hB.size
  have HB := Aside0.mk hB
  clear hB
  have H : ((bits_Mul64.f a0 s1_0).bind fun bt256 => (if 0 ≤ (Go.bits .and .i64 s1_2 63) then (if (shl .u64 (shr .u64 bt256.1 (Go.bits .and .i64 s1_2 63)) (Go.bits .and .i64 s1_2 63)) = bt256.1 then ((bits_Mul64.f a0 s1_1).bind fun bt258 => ((strconv_bool2_uint64.f (decide (bt256.2 < bt258.1))).bind fun t260 => ((strconv_bool2_uint64.f (decide ((IntKind.u64.wrap (bt256.2 - bt258.1)) > 1))).bind fun t261 => (some (Go.bits .or .u64 (shr .u64 (IntKind.u64.wrap (bt256.1 - t260)) (Go.bits .and .i64 s1_2 63)) t261, s1_0, s1_1, s1_2))))) else (some (Go.bits .or .u64 (shr .u64 bt256.1 (Go.bits .and .i64 s1_2 63)) 1, s1_0, s1_1, s1_2))) else (none))) = some (r1, r2, r3, r4) := h
  clear h
  replace H := Option.bind_eq_some_iff.mp H
  obtain ⟨⟨t256, t257⟩, A30, H⟩ := H
  replace H : (if 0 ≤ (Go.bits .and .i64 s1_2 63) then (if (shl .u64 (shr .u64 t256 (Go.bits .and .i64 s1_2 63)) (Go.bits .and .i64 s1_2 63)) = t256 then ((bits_Mul64.f a0 s1_1).bind fun bt258 => ((strconv_bool2_uint64.f (decide (t257 < bt258.1))).bind fun t260 => ((strconv_bool2_uint64.f (decide ((IntKind.u64.wrap (t257 - bt258.1)) > 1))).bind fun t261 => (some (Go.bits .or .u64 (shr .u64 (IntKind.u64.wrap (t256 - t260)) (Go.bits .and .i64 s1_2 63)) t261, s1_0, s1_1, s1_2))))) else (some (Go.bits .or .u64 (shr .u64 t256 (Go.bits .and .i64 s1_2 63)) 1, s1_0, s1_1, s1_2))) else (none)) = some (r1, r2, r3, r4) := H
  have A3 := Aside0.mk A30
  clear A30
  by_cases c4 : 0 ≤ (Go.bits .and .i64 s1_2 63)
  · rw [if_pos c4] at H
    have c4b0 := eq_true c4
    have c4b1 : decide (0 ≤ (Go.bits .and .i64 s1_2 63)) = true := decide_eq_true c4
    clear c4
    obtain ⟨ji5, hji5⟩ : ∃ j_ : Int, (shr .u64 t256 (Go.bits .and .i64 s1_2 63)) = j_ := ⟨_, rfl⟩
    replace H : (if (shl .u64 (ji5) (Go.bits .and .i64 s1_2 63)) = t256 then ((bits_Mul64.f a0 s1_1).bind fun bt258 => ((strconv_bool2_uint64.f (decide (t257 < bt258.1))).bind fun t260 => ((strconv_bool2_uint64.f (decide ((IntKind.u64.wrap (t257 - bt258.1)) > 1))).bind fun t261 => (some (Go.bits .or .u64 (shr .u64 (IntKind.u64.wrap (t256 - t260)) (Go.bits .and .i64 s1_2 63)) t261, s1_0, s1_1, s1_2))))) else (some (Go.bits .or .u64 (ji5) 1, s1_0, s1_1, s1_2))) = some (r1, r2, r3, r4) := by first | (rw [hji5] at H; exact H) | (simp only [hji5] at H ⊢; exact H)
    (try rw [hji5] at A3)
    have hji5_ : (t256 / 2 ^ min (Go.bits .and .i64 s1_2 63).toNat 64) = ji5 := hji5
    have hji5z : (Go.bits .and .i64 s1_2 63) ≤ 64 → (t256 / 2 ^ (Go.bits .and .i64 s1_2 63).toNat) = ji5 := shr_small hji5
    have c6b0 := eq_true (of_decide_eq_true (by first | (with_reducible assumption) | assumption) : 0 ≤ (Go.bits .and .i64 s1_2 63))
    obtain ⟨ji7, hji7⟩ : ∃ j_ : Int, (shl .u64 (ji5) (Go.bits .and .i64 s1_2 63)) = j_ := ⟨_, rfl⟩
    replace H : (if (ji7) = t256 then ((bits_Mul64.f a0 s1_1).bind fun bt258 => ((strconv_bool2_uint64.f (decide (t257 < bt258.1))).bind fun t260 => ((strconv_bool2_uint64.f (decide ((IntKind.u64.wrap (t257 - bt258.1)) > 1))).bind fun t261 => (some (Go.bits .or .u64 (shr .u64 (IntKind.u64.wrap (t256 - t260)) (Go.bits .and .i64 s1_2 63)) t261, s1_0, s1_1, s1_2))))) else (some (Go.bits .or .u64 (ji5) 1, s1_0, s1_1, s1_2))) = some (r1, r2, r3, r4) := by first | (rw [hji7] at H; exact H) | (simp only [hji7] at H ⊢; exact H)
    (try rw [hji7] at A3)
    have hji7_ : (IntKind.u64.wrap ((ji5) * 2 ^ min (Go.bits .and .i64 s1_2 63).toNat 64)) = ji7 := hji7
    have hji7z : (Go.bits .and .i64 s1_2 63) ≤ 64 → (IntKind.u64.wrap ((ji5) * 2 ^ (Go.bits .and .i64 s1_2 63).toNat)) = ji7 := shl_small hji7
    by_cases c8 : (ji7) = t256
    · rw [if_pos c8] at H
      have c8b0 : ((ji7) == t256) = true := beq_iff_eq.mpr c8
      have c8b1 : ((ji7) != t256) = false := bne_eq_false_iff_eq.mpr c8
      clear c8
      replace H := Option.bind_eq_some_iff.mp H
      obtain ⟨⟨t258, t259⟩, A90, H⟩ := H
      replace H : ((strconv_bool2_uint64.f (decide (t257 < t258))).bind fun t260 => ((strconv_bool2_uint64.f (decide ((IntKind.u64.wrap (t257 - t258)) > 1))).bind fun t261 => (some (Go.bits .or .u64 (shr .u64 (IntKind.u64.wrap (t256 - t260)) (Go.bits .and .i64 s1_2 63)) t261, s1_0, s1_1, s1_2)))) = some (r1, r2, r3, r4) := H
      have A9 := Aside0.mk A90
      clear A90
      replace H := Option.bind_eq_some_iff.mp H
      obtain ⟨t260, A100, H⟩ := H
      replace H : ((strconv_bool2_uint64.f (decide ((IntKind.u64.wrap (t257 - t258)) > 1))).bind fun t261 => (some (Go.bits .or .u64 (shr .u64 (IntKind.u64.wrap (t256 - t260)) (Go.bits .and .i64 s1_2 63)) t261, s1_0, s1_1, s1_2))) = some (r1, r2, r3, r4) := H
      have A10 := Aside0.mk A100
      clear A100
      have c11b0 := eq_true (of_decide_eq_true (by first | (with_reducible assumption) | assumption) : 0 ≤ (Go.bits .and .i64 s1_2 63))
      obtain ⟨ji12, hji12⟩ : ∃ j_ : Int, (shr .u64 (IntKind.u64.wrap (t256 - t260)) (Go.bits .and .i64 s1_2 63)) = j_ := ⟨_, rfl⟩
      replace H : ((strconv_bool2_uint64.f (decide ((IntKind.u64.wrap (t257 - t258)) > 1))).bind fun t261 => (some (Go.bits .or .u64 (ji12) t261, s1_0, s1_1, s1_2))) = some (r1, r2, r3, r4) := by first | (rw [hji12] at H; exact H) | (simp only [hji12] at H ⊢; exact H)
      (try rw [hji12] at A3)
      (try rw [hji12] at A9)
      (try rw [hji12] at A10)
      have hji12_ : ((IntKind.u64.wrap (t256 - t260)) / 2 ^ min (Go.bits .and .i64 s1_2 63).toNat 64) = ji12 := hji12
      have hji12z : (Go.bits .and .i64 s1_2 63) ≤ 64 → ((IntKind.u64.wrap (t256 - t260)) / 2 ^ (Go.bits .and .i64 s1_2 63).toNat) = ji12 := shr_small hji12
      replace H := Option.bind_eq_some_iff.mp H
      obtain ⟨t261, A130, H⟩ := H
      replace H : (some (Go.bits .or .u64 (ji12) t261, s1_0, s1_1, s1_2)) = some (r1, r2, r3, r4) := H
      have A13 := Aside0.mk A130
      clear A130
      simp only [Option.some.injEq, Prod.mk.injEq] at H
      obtain ⟨rfl, rfl, rfl, rfl⟩ := H
      obtain ⟨HGz14, hgz14⟩ := HI1.out
      have hcz14_0 := cellS79_0 HGz14
      have hcz14_1 := cellS79_1 HGz14
      have hcz14_2 := cellS79_2 HGz14
      have hfz14_0 := blk_frozen HGz14 0
      have hfz14_1 := blk_frozen HGz14 1
      have hfz14_2 := blk_frozen HGz14 2
      clear HGz14 hgz14
      go_enter Tryd.func47, Tryd.ntmps47
      go_wp2_with (first | (go_at_call 62; (with_reducible refine (bits_Mul64.calls a0 s1_0 t256 t257 _ A3.out).mono ?_); rintro e w' ⟨rfl, ⟨nd, rfl⟩⟩; (try first | exact ⟨rfl, _, World.drewN_drewN _ _ _⟩ | exact ⟨rfl, _, Eq.trans (World.drewN_drewN _ _ _) (congrArg (World.drewN _) (Nat.add_assoc _ _ _))⟩)) | (go_at_call 62; (with_reducible refine (bits_Mul64.calls a0 s1_1 t258 t259 _ A9.out).mono ?_); rintro e w' ⟨rfl, ⟨nd, rfl⟩⟩; (try first | exact ⟨rfl, _, World.drewN_drewN _ _ _⟩ | exact ⟨rfl, _, Eq.trans (World.drewN_drewN _ _ _) (congrArg (World.drewN _) (Nat.add_assoc _ _ _))⟩)) | (go_at_call 63; (with_reducible refine (strconv_bool2_uint64.calls (decide (t257 < t258)) t260 _ A10.out).mono ?_); rintro e w' ⟨rfl, ⟨nd, rfl⟩⟩; (try first | exact ⟨rfl, _, World.drewN_drewN _ _ _⟩ | exact ⟨rfl, _, Eq.trans (World.drewN_drewN _ _ _) (congrArg (World.drewN _) (Nat.add_assoc _ _ _))⟩)) | (go_at_call 63; (with_reducible refine (strconv_bool2_uint64.calls (decide ((IntKind.u64.wrap (t257 - t258)) > 1)) t261 _ A13.out).mono ?_); rintro e w' ⟨rfl, ⟨nd, rfl⟩⟩; (try first | exact ⟨rfl, _, World.drewN_drewN _ _ _⟩ | exact ⟨rfl, _, Eq.trans (World.drewN_drewN _ _ _) (congrArg (World.drewN _) (Nat.add_assoc _ _ _))⟩)))
      repeat (go_quiet (first | (go_at_call 62; (with_reducible refine (bits_Mul64.calls a0 s1_0 t256 t257 _ A3.out).mono ?_); rintro e w' ⟨rfl, ⟨nd, rfl⟩⟩; (try first | exact ⟨rfl, _, World.drewN_drewN _ _ _⟩ | exact ⟨rfl, _, Eq.trans (World.drewN_drewN _ _ _) (congrArg (World.drewN _) (Nat.add_assoc _ _ _))⟩)) | (go_at_call 62; (with_reducible refine (bits_Mul64.calls a0 s1_1 t258 t259 _ A9.out).mono ?_); rintro e w' ⟨rfl, ⟨nd, rfl⟩⟩; (try first | exact ⟨rfl, _, World.drewN_drewN _ _ _⟩ | exact ⟨rfl, _, Eq.trans (World.drewN_drewN _ _ _) (congrArg (World.drewN _) (Nat.add_assoc _ _ _))⟩)) | (go_at_call 63; (with_reducible refine (strconv_bool2_uint64.calls (decide (t257 < t258)) t260 _ A10.out).mono ?_); rintro e w' ⟨rfl, ⟨nd, rfl⟩⟩; (try first | exact ⟨rfl, _, World.drewN_drewN _ _ _⟩ | exact ⟨rfl, _, Eq.trans (World.drewN_drewN _ _ _) (congrArg (World.drewN _) (Nat.add_assoc _ _ _))⟩)) | (go_at_call 63; (with_reducible refine (strconv_bool2_uint64.calls (decide ((IntKind.u64.wrap (t257 - t258)) > 1)) t261 _ A13.out).mono ?_); rintro e w' ⟨rfl, ⟨nd, rfl⟩⟩; (try first | exact ⟨rfl, _, World.drewN_drewN _ _ _⟩ | exact ⟨rfl, _, Eq.trans (World.drewN_drewN _ _ _) (congrArg (World.drewN _) (Nat.add_assoc _ _ _))⟩))); try go_wp2_with (first | (go_at_call 62; (with_reducible refine (bits_Mul64.calls a0 s1_0 t256 t257 _ A3.out).mono ?_); rintro e w' ⟨rfl, ⟨nd, rfl⟩⟩; (try first | exact ⟨rfl, _, World.drewN_drewN _ _ _⟩ | exact ⟨rfl, _, Eq.trans (World.drewN_drewN _ _ _) (congrArg (World.drewN _) (Nat.add_assoc _ _ _))⟩)) | (go_at_call 62; (with_reducible refine (bits_Mul64.calls a0 s1_1 t258 t259 _ A9.out).mono ?_); rintro e w' ⟨rfl, ⟨nd, rfl⟩⟩; (try first | exact ⟨rfl, _, World.drewN_drewN _ _ _⟩ | exact ⟨rfl, _, Eq.trans (World.drewN_drewN _ _ _) (congrArg (World.drewN _) (Nat.add_assoc _ _ _))⟩)) | (go_at_call 63; (with_reducible refine (strconv_bool2_uint64.calls (decide (t257 < t258)) t260 _ A10.out).mono ?_); rintro e w' ⟨rfl, ⟨nd, rfl⟩⟩; (try first | exact ⟨rfl, _, World.drewN_drewN _ _ _⟩ | exact ⟨rfl, _, Eq.trans (World.drewN_drewN _ _ _) (congrArg (World.drewN _) (Nat.add_assoc _ _ _))⟩)) | (go_at_call 63; (with_reducible refine (strconv_bool2_uint64.calls (decide ((IntKind.u64.wrap (t257 - t258)) > 1)) t261 _ A13.out).mono ?_); rintro e w' ⟨rfl, ⟨nd, rfl⟩⟩; (try first | exact ⟨rfl, _, World.drewN_drewN _ _ _⟩ | exact ⟨rfl, _, Eq.trans (World.drewN_drewN _ _ _) (congrArg (World.drewN _) (Nat.add_assoc _ _ _))⟩))))
      go_ret
      exact ⟨by first | rfl | (simp [errW_none, errW_some] <;> rfl) | (simp only [← hji5, ← hji7, ← hji12]; first | rfl | (simp [errW_none, errW_some] <;> rfl)) | (simp [*, errW_none, errW_some] <;> rfl), by repeat (first | (with_reducible first | exact HI1.out | apply IsS79.alloc | apply IsS79.drewN | apply IsS79.drew | apply IsS79.set_0 | apply IsS79.set_1 | apply IsS79.set_2) | exact HI1.out), by repeat (first | (with_reducible first | exact HB.out | apply below_alloc | apply pw_below_drewN | apply below_drew1 | refine below_set ?_ (IsS79.ge HI1.out)) | exact HB.out), by repeat (first | (with_reducible first | exact HK.out | apply KeepBut.set_ | apply keep_drewN | apply keep_drew | apply keep_alloc) | exact HK.out)⟩
    · rw [if_neg c8] at H
      have c8b0 : ((ji7) == t256) = false := beq_eq_false_iff_ne.mpr c8
      have c8b1 : ((ji7) != t256) = true := bne_iff_ne.mpr c8
      have c15b0 := eq_true (of_decide_eq_true (by first | (with_reducible assumption) | assumption) : 0 ≤ (Go.bits .and .i64 s1_2 63))
      simp only [Option.some.injEq, Prod.mk.injEq] at H
      obtain ⟨rfl, rfl, rfl, rfl⟩ := H
      obtain ⟨HGz17, hgz17⟩ := HI1.out
      have hcz17_0 := cellS79_0 HGz17
      have hcz17_1 := cellS79_1 HGz17
      have hcz17_2 := cellS79_2 HGz17
      have hfz17_0 := blk_frozen HGz17 0
      have hfz17_1 := blk_frozen HGz17 1
      have hfz17_2 := blk_frozen HGz17 2
      clear HGz17 hgz17
      go_enter Tryd.func47, Tryd.ntmps47
      go_wp2_with (first | (go_at_call 62; (with_reducible refine (bits_Mul64.calls a0 s1_0 t256 t257 _ A3.out).mono ?_); rintro e w' ⟨rfl, ⟨nd, rfl⟩⟩; (try first | exact ⟨rfl, _, World.drewN_drewN _ _ _⟩ | exact ⟨rfl, _, Eq.trans (World.drewN_drewN _ _ _) (congrArg (World.drewN _) (Nat.add_assoc _ _ _))⟩)))
      repeat (go_quiet (first | (go_at_call 62; (with_reducible refine (bits_Mul64.calls a0 s1_0 t256 t257 _ A3.out).mono ?_); rintro e w' ⟨rfl, ⟨nd, rfl⟩⟩; (try first | exact ⟨rfl, _, World.drewN_drewN _ _ _⟩ | exact ⟨rfl, _, Eq.trans (World.drewN_drewN _ _ _) (congrArg (World.drewN _) (Nat.add_assoc _ _ _))⟩))); try go_wp2_with (first | (go_at_call 62; (with_reducible refine (bits_Mul64.calls a0 s1_0 t256 t257 _ A3.out).mono ?_); rintro e w' ⟨rfl, ⟨nd, rfl⟩⟩; (try first | exact ⟨rfl, _, World.drewN_drewN _ _ _⟩ | exact ⟨rfl, _, Eq.trans (World.drewN_drewN _ _ _) (congrArg (World.drewN _) (Nat.add_assoc _ _ _))⟩))))
      go_ret
      exact ⟨by first | rfl | (simp [errW_none, errW_some] <;> rfl) | (simp only [← hji5, ← hji7]; first | rfl | (simp [errW_none, errW_some] <;> rfl)) | (simp [*, errW_none, errW_some] <;> rfl), by repeat (first | (with_reducible first | exact HI1.out | apply IsS79.alloc | apply IsS79.drewN | apply IsS79.drew | apply IsS79.set_0 | apply IsS79.set_1 | apply IsS79.set_2) | exact HI1.out), by repeat (first | (with_reducible first | exact HB.out | apply below_alloc | apply pw_below_drewN | apply below_drew1 | refine below_set ?_ (IsS79.ge HI1.out)) | exact HB.out), by repeat (first | (with_reducible first | exact HK.out | apply KeepBut.set_ | apply keep_drewN | apply keep_drew | apply keep_alloc) | exact HK.out)⟩
  · rw [if_neg c4] at H
    exact absurd H (by simp)

/-! ### strconv_unrounded_nudge: function 48 -/
def strconv_unrounded_nudge.f (a0 : Int) (a1 : Int) : Option (Int) := some (IntKind.u64.wrap (a0 + (IntKind.u64.wrap (a1))))
set_option maxHeartbeats 8000000 in
set_option maxRecDepth 100000 in
theorem strconv_unrounded_nudge.calls (a0 : Int) (a1 : Int) (r : Int) (w : World) (h : strconv_unrounded_nudge.f a0 a1 = some r) :
    Calls Tryd.prog 48 #[.int .u64 a0, .int .i64 a1] w fun e w' => e = .returned (.int .u64 r) ∧ Drawn0 w w' := by
  have H : (some (IntKind.u64.wrap (a0 + (IntKind.u64.wrap (a1))))) = some r := h
  clear h
  obtain rfl := Option.some.inj H
  go_enter Tryd.func48, Tryd.ntmps48
  go_wp2
  go_ret
  exact ⟨by first | rfl | (simp; done) | (simp [*]; done), by repeat (first | exact Drawn0.refl _ | apply Drawn0.step)⟩

/-! ### strconv_unrounded_ceil: function 49 -/
def strconv_unrounded_ceil.f (a0 : Int) : Option (Int) := some ((IntKind.u64.wrap (a0 + 3)) / 4)
set_option maxHeartbeats 8000000 in
set_option maxRecDepth 100000 in
theorem strconv_unrounded_ceil.calls (a0 : Int) (r : Int) (w : World) (h : strconv_unrounded_ceil.f a0 = some r) :
    Calls Tryd.prog 49 #[.int .u64 a0] w fun e w' => e = .returned (.int .u64 r) ∧ Drawn0 w w' := by
  have H : (some ((IntKind.u64.wrap (a0 + 3)) / 4)) = some r := h
  clear h
  obtain rfl := Option.some.inj H
  go_enter Tryd.func49, Tryd.ntmps49
  go_wp2
  go_ret
  exact ⟨by first | rfl | (simp; done) | (simp [*]; done), by repeat (first | exact Drawn0.refl _ | apply Drawn0.step)⟩

/-! ### strconv_unrounded_floor: function 50 -/
def strconv_unrounded_floor.f (a0 : Int) : Option (Int) := some ((IntKind.u64.wrap (a0 + 0)) / 4)
set_option maxHeartbeats 8000000 in
set_option maxRecDepth 100000 in
theorem strconv_unrounded_floor.calls (a0 : Int) (r : Int) (w : World) (h : strconv_unrounded_floor.f a0 = some r) :
    Calls Tryd.prog 50 #[.int .u64 a0] w fun e w' => e = .returned (.int .u64 r) ∧ Drawn0 w w' := by
  have H : (some ((IntKind.u64.wrap (a0 + 0)) / 4)) = some r := h
  clear h
  obtain rfl := Option.some.inj H
  go_enter Tryd.func50, Tryd.ntmps50
  go_wp2
  go_ret
  exact ⟨by first | rfl | (simp; done) | (simp [*]; done), by repeat (first | exact Drawn0.refl _ | apply Drawn0.step)⟩

/-! ### strconv_unrounded_round: function 51 -/
def strconv_unrounded_round.f (a0 : Int) : Option (Int) := some ((IntKind.u64.wrap ((IntKind.u64.wrap (a0 + 1)) + (Go.bits .and .u64 (a0 / 4) 1))) / 4)
set_option maxHeartbeats 8000000 in
set_option maxRecDepth 100000 in
theorem strconv_unrounded_round.calls (a0 : Int) (r : Int) (w : World) (h : strconv_unrounded_round.f a0 = some r) :
    Calls Tryd.prog 51 #[.int .u64 a0] w fun e w' => e = .returned (.int .u64 r) ∧ Drawn0 w w' := by
  have H : (some ((IntKind.u64.wrap ((IntKind.u64.wrap (a0 + 1)) + (Go.bits .and .u64 (a0 / 4) 1))) / 4)) = some r := h
  clear h
  obtain rfl := Option.some.inj H
  go_enter Tryd.func51, Tryd.ntmps51
  go_wp2
  go_ret
  exact ⟨by first | rfl | (simp; done) | (simp [*]; done), by repeat (first | exact Drawn0.refl _ | apply Drawn0.step)⟩

-- NOT PRINTED: function 29 (strconv_shortFloat_float32)

-- NOT PRINTED: function 30 (strconv_setDigits)

/-! ### strconv_unmin: function 52 -/
def strconv_unmin.f (a0 : Int) : Option (Int) := some (IntKind.u64.wrap ((IntKind.u64.wrap (a0 * 4)) - 2))
set_option maxHeartbeats 8000000 in
set_option maxRecDepth 100000 in
theorem strconv_unmin.calls (a0 : Int) (r : Int) (w : World) (h : strconv_unmin.f a0 = some r) :
    Calls Tryd.prog 52 #[.int .u64 a0] w fun e w' => e = .returned (.int .u64 r) ∧ Drawn0 w w' := by
  have H : (some (IntKind.u64.wrap ((IntKind.u64.wrap (a0 * 4)) - 2))) = some r := h
  clear h
  obtain rfl := Option.some.inj H
  go_enter Tryd.func52, Tryd.ntmps52
  go_wp2
  go_ret
  exact ⟨by first | rfl | (simp; done) | (simp [*]; done), by repeat (first | exact Drawn0.refl _ | apply Drawn0.step)⟩

/-! ### strconv_unrounded: function 64 -/
def strconv_unrounded.f (a0 : Bool) : Option (Int) := if a0 = true then (some 1) else (some 0)
set_option maxHeartbeats 8000000 in
set_option maxRecDepth 100000 in
theorem strconv_unrounded.calls (a0 : Bool) (r : Int) (w : World) (h : strconv_unrounded.f a0 = some r) :
    Calls Tryd.prog 64 #[.bool a0] w fun e w' => e = .returned (.int .u64 r) ∧ Drawn0 w w' := by
  have H : (if a0 = true then (some 1) else (some 0)) = some r := h
  clear h
  by_cases c2 : a0 = true
  · subst c2
    have H1 : (some 1) = some r := by rw [if_pos rfl] at H; exact H
    clear H
    have H := H1
    clear H1
    obtain rfl := Option.some.inj H
    go_enter Tryd.func64, Tryd.ntmps64
    go_wp2
    go_ret
    exact ⟨by first | rfl | (simp; done) | (simp [*]; done), by repeat (first | exact Drawn0.refl _ | apply Drawn0.step)⟩
  · replace c2 := Bool.eq_false_iff.mpr c2
    subst c2
    have H1 : (some 0) = some r := by rw [if_neg (show ¬ (false = true) by decide)] at H; exact H
    clear H
    have H := H1
    clear H1
    obtain rfl := Option.some.inj H
    go_enter Tryd.func64, Tryd.ntmps64
    go_wp2
    go_ret
    exact ⟨by first | rfl | (simp; done) | (simp [*]; done), by repeat (first | exact Drawn0.refl _ | apply Drawn0.step)⟩

/-! ### strconv_unrounded_div: function 53 -/
def strconv_unrounded_div.f (a0 : Int) (a1 : Int) : Option (Int) := if a1 = 0 then (none) else ((strconv_unrounded.f ((Int.tmod a0 a1) != 0)).bind fun t268 => (some (Go.bits .or .u64 (Go.bits .or .u64 (IntKind.u64.wrap (Int.tdiv a0 a1)) (Go.bits .and .u64 a0 1)) t268)))
set_option maxHeartbeats 8000000 in
set_option maxRecDepth 100000 in
theorem strconv_unrounded_div.calls (a0 : Int) (a1 : Int) (r : Int) (w : World) (h : strconv_unrounded_div.f a0 a1 = some r) :
    Calls Tryd.prog 53 #[.int .u64 a0, .int .u64 a1] w fun e w' => e = .returned (.int .u64 r) ∧ Drawn0 w w' := by
  have H : (if a1 = 0 then (none) else ((strconv_unrounded.f ((Int.tmod a0 a1) != 0)).bind fun t268 => (some (Go.bits .or .u64 (Go.bits .or .u64 (IntKind.u64.wrap (Int.tdiv a0 a1)) (Go.bits .and .u64 a0 1)) t268)))) = some r := h
  clear h
  by_cases c3 : a1 = 0
  · rw [if_pos c3] at H
    exact absurd H (by simp)
  · rw [if_neg c3] at H
    have c3b0 : (a1 == 0) = false := beq_eq_false_iff_ne.mpr c3
    have c3b1 : (a1 != 0) = true := bne_iff_ne.mpr c3
    replace H := Option.bind_eq_some_iff.mp H
    obtain ⟨t268, A40, H⟩ := H
    replace H : (some (Go.bits .or .u64 (Go.bits .or .u64 (IntKind.u64.wrap (Int.tdiv a0 a1)) (Go.bits .and .u64 a0 1)) t268)) = some r := H
    have A4 := Aside0.mk A40
    clear A40
    obtain rfl := Option.some.inj H
    go_enter Tryd.func53, Tryd.ntmps53
    go_wp2_with (first | (go_at_call 64; (with_reducible refine (strconv_unrounded.calls ((Int.tmod a0 a1) != 0) t268 _ A4.out).mono ?_); rintro e w' ⟨rfl, ⟨nd, rfl⟩⟩; (try first | exact ⟨rfl, _, World.drewN_drewN _ _ _⟩ | exact ⟨rfl, _, Eq.trans (World.drewN_drewN _ _ _) (congrArg (World.drewN _) (Nat.add_assoc _ _ _))⟩)))
    repeat (go_quiet (first | (go_at_call 64; (with_reducible refine (strconv_unrounded.calls ((Int.tmod a0 a1) != 0) t268 _ A4.out).mono ?_); rintro e w' ⟨rfl, ⟨nd, rfl⟩⟩; (try first | exact ⟨rfl, _, World.drewN_drewN _ _ _⟩ | exact ⟨rfl, _, Eq.trans (World.drewN_drewN _ _ _) (congrArg (World.drewN _) (Nat.add_assoc _ _ _))⟩))); try go_wp2_with (first | (go_at_call 64; (with_reducible refine (strconv_unrounded.calls ((Int.tmod a0 a1) != 0) t268 _ A4.out).mono ?_); rintro e w' ⟨rfl, ⟨nd, rfl⟩⟩; (try first | exact ⟨rfl, _, World.drewN_drewN _ _ _⟩ | exact ⟨rfl, _, Eq.trans (World.drewN_drewN _ _ _) (congrArg (World.drewN _) (Nat.add_assoc _ _ _))⟩))))
    go_ret
    exact ⟨by first | rfl | (simp; done) | (simp [*]; done), by repeat (first | exact Drawn0.refl _ | apply Drawn0.step)⟩

-- NOT PRINTED: function 32 (strconv_fixedWidthFloat)

-- NOT PRINTED: function 54 (strconv_trim)

-- NOT PRINTED: function 33 (strconv_decimal_Assign)

/-! ### strconv_prefixIsLessThan: function 65 -/
def strconv_prefixIsLessThan.l0 : Nat → List Int → ByteArray → Int → Option (Bool)
  | 0, _, _, _ => none
  | k + 1, x0, x1, x5 => if x5 < (x1.size : Int) then (if x5 ≥ (x0.length : Int) then (some true) else (if 0 ≤ x5 then (if x5 < (x0.length : Int) then (if (rd x0 x5) = (bt x1 x5) then (strconv_prefixIsLessThan.l0 k x0 x1 (wrap64 (x5 + 1))) else (some (decide ((rd x0 x5) < (bt x1 x5))))) else (none)) else (none))) else (some false)
def strconv_prefixIsLessThan.f (k : Nat) (l0 : List Int) (a1 : ByteArray) : Option (Bool) := strconv_prefixIsLessThan.l0 k l0 a1 0
theorem strconv_prefixIsLessThan.mono_l : ∀ k, (∀ y0 y1 y2, LeO (strconv_prefixIsLessThan.l0 k y0 y1 y2) (strconv_prefixIsLessThan.l0 (k + 1) y0 y1 y2))
  | 0 => fun _ _ _ r h => by simp [strconv_prefixIsLessThan.l0] at h
  | k + 1 => by
    have ih0 := strconv_prefixIsLessThan.mono_l k
    · intro y0 y1 y2
      unfold strconv_prefixIsLessThan.l0
      repeat' first
      | (with_reducible exact ih0 _ _ _)
      | (with_reducible exact LeO.refl _)
      | (with_reducible exact LeO.none _)
      | (with_reducible refine LeO.ite ?_ ?_)
      | (with_reducible refine LeO.bind ?_ (fun _ => ?_))
      | exact ih0 _ _ _
      | exact LeO.none _
      | refine LeO.ite ?_ ?_
      | refine LeO.bind ?_ (fun _ => ?_)
theorem strconv_prefixIsLessThan.mono : ∀ a0 a1 k, LeO (strconv_prefixIsLessThan.f k a0 a1) (strconv_prefixIsLessThan.f (k + 1) a0 a1) := by
  intro a0 a1 k
  have ih0 := strconv_prefixIsLessThan.mono_l k
  unfold strconv_prefixIsLessThan.f
  repeat' first
      | (with_reducible exact ih0 _ _ _)
      | (with_reducible exact LeO.refl _)
      | (with_reducible exact LeO.none _)
      | (with_reducible refine LeO.ite ?_ ?_)
      | (with_reducible refine LeO.bind ?_ (fun _ => ?_))
      | exact ih0 _ _ _
      | exact LeO.none _
      | refine LeO.ite ?_ ?_
      | refine LeO.bind ?_ (fun _ => ?_)
set_option maxHeartbeats 8000000 in
set_option maxRecDepth 100000 in
theorem strconv_prefixIsLessThan.calls (k : Nat) (A0 : Option Addr) (c0 : Nat) (l0 : List Int) (a1 : ByteArray) (r : Bool) (w : World) (hr0 : Kd.C (Kd.int .u8) w A0 l0.length l0) (hc0 : l0.length ≤ c0) (h : strconv_prefixIsLessThan.f k l0 a1 = some r) :
    Calls Tryd.prog 65 #[.slice A0 l0.length c0, .string a1] w fun e w' => e = .returned (.bool r) ∧ Drawn0 w w' := by
  have HR0 := Aside0.mk hr0
  have HC0 := Aside0.mk hc0
  clear hr0 hc0
  have H : (strconv_prefixIsLessThan.l0 k l0 a1 0) = some r := h
  clear h
  have H' := Aside0.mk H
  clear H
  go_enter Tryd.func65, Tryd.ntmps65
  go_wp2
  repeat (go_quiet (fail); try go_wp2)
  go_loopg [5] k (fun kq v5 w' => ∃ (x5_1 : Int), v5 = .int .i64 x5_1 ∧ Aside0 (strconv_prefixIsLessThan.l0 kq l0 a1 x5_1 = some r) ∧ Aside0 (kq ≤ k) ∧ Drawn0 w w')
  case atStart => exact ⟨(0), (by first | rfl | (simp; done) | (simp [*]; done)), H', ⟨Nat.le_refl _⟩, by repeat (first | exact Drawn0.refl _ | apply Drawn0.step)⟩
  case round =>
    clear H'
    try clear p2
    obtain ⟨x5_1, rfl, HA, HK1, ⟨m1, rfl⟩⟩ := hrel
    cases gk with
    | zero => exact absurd HA.out (by simp [strconv_prefixIsLessThan.l0])
    | succ k1 =>
      have H := HA.out
      clear HA
      simp only [strconv_prefixIsLessThan.l0] at H
      by_cases c3 : x5_1 < (a1.size : Int)
      · rw [if_pos c3] at H
        have c3b0 : decide (x5_1 < (a1.size : Int)) = true := decide_eq_true c3
        clear c3
        by_cases c4 : x5_1 ≥ (l0.length : Int)
        · rw [if_pos c4] at H
          have c4b0 : decide ((l0.length : Int) ≤ x5_1) = true := decide_eq_true c4
          clear c4
          obtain rfl := Option.some.inj H
          go_wp2
          repeat (go_quiet (fail); try go_wp2)
          go_ret
          exact ⟨by first | rfl | (simp; done) | (simp [*]; done), by repeat (first | exact Drawn0.refl _ | apply Drawn0.step)⟩
        · rw [if_neg c4] at H
          have c4b0 : decide ((l0.length : Int) ≤ x5_1) = false := decide_eq_false c4
          clear c4
          by_cases c5 : 0 ≤ x5_1
          · rw [if_pos c5] at H
            have c5b0 : decide (0 ≤ x5_1) = true := decide_eq_true c5
            clear c5
            by_cases c6 : x5_1 < (l0.length : Int)
            · rw [if_pos c6] at H
              have c6b0 : decide (x5_1 < (l0.length : Int)) = true := decide_eq_true c6
              clear c6
              by_cases c8 : (rd l0 x5_1) = (bt a1 x5_1)
              · rw [if_pos c8] at H
                have c8b0 : ((rd l0 x5_1) == (bt a1 x5_1)) = true := beq_iff_eq.mpr c8
                have c8b1 : ((rd l0 x5_1) != (bt a1 x5_1)) = false := bne_eq_false_iff_eq.mpr c8
                clear c8
                have H' := Aside0.mk H
                clear H
                have p272 : 0 ≤ (x5_1 : Int) := of_decide_eq_true (by first | (with_reducible assumption) | assumption)
                have q272 : x5_1 < (l0.length : Int) := of_decide_eq_true (by first | (with_reducible assumption) | assumption)
                obtain ⟨ad272, e272, hx272_0⟩ := Kd.at_int HR0.out x5_1 p272 q272
                cases e272
                replace p272 := eq_true p272
                replace q272 := eq_true q272
                have p7 : 0 ≤ (x5_1 : Int) := of_decide_eq_true (by first | (with_reducible assumption) | assumption)
                have q7 : x5_1 < (a1.size : Int) := of_decide_eq_true (by first | (with_reducible assumption) | assumption)
                have hx7 := bt_at a1 x5_1
                replace p7 := eq_true p7
                replace q7 := eq_true q7
                go_wp2
                repeat (go_quiet (fail); try go_wp2)
                go_roundg k1
                case measure => have := HK1.out; omega
                case rel => exact ⟨(wrap64 (x5_1 + 1)), (by first | rfl | (simp; done) | (simp [*]; done)), H', ⟨by have := HK1.out; omega⟩, by repeat (first | exact Drawn0.refl _ | apply Drawn0.step)⟩
              · rw [if_neg c8] at H
                have c8b0 : ((rd l0 x5_1) == (bt a1 x5_1)) = false := beq_eq_false_iff_ne.mpr c8
                have c8b1 : ((rd l0 x5_1) != (bt a1 x5_1)) = true := bne_iff_ne.mpr c8
                obtain rfl := Option.some.inj H
                have p272 : 0 ≤ (x5_1 : Int) := of_decide_eq_true (by first | (with_reducible assumption) | assumption)
                have q272 : x5_1 < (l0.length : Int) := of_decide_eq_true (by first | (with_reducible assumption) | assumption)
                obtain ⟨ad272, e272, hx272_0⟩ := Kd.at_int HR0.out x5_1 p272 q272
                cases e272
                replace p272 := eq_true p272
                replace q272 := eq_true q272
                have p7 : 0 ≤ (x5_1 : Int) := of_decide_eq_true (by first | (with_reducible assumption) | assumption)
                have q7 : x5_1 < (a1.size : Int) := of_decide_eq_true (by first | (with_reducible assumption) | assumption)
                have hx7 := bt_at a1 x5_1
                replace p7 := eq_true p7
                replace q7 := eq_true q7
                have p273 : 0 ≤ (x5_1 : Int) := of_decide_eq_true (by first | (with_reducible assumption) | assumption)
                have q273 : x5_1 < (l0.length : Int) := of_decide_eq_true (by first | (with_reducible assumption) | assumption)
                obtain ⟨ad273, e273, hx273_0⟩ := Kd.at_int HR0.out x5_1 p273 q273
                obtain rfl : ad272 = ad273 := (by injection e273)
                replace p273 := eq_true p273
                replace q273 := eq_true q273
                have p9 : 0 ≤ (x5_1 : Int) := of_decide_eq_true (by first | (with_reducible assumption) | assumption)
                have q9 : x5_1 < (a1.size : Int) := of_decide_eq_true (by first | (with_reducible assumption) | assumption)
                have hx9 := bt_at a1 x5_1
                replace p9 := eq_true p9
                replace q9 := eq_true q9
                go_wp2
                repeat (go_quiet (fail); try go_wp2)
                go_ret
                exact ⟨by first | rfl | (simp; done) | (simp [*]; done), by repeat (first | exact Drawn0.refl _ | apply Drawn0.step)⟩
            · rw [if_neg c6] at H
              exact absurd H (by simp)
          · rw [if_neg c5] at H
            exact absurd H (by simp)
      · rw [if_neg c3] at H
        have c3b0 : decide (x5_1 < (a1.size : Int)) = false := decide_eq_false c3
        clear c3
        obtain rfl := Option.some.inj H
        go_wp2
        repeat (go_quiet (fail); try go_wp2)
        go_ret
        exact ⟨by first | rfl | (simp; done) | (simp [*]; done), by repeat (first | exact Drawn0.refl _ | apply Drawn0.step)⟩

-- NOT PRINTED: function 55 (strconv_leftShift)

-- NOT PRINTED: function 56 (strconv_rightShift)

-- NOT PRINTED: function 34 (strconv_decimal_Shift)

-- NOT PRINTED: function 57 (strconv_shouldRoundUp)

-- NOT PRINTED: function 58 (strconv_decimal_RoundUp)

-- NOT PRINTED: function 59 (strconv_decimal_RoundDown)

-- NOT PRINTED: function 35 (strconv_decimal_Round)

-- NOT PRINTED: function 16 (strconv_ftoa32)

-- NOT PRINTED: function 36 (strconv_shortFloat_float64)

-- NOT PRINTED: function 17 (strconv_ftoa64)

-- NOT PRINTED: function 13 (strconv_FormatFloat_13)

-- NOT PRINTED: function 10 (strconv_FormatFloat_10)

-- NOT PRINTED: function 37 (math_Float64frombits)

-- NOT PRINTED: function 18 (math_Inf)

-- NOT PRINTED: function 14 (math_Pow10)

-- NOT PRINTED: function 11 (btcutil_Amount_ToUnit)

-- NOT PRINTED: function 8 (btcutil_Amount_Format)

-- NOT PRINTED: function 4 (impl_AmountText)

end Go.Proofs.YtkcbalikahmeiaaDoor.PFnAmountText
