/-
  spec.stir: a round of SipHash.
-/
import Derived.Test.YtfhkkojdaejnjaaDoorBox4
namespace Go.Proofs.YtfhkkojdaejnjaaDoor.Gcs
open Go.RowKit Go.Proofs.YtfhkkojdaejnjaaDoor.Hand Go.Proofs.YtfhkkojdaejnjaaDoor.PFnForms Go.Proofs.YtfhkkojdaejnjaaDoorW.PrintWords Go.Proofs.YtfhkkojdaejnjaaDoorW.PrintLast Go.Proofs.YtfhkkojdaejnjaaDoorW.PrintMore

abbrev N4 := Int × Int × Int × Int
def rotl (k : Nat) (x : Int) : Int := Go.bits .or .u64 (IntKind.u64.wrap (x * 2 ^ k)) (x / 2 ^ (64 - k))
def stir (v : N4) : N4 :=
  let a := v.1; let b := v.2.1; let c := v.2.2.1; let d := v.2.2.2
  let a1 := IntKind.u64.wrap (a + b); let c1 := IntKind.u64.wrap (c + d)
  let b1 := rotl 13 b; let d1 := rotl 16 d
  let b2 := Go.bits .xor .u64 b1 a1; let d2 := Go.bits .xor .u64 d1 c1
  let a2 := rotl 32 a1
  let c2 := IntKind.u64.wrap (c1 + b2); let a3 := IntKind.u64.wrap (a2 + d2)
  let b3 := rotl 17 b2; let d3 := rotl 21 d2
  let b4 := Go.bits .xor .u64 b3 c2; let d4 := Go.bits .xor .u64 d3 a3
  let c3 := rotl 32 c2
  (a3, b4, c3, d4)
def v4 (v : N4) : Value := .agg #[.int .u64 v.1, .int .u64 v.2.1, .int .u64 v.2.2.1, .int .u64 v.2.2.2]
def IsStir (w : World) (r : N4) (e : Ending) (w' : World) : Prop := e = .returned (v4 r) ∧ Below w.heap.size w w'

set_option maxRecDepth 100000 in
set_option maxHeartbeats 16000000 in
theorem stir_calls (a b c d : Int) (w : World) : Calls Tryd.prog 41 #[.agg #[.int .u64 a, .int .u64 b, .int .u64 c, .int .u64 d]] w (IsStir w (stir (a, b, c, d))) := by
  have HB := Aside0.mk (Below.refl w.heap.size w)
  go_enter Tryd.func41, Tryd.ntmps41
  go_wp2_with (first
    | ((with_reducible refine gate_dst (N := 1) rfl ?_); refine box_event ?hg (N := 1) ?hd (cs := #[.int .u64 a, .int .u64 b, .int .u64 c, .int .u64 d]) (t := 74) ?hr ?_; (case hd => rfl); (case hg => rfl); (case hr => first | (go_simp; done) | (go_simp; rfl)); intro g hg w1 hbox hb1; have HX := Aside0.mk (Bx.mk hbox); have HB1 := Aside0.mk (below_step HB.out hb1); have HG : Aside0 (w.heap.size ≤ g) := ⟨by rw [hg]; exact Nat.le_refl _⟩; clear hg hbox hb1)
    | ((with_reducible refine gate_dst (N := 2) rfl ?_); refine box_event ?hg (N := 2) ?hd (cs := #[.int .u64 0, .int .u64 0, .int .u64 0, .int .u64 0]) (t := 74) ?hr ?_; (case hd => rfl); (case hg => rfl); (case hr => first | (go_simp; done) | (go_simp; rfl)); intro g2 hg w2 hbox hb2; have HX0 := Aside0.mk (HX.out.below hb2); have HZ := Aside0.mk (Bx.mk hbox); have HB0 := Aside0.mk (below_step HB1.out hb2); have HG2 : Aside0 (w.heap.size ≤ g2) := ⟨by rw [hg]; exact HB1.out.size⟩; have HNE : Aside0 (g2 ≠ g) := ⟨by have := HX.out.lt; omega⟩; have k0 := HX0.out.k0; have k1 := HX0.out.k1; have k2 := HX0.out.k2; have k3 := HX0.out.k3; clear hg hbox hb2)
    | ((with_reducible refine gate_store (t := 22) (p := 13) rfl ?_); refine st0 rfl rfl rfl HX0.out HB0.out HG.out rfl rfl ?_; intro x0 w10 hx0 hX hB hK; have HZa0 := Aside0.mk (Bx.frame HZ.out (hK _ HNE.out)); have HXa0 := Aside0.mk hX; have HBa0 := Aside0.mk hB; clear k0 k1 k2 k3 hX hB hK; have k0 := HXa0.out.k0; have k1 := HXa0.out.k1; have k2 := HXa0.out.k2; have k3 := HXa0.out.k3; have HP0 := Aside0.mk hx0; clear hx0)
    | ((with_reducible refine gate_store (t := 22) (p := 14) rfl ?_); refine st2 rfl rfl rfl HXa0.out HBa0.out HG.out rfl rfl ?_; intro x1 w11 hx1 hX hB hK; have HZa1 := Aside0.mk (Bx.frame HZa0.out (hK _ HNE.out)); have HXa1 := Aside0.mk hX; have HBa1 := Aside0.mk hB; clear k0 k1 k2 k3 hX hB hK; have k0 := HXa1.out.k0; have k1 := HXa1.out.k1; have k2 := HXa1.out.k2; have k3 := HXa1.out.k3; have HP1 := Aside0.mk hx1; clear hx1)
    | ((with_reducible refine gate_store (t := 22) (p := 29) rfl ?_); refine st1 rfl rfl rfl HXa1.out HBa1.out HG.out rfl rfl ?_; intro x2 w12 hx2 hX hB hK; have HZa2 := Aside0.mk (Bx.frame HZa1.out (hK _ HNE.out)); have HXa2 := Aside0.mk hX; have HBa2 := Aside0.mk hB; clear k0 k1 k2 k3 hX hB hK; have k0 := HXa2.out.k0; have k1 := HXa2.out.k1; have k2 := HXa2.out.k2; have k3 := HXa2.out.k3; have HP2 := Aside0.mk hx2; clear hx2)
    | ((with_reducible refine gate_store (t := 22) (p := 30) rfl ?_); refine st3 rfl rfl rfl HXa2.out HBa2.out HG.out rfl rfl ?_; intro x3 w13 hx3 hX hB hK; have HZa3 := Aside0.mk (Bx.frame HZa2.out (hK _ HNE.out)); have HXa3 := Aside0.mk hX; have HBa3 := Aside0.mk hB; clear k0 k1 k2 k3 hX hB hK; have k0 := HXa3.out.k0; have k1 := HXa3.out.k1; have k2 := HXa3.out.k2; have k3 := HXa3.out.k3; have HP3 := Aside0.mk hx3; clear hx3)
    | ((with_reducible refine gate_store (t := 22) (p := 41) rfl ?_); refine st1 rfl rfl rfl HXa3.out HBa3.out HG.out rfl rfl ?_; intro x4 w14 hx4 hX hB hK; have HZa4 := Aside0.mk (Bx.frame HZa3.out (hK _ HNE.out)); have HXa4 := Aside0.mk hX; have HBa4 := Aside0.mk hB; clear k0 k1 k2 k3 hX hB hK; have k0 := HXa4.out.k0; have k1 := HXa4.out.k1; have k2 := HXa4.out.k2; have k3 := HXa4.out.k3; have HP4 := Aside0.mk hx4; clear hx4)
    | ((with_reducible refine gate_store (t := 22) (p := 42) rfl ?_); refine st3 rfl rfl rfl HXa4.out HBa4.out HG.out rfl rfl ?_; intro x5 w15 hx5 hX hB hK; have HZa5 := Aside0.mk (Bx.frame HZa4.out (hK _ HNE.out)); have HXa5 := Aside0.mk hX; have HBa5 := Aside0.mk hB; clear k0 k1 k2 k3 hX hB hK; have k0 := HXa5.out.k0; have k1 := HXa5.out.k1; have k2 := HXa5.out.k2; have k3 := HXa5.out.k3; have HP5 := Aside0.mk hx5; clear hx5)
    | ((with_reducible refine gate_store (t := 22) (p := 50) rfl ?_); refine st0 rfl rfl rfl HXa5.out HBa5.out HG.out rfl rfl ?_; intro x6 w16 hx6 hX hB hK; have HZa6 := Aside0.mk (Bx.frame HZa5.out (hK _ HNE.out)); have HXa6 := Aside0.mk hX; have HBa6 := Aside0.mk hB; clear k0 k1 k2 k3 hX hB hK; have k0 := HXa6.out.k0; have k1 := HXa6.out.k1; have k2 := HXa6.out.k2; have k3 := HXa6.out.k3; have HP6 := Aside0.mk hx6; clear hx6)
    | ((with_reducible refine gate_store (t := 22) (p := 61) rfl ?_); refine st2 rfl rfl rfl HXa6.out HBa6.out HG.out rfl rfl ?_; intro x7 w17 hx7 hX hB hK; have HZa7 := Aside0.mk (Bx.frame HZa6.out (hK _ HNE.out)); have HXa7 := Aside0.mk hX; have HBa7 := Aside0.mk hB; clear k0 k1 k2 k3 hX hB hK; have k0 := HXa7.out.k0; have k1 := HXa7.out.k1; have k2 := HXa7.out.k2; have k3 := HXa7.out.k3; have HP7 := Aside0.mk hx7; clear hx7)
    | ((with_reducible refine gate_store (t := 22) (p := 62) rfl ?_); refine st0 rfl rfl rfl HXa7.out HBa7.out HG.out rfl rfl ?_; intro x8 w18 hx8 hX hB hK; have HZa8 := Aside0.mk (Bx.frame HZa7.out (hK _ HNE.out)); have HXa8 := Aside0.mk hX; have HBa8 := Aside0.mk hB; clear k0 k1 k2 k3 hX hB hK; have k0 := HXa8.out.k0; have k1 := HXa8.out.k1; have k2 := HXa8.out.k2; have k3 := HXa8.out.k3; have HP8 := Aside0.mk hx8; clear hx8)
    | ((with_reducible refine gate_store (t := 22) (p := 77) rfl ?_); refine st1 rfl rfl rfl HXa8.out HBa8.out HG.out rfl rfl ?_; intro x9 w19 hx9 hX hB hK; have HZa9 := Aside0.mk (Bx.frame HZa8.out (hK _ HNE.out)); have HXa9 := Aside0.mk hX; have HBa9 := Aside0.mk hB; clear k0 k1 k2 k3 hX hB hK; have k0 := HXa9.out.k0; have k1 := HXa9.out.k1; have k2 := HXa9.out.k2; have k3 := HXa9.out.k3; have HP9 := Aside0.mk hx9; clear hx9)
    | ((with_reducible refine gate_store (t := 22) (p := 78) rfl ?_); refine st3 rfl rfl rfl HXa9.out HBa9.out HG.out rfl rfl ?_; intro x10 w110 hx10 hX hB hK; have HZa10 := Aside0.mk (Bx.frame HZa9.out (hK _ HNE.out)); have HXa10 := Aside0.mk hX; have HBa10 := Aside0.mk hB; clear k0 k1 k2 k3 hX hB hK; have k0 := HXa10.out.k0; have k1 := HXa10.out.k1; have k2 := HXa10.out.k2; have k3 := HXa10.out.k3; have HP10 := Aside0.mk hx10; clear hx10)
    | ((with_reducible refine gate_store (t := 22) (p := 89) rfl ?_); refine st1 rfl rfl rfl HXa10.out HBa10.out HG.out rfl rfl ?_; intro x11 w111 hx11 hX hB hK; have HZa11 := Aside0.mk (Bx.frame HZa10.out (hK _ HNE.out)); have HXa11 := Aside0.mk hX; have HBa11 := Aside0.mk hB; clear k0 k1 k2 k3 hX hB hK; have k0 := HXa11.out.k0; have k1 := HXa11.out.k1; have k2 := HXa11.out.k2; have k3 := HXa11.out.k3; have HP11 := Aside0.mk hx11; clear hx11)
    | ((with_reducible refine gate_store (t := 22) (p := 90) rfl ?_); refine st3 rfl rfl rfl HXa11.out HBa11.out HG.out rfl rfl ?_; intro x12 w112 hx12 hX hB hK; have HZa12 := Aside0.mk (Bx.frame HZa11.out (hK _ HNE.out)); have HXa12 := Aside0.mk hX; have HBa12 := Aside0.mk hB; clear k0 k1 k2 k3 hX hB hK; have k0 := HXa12.out.k0; have k1 := HXa12.out.k1; have k2 := HXa12.out.k2; have k3 := HXa12.out.k3; have HP12 := Aside0.mk hx12; clear hx12)
    | ((with_reducible refine gate_store (t := 22) (p := 98) rfl ?_); refine st2 rfl rfl rfl HXa12.out HBa12.out HG.out rfl rfl ?_; intro x13 w113 hx13 hX hB hK; have HZa13 := Aside0.mk (Bx.frame HZa12.out (hK _ HNE.out)); have HXa13 := Aside0.mk hX; have HBa13 := Aside0.mk hB; clear k0 k1 k2 k3 hX hB hK; have k0 := HXa13.out.k0; have k1 := HXa13.out.k1; have k2 := HXa13.out.k2; have k3 := HXa13.out.k3; have HP13 := Aside0.mk hx13; clear hx13)
    | ((with_reducible refine gate_store (t := 74) (p := 2) rfl ?_); refine stA rfl rfl rfl HZa13.out HBa13.out HG2.out rfl rfl ?_; intro wz hX hB hK; have HXZ := Aside0.mk hX; have HBZ := Aside0.mk hB; clear k0 k1 k2 k3 hX hB hK; have k0 := HXZ.out.k0; have k1 := HXZ.out.k1; have k2 := HXZ.out.k2; have k3 := HXZ.out.k3)
    | fail)
  refine bodyPost_ret (v := .agg #[.int .u64 x8, .int .u64 x11, .int .u64 x13, .int .u64 x12]) (by simp [results, Tryd.results41, go_sem, k0, k1, k2, k3]) rfl ⟨?_, HBZ.out⟩
  have e13 := HP13.out
  have e12 := HP12.out
  have e11 := HP11.out
  have e10 := HP10.out
  have e9 := HP9.out
  have e8 := HP8.out
  have e7 := HP7.out
  have e6 := HP6.out
  have e5 := HP5.out
  have e4 := HP4.out
  have e3 := HP3.out
  have e2 := HP2.out
  have e1 := HP1.out
  have e0 := HP0.out
  subst e13 e12 e11 e10 e9 e8 e7 e6 e5 e4 e3 e2 e1 e0
  rfl
end Go.Proofs.YtfhkkojdaejnjaaDoor.Gcs
