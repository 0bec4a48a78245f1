/-
  zzReadVarInt of a number below 253.
-/
import Derived.Test.YtfhkkojdaejnjaaDoorFormP
namespace Go.Proofs.YtfhkkojdaejnjaaDoor.Gcs
open Go.RowKit Go.Proofs.YtfhkkojdaejnjaaDoor.Hand Go.Proofs.YtfhkkojdaejnjaaDoor.Buf Go.Proofs.YtfhkkojdaejnjaaDoor.PFnForms Go.Proofs.YtfhkkojdaejnjaaDoorW.PrintWords Go.Proofs.YtfhkkojdaejnjaaDoorW.PrintLast Go.Proofs.YtfhkkojdaejnjaaDoorW.PrintMore

def IsRead (w : World) (n0 : Int) (ad : Addr) (l c : Nat) (e : Ending) (w' : World) : Prop :=
  e = .returned (.tuple #[.int .u64 n0, .slice (some (ad.add 1)) l (c - 1), .nilIface]) ∧ ∃ q, w' = w.drewN q
set_option maxRecDepth 100000 in
set_option maxHeartbeats 8000000 in
theorem readvar_calls (ad : Addr) (l c : Nat) (n0 : Int) (w : World) (k0 : w.cell? ad = some (.int .u8 n0)) (h0 : 0 ≤ n0) (h1 : n0 < 253) (hl : l ≤ 1000000) (hl1 : 1 ≤ l) (hc : l + 1 ≤ c) :
    Calls Tryd.prog 46 #[.slice (some ad) (l + 1) c] w (IsRead w n0 ad l c) := by
  have e1 : ¬ n0 = 253 := by omega
  have e2 : ¬ n0 = 254 := by omega
  have e3 : ¬ n0 = 255 := by omega
  have b1 : (n0 == 253) = false := beq_eq_false_iff_ne.2 e1
  have b2 : (n0 == 254) = false := beq_eq_false_iff_ne.2 e2
  have b3 : (n0 == 255) = false := beq_eq_false_iff_ne.2 e3
  have c1 : ¬ ((l : Int) + 1 = 0) := by omega
  have b4 : (((l : Int) + 1) == 0) = false := beq_eq_false_iff_ne.2 c1
  have c2 : ¬ ((l : Int) + 1 < 1) := by omega
  have c3 : (1 : Int) ≤ (l : Int) + 1 := by omega
  have hc1 : ¬ c = 1 := by omega
  have hn : IntKind.u64.wrap n0 = n0 := wrap_id h0 (by omega)
  go_enter Tryd.func46, Tryd.ntmps46
  go_wp2_with fail
  go_quiet (fail)
  go_wp2_with fail
  refine bodyPost_ret (results_tmp3 rfl _ _ _) rfl ⟨?_, _, rfl⟩
  first | rfl | (unfold Addr.add; rfl) | (simp [Addr.add]; done)
end Go.Proofs.YtfhkkojdaejnjaaDoor.Gcs
