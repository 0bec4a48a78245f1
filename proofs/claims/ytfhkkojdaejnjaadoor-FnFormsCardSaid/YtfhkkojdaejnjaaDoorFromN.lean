/-
  gcs.FromNBytes, walked.
-/
import Derived.Test.YtfhkkojdaejnjaaDoorReadWalk
namespace Go.Proofs.YtfhkkojdaejnjaaDoor.Gcs
open Go.RowKit Go.Proofs.YtfhkkojdaejnjaaDoor.Hand Go.Proofs.YtfhkkojdaejnjaaDoor.Buf Go.Proofs.YtfhkkojdaejnjaaDoor.PFnForms Go.Proofs.YtfhkkojdaejnjaaDoorW.PrintWords Go.Proofs.YtfhkkojdaejnjaaDoorW.PrintLast Go.Proofs.YtfhkkojdaejnjaaDoorW.PrintMore

set_option maxRecDepth 100000 in
set_option maxHeartbeats 8000000 in
theorem fromNB_calls (p m md n0 : Int) (A : Option Addr) (c : Nat) (D : List Int) (w : World) (hC : Kd.C (Kd.int .u8) w A (n0 :: D).length (n0 :: D)) (hc : D.length + 1 ≤ c) (h0 : 0 ≤ n0) (h1 : n0 ≤ 60) (hp : p ≤ 32) (hmd : IntKind.u64.wrap (n0 * m) = md) (hD : D.length ≤ 1000000) (hpos : 1 ≤ D.length) :
    Calls Tryd.prog 31 #[.int .u8 p, .int .u64 m, .slice A (D.length + 1) c] w (IsFlt w n0 p md D) := by
  obtain ⟨ad, rfl, hcell⟩ := C_cells hC (by simp)
  have k0 : w.cell? ad = some (.int .u8 n0) := by have := hcell 0 (.int .u8 n0) rfl; rwa [Addr.add_zero'] at this
  have hCD := Kd.C_drop (k := Kd.int .u8) hC (m := 1) (c := c) (by simp) (by simpa using hc)
  rw [if_neg (by omega)] at hCD
  have HRV : Aside0 (Calls Tryd.prog 46 #[.slice (some ad) (D.length + 1) c] w (IsRead w n0 ad D.length c)) := ⟨readvar_calls ad D.length c n0 w k0 h0 (by omega) hD hpos hc⟩
  have HFB : Aside0 (∀ q, Calls Tryd.prog 42 #[.int .u32 n0, .int .u8 p, .int .u64 m, .slice (some (ad.add 1)) D.length (c - 1)] (w.drewN q) (IsFlt (w.drewN q) n0 p md D)) := ⟨fun q => fromBytes_calls n0 p m md (some (ad.add 1)) (c - 1) D (w.drewN q) hp h0 h1 hmd (Kd.C_drewN hCD q) hD⟩
  have e1 : ¬ (4294967296 ≤ n0) := by omega
  have e2 : IntKind.u32.wrap n0 = n0 := by rw [IntKind.wrap_u32]; omega
  have e3 : n0 % 4294967296 = n0 := by omega
  clear hC hcell hCD k0 hmd
  obtain ⟨l, hl⟩ : ∃ l, l = D.length := ⟨_, rfl⟩
  rw [← hl] at HRV HFB ⊢
  clear hl hD hpos hc
  go_enter Tryd.func31, Tryd.ntmps31
  go_wp2_with (first
    | (go_at_call 46; (with_reducible refine HRV.out.mono ?_); rintro e w1 hq; unfold IsRead at hq; obtain ⟨rfl, q, rfl⟩ := hq)
    | (go_at_call 42; refine (HFB.out _).mono ?_; rintro e w2 hq; unfold IsFlt at hq; obtain ⟨f, A2, c2, rfl, hF, hf, hb⟩ := hq; have HF := Aside0.mk hF; have HFS := Aside0.mk hf; have HB := Aside0.mk hb; clear hF hf hb)
    | fail)
  refine bodyPost_ret (results_tmp2 rfl _ _ _) rfl ⟨f, A2, c2, rfl, HF.out, HFS.out, ?_⟩
  exact below_step (by apply pw_below_drewN; exact Below.refl _ _) HB.out
end Go.Proofs.YtfhkkojdaejnjaaDoor.Gcs
