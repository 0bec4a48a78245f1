/-
  shortFloat at the smallest amounts: checked one by one.
-/
import Derived.Test.YtkcbalikahmeiaaDoorShortLaw
namespace Go.Proofs.YtkcbalikahmeiaaDoor.Aft
open Go.RowKit FlPlain Go.Proofs.YtkcbalikahmeiaaDoor.PFnAmountText Go.Proofs.YtkcbalikahmeiaaDoorW.PrintWords Go.Proofs.YtkcbalikahmeiaaDoorW.PrintLast Go.Proofs.YtkcbalikahmeiaaDoorW.PrintMore

/-- The table's rows for the greatest powers that are met. -/
def hiT (p : Nat) : Nat := if p ≤ 27 then hiP p else if p = 28 then 9313225746154785157 else if p = 29 then 11641532182693481446 else 14551915228366851807
def loT (p : Nat) : Nat := if p ≤ 27 then 0 else if p = 28 then 13835058055282163712 else if p = 29 then 12682136550675316736 else 6629298651489370112
def mS (N t : Nat) : Nat := (N * 2 ^ (t + 1) / 100000000000000 + 1) / 2
def sS (t p : Nat) : Int := -(-((t : Int) + 11) + (p : Int) * 108853 / 32768 + 3)
def pT (t : Nat) : Nat := (-(-(t : Int) * 78913 / 262144)).toNat
def getR (x : Nat) (H L s : Int) : Nat := match strconv_uscale.f x H L s with
  | some r => r.1.toNat
  | none => 0
def chk (N t : Nat) : Bool :=
  let M := mS N t
  let p := pT t
  let H : Int := (hiT p : Nat)
  let L : Int := (loT p : Nat)
  let s := sS t p
  if 4503599627370496 ≤ M ∧ M < 9007199254740992 ∧ (2 * M - 1) * 100000000000000 < N * 2 ^ (t + 1) ∧ N * 2 ^ (t + 1) < (2 * M + 1) * 100000000000000 then
    let m := M * 2048
    let R1 := getR (m - 1024) H L s
    let R2 := getR (m + 1024) H L s
    let o := M % 2
    let d := N * 10 ^ (p - 15)
    decide (4503599627370496 < M) && decide (strconv_uscale.f (m - 1024 : Nat) H L s = some ((R1 : Int), H, L, s)) && decide (strconv_uscale.f (m + 1024 : Nat) H L s = some ((R2 : Int), H, L, s)) && decide (R1 ≤ 1152921504606846976) && decide (R2 ≤ 1152921504606846976) && decide (1 ≤ R2) && decide ((R1 + o + 3) / 4 ≤ 10 * d) && decide ((R2 - o) / 4 / 10 = d) && decide (28 ≤ p) && decide (p ≤ 30) && decide (-((t : Int)) * 78913 / 262144 = -(p : Int))
  else true
set_option maxRecDepth 100000 in
theorem all_chk : ∀ d : Fin 10, ∀ N : Fin 728, chk N.val (90 + d.val) = true := by decide +kernel
theorem short_small (N t M : Nat) (hN : Near N 100000000000000 t M) (h1 : N ≤ 727) (h90 : 90 ≤ t) (h99 : t ≤ 99) :
    ∃ p : Nat, 14 + 1 ≤ p ∧ p ≤ 30 ∧ N * 10 ^ (p - 1 - 14) ≤ 1152921504606846976 ∧ ∀ w, Tab w (fun p => (hiT p : Nat)) (fun p => (loT p : Nat)) → Calls Tryd.prog 36 #[.int .u64 ((M * 2048 : Nat) : Int), .int .i64 (-((t : Int) + 11))] w fun r w' => r = .returned (.tuple #[.int .u64 ((N * 10 ^ (p - 1 - 14) : Nat) : Int), .int .i64 (-((p : Int) - 1))]) ∧ Below w.heap.size w w' := by
  have hc := all_chk ⟨t - 90, by omega⟩ ⟨N, by omega⟩
  have et : 90 + (t - 90) = t := by omega
  simp only [et] at hc
  have n1 : 4503599627370496 ≤ M := hN.m1
  have n2 : M < 9007199254740992 := hN.m2
  have n3 := hN.lo
  have n4 := hN.hi
  have hM : mS N t = M := by
    unfold mS
    generalize N * 2 ^ (t + 1) = X at *
    omega
  unfold chk at hc
  rw [hM] at hc
  simp only [n1, n2, n3, n4, and_self, ↓reduceIte, Bool.and_eq_true, decide_eq_true_eq] at hc
  obtain ⟨⟨⟨⟨⟨⟨⟨⟨⟨⟨c1, c2⟩, c3⟩, c4⟩, c5⟩, c6⟩, c7⟩, c8⟩, c9⟩, c10⟩, c11⟩ := hc
  generalize pT t = p at *
  have e15 : p - 1 - 14 = p - 15 := by omega
  obtain ⟨d, hd⟩ : ∃ d, d = N * 10 ^ (p - 15) := ⟨_, rfl⟩
  rw [← hd] at c7 c8
  refine ⟨p, by omega, c10, ?_, ?_⟩
  · rw [e15, ← hd]; omega
  rw [e15, ← hd]
  obtain ⟨R1, hR1⟩ : ∃ R, R = getR (M * 2048 - 1024) (hiT p : Nat) (loT p : Nat) (sS t p) := ⟨_, rfl⟩
  obtain ⟨R2, hR2⟩ : ∃ R, R = getR (M * 2048 + 1024) (hiT p : Nat) (loT p : Nat) (sS t p) := ⟨_, rfl⟩
  rw [← hR1] at c2 c4 c7
  rw [← hR2] at c3 c5 c6 c8
  unfold sS at c2 c3
  intro w hT
  exact short_calls (M * 2048) t p (M % 2) R1 R2 d (hiT p : Nat) (loT p : Nat) w hT.h6 (-((t : Int) + 11)) (by omega) (by omega) (by omega) (by omega) (by omega) (by omega) (by omega) c11
    ⟨hT.c0 p (by omega), hT.c1 p (by omega), c2, c3, c4, c5, c6, by omega, by
      rw [show (((M * 2048 : Nat) : Int) / 2048) = (M : Int) by omega]
      exact and_odd M (by omega), c7, c8⟩
end Go.Proofs.YtkcbalikahmeiaaDoor.Aft
