/-
  The law FnForms, at all inputs.
-/
import Derived.Test.YtfhkkojdaejnjaaDoorFormsMain
namespace Go.Proofs.YtfhkkojdaejnjaaDoor.Gcs
open Go.RowKit Go.Proofs.YtfhkkojdaejnjaaDoor.Hand Go.Proofs.YtfhkkojdaejnjaaDoor.Buf Go.Proofs.YtfhkkojdaejnjaaDoor.PFnForms Go.Proofs.YtfhkkojdaejnjaaDoorW.PrintWords Go.Proofs.YtfhkkojdaejnjaaDoorW.PrintLast Go.Proofs.YtfhkkojdaejnjaaDoorW.PrintMore

theorem forms_law (p m : Int) (ks : List Int) (A : Option Addr) (c : Nat) (items : List (List Int)) (w : World) (hk : ks.length = 16) (hC : Kd.C (Kd.slice 5 (Kd.int .u8)) w A items.length items) (hc : items.length ≤ c) :
    Calls Tryd.prog 5 #[.int .u8 p, .int .u64 m, .agg (ks.map (Value.int .u8)).toArray, .slice A items.length c] w fun e w' => e = .returned (.bool true) ∧ Below w.heap.size w w' := by
  have hxl : items.length ≤ 9223372036854775807 := hC.2.1
  obtain ⟨k1, b1, e1, _⟩ := zz_is items hxl
  obtain ⟨b2, e2, g2⟩ := coded_is p m
  obtain ⟨k3, e3⟩ := small_is items hxl
  have H1 : ∀ w1, Below w.heap.size w w1 → Calls Tryd.prog 6 #[.slice A items.length c] w1 fun e w' => e = .returned (.bool b1) ∧ Below w1.heap.size w1 w' := fun w1 hw => (laws_zzFits2.calls k1 A c items b1 w1 (Kd.C_below hC hw) hc e1).mono fun e w' ⟨a, b⟩ => ⟨a, b.below⟩
  have H2 : ∀ w1, Below w.heap.size w w1 → Calls Tryd.prog 7 #[.int .u8 p, .int .u64 m] w1 fun e w' => e = .returned (.bool b2) ∧ Below w1.heap.size w1 w' := fun w1 _ => (laws_isCoded.calls p m b2 w1 e2).mono fun e w' ⟨a, b⟩ => ⟨a, b.below⟩
  have H3 : ∀ w1, Below w.heap.size w w1 → Calls Tryd.prog 8 #[.slice A items.length c] w1 fun e w' => e = .returned (.bool (allTo 60 items && decide (items.length ≤ 20))) ∧ Below w1.heap.size w1 w' := fun w1 hw => (spec_IsSmall.calls k3 A c items _ w1 (Kd.C_below hC hw) hc e3).mono fun e w' ⟨a, b⟩ => ⟨a, b.below⟩
  by_cases hall : b1 = true ∧ b2 = true ∧ 1 ≤ items.length ∧ (allTo 60 items && decide (items.length ≤ 20)) = true
  · obtain ⟨a1, a2, a3, a4⟩ := hall
    rw [a1] at H1
    rw [a2] at H2
    rw [a4] at H3
    rw [Bool.and_eq_true] at a4
    have h60 : ∀ x ∈ items, x.length ≤ 60 := fun x hx => of_decide_eq_true (List.all_eq_true.1 a4.1 x hx)
    obtain ⟨p1, p2, m1, m2, hcd⟩ := g2 a2
    obtain ⟨q, rfl⟩ := Int.eq_ofNat_of_zero_le (show 0 ≤ p by omega)
    exact forms_main q m ks A items.length c items w hk hC rfl hc a3 (of_decide_eq_true a4.2) h60 (by omega) (by omega) m1 m2 hcd H1 H2 H3
  · exact forms_stop p m _ A items.length c w b1 b2 _ H1 H2 H3 hall
end Go.Proofs.YtfhkkojdaejnjaaDoor.Gcs
