/-
  shortFloat at a double in the range of the amounts.
-/
import Derived.Test.YtkcbalikahmeiaaDoorPreWalk
namespace Go.Proofs.YtkcbalikahmeiaaDoor.Aft
open Go.RowKit Go.Proofs.YtkcbalikahmeiaaDoor.PFnAmountText Go.Proofs.YtkcbalikahmeiaaDoorW.PrintWords Go.Proofs.YtkcbalikahmeiaaDoorW.PrintLast Go.Proofs.YtkcbalikahmeiaaDoorW.PrintMore

theorem log10_calls (x r : Int) (w : World) (h0 : -100000 ≤ x) (h1 : x ≤ 100000) (h : x * 78913 / 262144 = r) : Calls Tryd.prog 31 #[.int .i64 x] w fun e w' => e = .returned (.int .i64 r) ∧ w' = w := by
  subst h
  go_enter Tryd.func31, Tryd.ntmps31
  go_wp2
  go_ret
  exact ⟨rfl, rfl⟩
theorem log2_calls (x r : Int) (w : World) (h0 : -100000 ≤ x) (h1 : x ≤ 100000) (h : x * 108853 / 32768 = r) : Calls Tryd.prog 46 #[.int .i64 x] w fun e w' => e = .returned (.int .i64 r) ∧ w' = w := by
  subst h
  go_enter Tryd.func46, Tryd.ntmps46
  go_wp2
  go_ret
  exact ⟨rfl, rfl⟩
theorem skew_calls (x r : Int) (w : World) (h0 : -100000 ≤ x) (h1 : x ≤ 100000) (h : (x * 631305 - 261663) / 2097152 = r) : Calls Tryd.prog 44 #[.int .i64 x] w fun e w' => e = .returned (.int .i64 r) ∧ w' = w := by
  subst h
  go_enter Tryd.func44, Tryd.ntmps44
  go_wp2
  go_ret
  exact ⟨rfl, rfl⟩
theorem nudge_calls (u : Nat) (k r : Int) (w : World) (h0 : -1 ≤ k) (h1 : k ≤ 1) (hu : u ≤ 2305843009213693952) (hr : 0 ≤ (u : Int) + k) (h : (u : Int) + k = r) : Calls Tryd.prog 48 #[.int .u64 (u : Int), .int .i64 k] w fun e w' => e = .returned (.int .u64 r) ∧ w' = w := by
  have e1 : IntKind.u64.wrap ((u : Int) + IntKind.u64.wrap k) = r := by rw [IntKind.wrap_u64, IntKind.wrap_u64]; omega
  clear h
  go_enter Tryd.func48, Tryd.ntmps48
  go_wp2
  refine bodyPost_ret (results_tmp rfl _ _ _) rfl ⟨?_, rfl⟩
  refine congrArg Ending.returned (congrArg (Value.int IntKind.u64) ?_)
  first | exact e1 | (simp only [IntKind.wrap_u64] at e1 ⊢; omega) | omega
theorem ceil_calls (u : Nat) (r : Int) (w : World) (hu : u ≤ 2305843009213693952) (h : ((u : Int) + 3) / 4 = r) : Calls Tryd.prog 49 #[.int .u64 (u : Int)] w fun e w' => e = .returned (.int .u64 r) ∧ w' = w := by
  subst h
  go_enter Tryd.func49, Tryd.ntmps49
  go_wp2
  exact bodyPost_ret (results_tmp rfl _ _ _) rfl ⟨rfl, rfl⟩
theorem floor_calls (u : Nat) (r : Int) (w : World) (hu : u ≤ 2305843009213693952) (h : (u : Int) / 4 = r) : Calls Tryd.prog 50 #[.int .u64 (u : Int)] w fun e w' => e = .returned (.int .u64 r) ∧ w' = w := by
  subst h
  go_enter Tryd.func50, Tryd.ntmps50
  go_wp2
  refine bodyPost_ret (results_tmp rfl _ _ _) rfl ⟨?_, rfl⟩
  first | rfl | (refine congrArg Ending.returned (congrArg (Value.int IntKind.u64) ?_); omega)
theorem uscale_calls (x : Int) (R : Nat) (H L s : Int) (g : Nat) (w0 w : World) (hI : IsS79 w0 w g H L s) (hB : Below w0.heap.size w0 w) (h : strconv_uscale.f x H L s = some ((R : Int), H, L, s)) : Calls Tryd.prog 47 #[.int .u64 x, .pointer (some ⟨g, 0, none⟩)] w fun e w' => e = .returned (.int .u64 (R : Int)) ∧ IsS79 w0 w' g H L s ∧ Below w0.heap.size w0 w' :=
  (strconv_uscale.calls x g H L s _ _ _ _ w0 w hI hB h).mono fun _ _ ⟨a, b, c, _⟩ => ⟨a, b, c⟩
theorem ceil_calls' (u r : Int) (w : World) (h0 : 0 ≤ u) (hu : u ≤ 2305843009213693952) (h : (u + 3) / 4 = r) : Calls Tryd.prog 49 #[.int .u64 u] w fun e w' => e = .returned (.int .u64 r) ∧ w' = w := by
  obtain ⟨n, rfl⟩ := Int.eq_ofNat_of_zero_le h0
  exact ceil_calls n r w (by omega) h
/-- What the walk needs to know of a double M * 2 ^ -t. -/
structure Sh (w : World) (m p odd xmin xmax Rmin Rmax d0 : Nat) (H L s : Int) : Prop where
  c0 : w.cell? ⟨6, (p + 348) * 2, none⟩ = some (.int .u64 H)
  c1 : w.cell? ⟨6, (p + 348) * 2 + 1, none⟩ = some (.int .u64 L)
  u1 : strconv_uscale.f (xmin : Int) H L s = some ((Rmin : Int), H, L, s)
  u2 : strconv_uscale.f (xmax : Int) H L s = some ((Rmax : Int), H, L, s)
  r1 : Rmin ≤ 1152921504606846976
  r2 : Rmax ≤ 1152921504606846976
  r3 : 1 ≤ Rmax
  o1 : odd ≤ 1
  hodd : Go.bits .and .i64 ((m : Int) / 2048) 1 = (odd : Int)
  a : (Rmin + odd + 3) / 4 ≤ 10 * d0
  b : (Rmax - odd) / 4 / 10 = d0
set_option maxRecDepth 100000 in
set_option maxHeartbeats 8000000 in
theorem short_calls (m t p odd Rmin Rmax d0 : Nat) (H L : Int) (w : World) (h6 : 6 < w.heap.size) (e : Int) (he : e + 11 = -(t : Int)) (h3 : 2 ≤ t) (h89 : t ≤ 100) (hm0 : 9223372036854775808 < m) (hm1 : m ≤ 18446744073709549568) (hp1 : 1 ≤ p) (hp27 : p ≤ 30)
    (hp : -((t : Int)) * 78913 / 262144 = -(p : Int)) (hS : Sh w m p odd (m - 1024) (m + 1024) Rmin Rmax d0 H L (-(e + (p : Int) * 108853 / 32768 + 3))) :
    Calls Tryd.prog 36 #[.int .u64 (m : Int), .int .i64 e] w fun r w' => r = .returned (.tuple #[.int .u64 (d0 : Int), .int .i64 (-((p : Int) - 1))]) ∧ Below w.heap.size w w' := by
  obtain ⟨c0, c1, u1, u2, r1, r2, r3, o1, o2, ha, hb⟩ := hS
  have HB := Aside0.mk (Below.refl w.heap.size w)
  have hne : ¬ (m : Int) = 9223372036854775808 := by omega
  have hge : (-1085 : Int) ≤ e := by omega
  have e2 : ((m - 1024 : Nat) : Int) = (m : Int) - 1024 := by omega
  have e3 : ((m + 1024 : Nat) : Int) = (m : Int) + 1024 := by omega
  rw [e2] at u1
  rw [e3] at u2
  have U1 := Aside0.mk u1
  have U2 := Aside0.mk u2
  have C0 := Aside0.mk c0
  have C1 := Aside0.mk c1
  clear u1 u2 c0 c1
  go_enter Tryd.func36, Tryd.ntmps36
  go_wp2_with (first
    | (go_at_call 31; (with_reducible refine (log10_calls _ (-(p : Int)) _ ?h0 ?h1 ?h2).mono ?_); (case h0 => omega); (case h1 => omega); (case h2 => first | exact hp | (rw [he]; exact hp)); rintro r w2 ⟨rfl, h2⟩; obtain rfl := h2.symm)
    | (go_at_call 46; (with_reducible refine (log2_calls _ ((p : Int) * 108853 / 32768) _ ?h0 ?h1 rfl).mono ?_); (case h0 => omega); (case h1 => omega); rintro r w2 ⟨rfl, h2⟩; obtain rfl := h2.symm)
    | (go_at_call 45; (with_reducible refine (pre_calls w _ _ p 0 0 0 e ((p : Int) * 108853 / 32768) H L (IsS79.new w w 0 0 0 HB.out) (below_alloc HB.out _) h6 (by omega) (by omega) (by omega) (pw_cell_below (below_alloc HB.out _) C0.out) (pw_cell_below (below_alloc HB.out _) C1.out)).mono ?_); rintro r1 w1 ⟨rfl, hI1, hb1⟩; have HI := Aside0.mk hI1; have HB1 := Aside0.mk hb1; clear hI1 hb1)
    | (go_at_call 47; (with_reducible refine (uscale_calls _ Rmin _ _ _ _ w _ HI.out HB1.out U1.out).mono ?_); rintro r2 w2 ⟨rfl, hI2, hb2⟩; have HI2 := Aside0.mk hI2; have HB2 := Aside0.mk hb2; clear hI2 hb2)
    | (go_at_call 48; (with_reducible refine (nudge_calls Rmin _ ((Rmin : Int) + (odd : Int)) _ (by omega) (by omega) (by omega) (by omega) rfl).mono ?_); rintro r w2 ⟨rfl, h2⟩; obtain rfl := h2.symm)
    | (go_at_call 49; (with_reducible refine (ceil_calls' ((Rmin : Int) + (odd : Int)) (((Rmin + odd + 3) / 4 : Nat) : Int) _ (by omega) (by omega) (by omega)).mono ?_); rintro r w2 ⟨rfl, h2⟩; obtain rfl := h2.symm)
    | (go_at_call 47; (with_reducible refine (uscale_calls _ Rmax _ _ _ _ w _ HI2.out HB2.out U2.out).mono ?_); rintro r3 w3 ⟨rfl, hI3, hb3⟩; have HI3 := Aside0.mk hI3; have HB3 := Aside0.mk hb3; clear hI3 hb3)
    | (go_at_call 48; (with_reducible refine (nudge_calls Rmax _ ((Rmax - odd : Nat) : Int) _ (by omega) (by omega) (by omega) (by omega) (by omega)).mono ?_); rintro r w2 ⟨rfl, h2⟩; obtain rfl := h2.symm)
    | (go_at_call 50; (with_reducible refine (floor_calls (Rmax - odd) (((Rmax - odd) / 4 : Nat) : Int) _ (by omega) (by omega)).mono ?_); rintro r w2 ⟨rfl, h2⟩; obtain rfl := h2.symm)
    | fail)
  have hb' : (((Rmax - odd : Nat) : Int) / 4 / 10) = (d0 : Int) := by omega
  refine bodyPost_ret (results_tmp2 rfl _ _ _) rfl ⟨?_, HB3.out⟩
  show Ending.returned (.tuple #[.int .u64 (((Rmax - odd : Nat) : Int) / 4 / 10), .int .i64 (-((p : Int) - 1))]) = _
  rw [hb']
set_option maxRecDepth 100000 in
set_option maxHeartbeats 8000000 in
theorem short_two (t p Rmin Rmax d0 : Nat) (H L : Int) (w : World) (h6 : 6 < w.heap.size) (e : Int) (he : e + 11 = -(t : Int)) (h3 : 2 ≤ t) (h89 : t ≤ 100) (hp1 : 1 ≤ p) (hp27 : p ≤ 30)
    (hp : (-((t : Int)) * 631305 - 261663) / 2097152 = -(p : Int)) (hS : Sh w 9223372036854775808 p 0 9223372036854775296 9223372036854776832 Rmin Rmax d0 H L (-(e + (p : Int) * 108853 / 32768 + 3))) :
    Calls Tryd.prog 36 #[.int .u64 9223372036854775808, .int .i64 e] w fun r w' => r = .returned (.tuple #[.int .u64 (d0 : Int), .int .i64 (-((p : Int) - 1))]) ∧ Below w.heap.size w w' := by
  obtain ⟨c0, c1, u1, u2, r1, r2, r3, o1, o2, ha, hb⟩ := hS
  have HB := Aside0.mk (Below.refl w.heap.size w)
  have hge : (-1085 : Int) < e := by omega
  rw [show ((9223372036854775296 : Nat) : Int) = 9223372036854775296 from rfl] at u1
  rw [show ((9223372036854776832 : Nat) : Int) = 9223372036854776832 from rfl] at u2
  rw [show ((9223372036854775808 : Nat) : Int) = 9223372036854775808 from rfl] at o2
  have hz : Go.bits .and .i64 4503599627370496 1 = 0 := by decide +kernel
  have U1 := Aside0.mk u1
  have U2 := Aside0.mk u2
  have C0 := Aside0.mk c0
  have C1 := Aside0.mk c1
  clear u1 u2 c0 c1
  go_enter Tryd.func36, Tryd.ntmps36
  go_wp2_with (first
    | (go_at_call 44; (with_reducible refine (skew_calls _ (-(p : Int)) _ ?h0 ?h1 ?h2).mono ?_); (case h0 => omega); (case h1 => omega); (case h2 => first | exact hp | (rw [he]; exact hp)); rintro r w2 ⟨rfl, h2⟩; obtain rfl := h2.symm)
    | (go_at_call 46; (with_reducible refine (log2_calls _ ((p : Int) * 108853 / 32768) _ ?h0 ?h1 rfl).mono ?_); (case h0 => omega); (case h1 => omega); rintro r w2 ⟨rfl, h2⟩; obtain rfl := h2.symm)
    | (go_at_call 45; (with_reducible refine (pre_calls w _ _ p 0 0 0 e ((p : Int) * 108853 / 32768) H L (IsS79.new w w 0 0 0 HB.out) (below_alloc HB.out _) h6 (by omega) (by omega) (by omega) (pw_cell_below (below_alloc HB.out _) C0.out) (pw_cell_below (below_alloc HB.out _) C1.out)).mono ?_); rintro r1 w1 ⟨rfl, hI1, hb1⟩; have HI := Aside0.mk hI1; have HB1 := Aside0.mk hb1; clear hI1 hb1)
    | (go_at_call 47; (with_reducible refine (uscale_calls _ Rmin _ _ _ _ w _ HI.out HB1.out U1.out).mono ?_); rintro r2 w2 ⟨rfl, hI2, hb2⟩; have HI2 := Aside0.mk hI2; have HB2 := Aside0.mk hb2; clear hI2 hb2)
    | (go_at_call 48; (with_reducible refine (nudge_calls Rmin 0 (Rmin : Int) _ (by omega) (by omega) (by omega) (by omega) (by omega)).mono ?_); rintro r w2 ⟨rfl, h2⟩; obtain rfl := h2.symm)
    | (go_at_call 49; (with_reducible refine (ceil_calls Rmin (((Rmin + 0 + 3) / 4 : Nat) : Int) _ (by omega) (by omega)).mono ?_); rintro r w2 ⟨rfl, h2⟩; obtain rfl := h2.symm)
    | (go_at_call 47; (with_reducible refine (uscale_calls _ Rmax _ _ _ _ w _ HI2.out HB2.out U2.out).mono ?_); rintro r3 w3 ⟨rfl, hI3, hb3⟩; have HI3 := Aside0.mk hI3; have HB3 := Aside0.mk hb3; clear hI3 hb3)
    | (go_at_call 48; (with_reducible refine (nudge_calls Rmax 0 (Rmax : Int) _ (by omega) (by omega) (by omega) (by omega) (by omega)).mono ?_); rintro r w2 ⟨rfl, h2⟩; obtain rfl := h2.symm)
    | (go_at_call 50; (with_reducible refine (floor_calls Rmax ((Rmax / 4 : Nat) : Int) _ (by omega) (by omega)).mono ?_); rintro r w2 ⟨rfl, h2⟩; obtain rfl := h2.symm)
    | fail)
  have hb' : ((Rmax : Int) / 4 / 10) = (d0 : Int) := by omega
  refine bodyPost_ret (results_tmp2 rfl _ _ _) rfl ⟨?_, HB3.out⟩
  show Ending.returned (.tuple #[.int .u64 ((Rmax : Int) / 4 / 10), .int .i64 (-((p : Int) - 1))]) = _
  rw [hb']
end Go.Proofs.YtkcbalikahmeiaaDoor.Aft
