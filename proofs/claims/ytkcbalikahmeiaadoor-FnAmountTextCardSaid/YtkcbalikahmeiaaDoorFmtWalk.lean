/-
  fmtEFG at 'f': the letters of a number with a point.
-/
import Derived.Test.YtkcbalikahmeiaaDoorDigWalk
namespace Go.Proofs.YtkcbalikahmeiaaDoor.Aft
open Go.RowKit Go.Proofs.YtkcbalikahmeiaaDoor.Hand Go.Proofs.YtkcbalikahmeiaaDoorW.PrintWords Go.Proofs.YtkcbalikahmeiaaDoorW.PrintLast Go.Proofs.YtkcbalikahmeiaaDoorW.PrintMore
attribute [local go_sem] max2_int min2_int

theorem info5 : (Tryd.prog.info? 5).map (fun i => (i.zero, i.size, i.bytes)) = some (some (.int .u8 0), 1, 1) := by kernel_rfl
/-- What is written so far: a row of the call's own; the buffer is as it was; nothing below B has changed. -/
structure DS (B gd gb : Nat) (l : List Int) (T : TypeId) (w0 W : World) (v : Value) (xs : List Int) : Prop where
  R : (Kd.int .u8).R 5 W B (fun k => k = gd ∨ w0.heap.size ≤ k) v xs
  blk : W.heap[gb]? = some (.cells (bufC l) T (0, 0))
  below : Below B w0 W
  size : w0.heap.size ≤ W.heap.size
structure Sep (B gd gb : Nat) (w0 : World) : Prop where
  b : B ≤ gb
  ne : gb ≠ gd
  lt : gb < w0.heap.size
  bs : B ≤ w0.heap.size
section
variable {ops : Array Oper} {rest : List Oper} {o : Oper} {a : Act} {Q : Exit → Act → World → Prop} {W w0 : World} {B gd gb : Nat} {l : List Int} {T : TypeId}
theorem app1 (hgd : o.guard = none) (s x : Operand) (ho : o.op = .call { callee := .builtin .append, args := #[s, x], argTypes := #[31, 31] }) (v : Value) (xs : List Int) (y : Int) (hs : a.eval s = v) (hx : a.eval x = .slice (some ⟨W.heap.size, 0, none⟩) 1 1)
    (hS : Sep B gd gb w0) (hD : DS B gd gb l T w0 W v xs) (hl : xs.length ≤ 1000) (h : ∀ v1 w1, DS B gd gb l T w0 w1 v1 (xs ++ [y]) → wpList Tryd.prog ops Q rest (a.put o.dst v1) w1) :
    wpList Tryd.prog ops Q (o :: rest) a (W.alloc (.cells #[.int .u8 y] 5)) := by
  refine Kd.R_append (Kd.int .u8) (w0 := w0) B hgd s x 31 5 (.int .u8 0) 1 ho Tryd.underlying31 info5 rfl (by decide) (by decide) v xs y [.int .u8 y] (fun k => k = gd ∨ w0.heap.size ≤ k) (fun _ => False) hs hx rfl (fun _ hk => hk.elim) (fun k hk => .inr (Nat.le_trans hD.size hk)) hD.R hD.below (Nat.le_trans hS.bs hD.size) (by omega) ?_
  intro v1 w1 hr hb hg _
  refine h v1 w1 ⟨hr, ?_, hb, Nat.le_trans hD.size hg.size⟩
  have hlt : gb < W.heap.size := Nat.lt_of_lt_of_le hS.lt hD.size
  refine (hg.block gb hlt fun e => ?_).trans hD.blk
  have hlt0 := hS.lt
  rcases hD.R.1 gb e.symm with h | h
  · exact hS.ne h
  · omega
end
theorem DS.cell {B gd gb : Nat} {l : List Int} {T : TypeId} {w0 W : World} {v : Value} {xs : List Int} (h : DS B gd gb l T w0 W v xs) (i : Nat) (hi : i < l.length) : W.cell? ⟨gb, i, none⟩ = some (.int .u8 (l.getD i 0)) := by
  rw [blk_cell h.blk]
  exact bufC_at l i hi
theorem take_snoc (l : List Int) (i : Nat) (h : i < l.length) : l.take i ++ [l.getD i 0] = l.take (i + 1) := by
  rw [List.take_add_one, List.getD_eq_getElem?_getD, List.getElem?_eq_getElem h]
  rfl
theorem take_snoc' (l : List Int) (i : Nat) (h : i < l.length) : l.take i ++ [l[i]] = l.take (i + 1) := by
  rw [List.take_add_one, List.getElem?_eq_getElem h]
  rfl
theorem rep_snoc (i : Nat) : List.replicate i (48 : Int) ++ [48] = List.replicate (i + 1) 48 := List.replicate_succ'.symm
theorem drop_snoc (l : List Int) (off i : Nat) (h : off + i < l.length) : (l.drop off).take i ++ [l[off + i]] = (l.drop off).take (i + 1) := by
  have h2 : i < (l.drop off).length := by rw [List.length_drop]; omega
  rw [← take_snoc' (l.drop off) i h2, List.getElem_drop]
set_option maxRecDepth 100000 in
set_option maxHeartbeats 16000000 in
/-- A number with a whole part. -/
theorem fmt_pos (B gd gb L mm zz lz off m tz : Nat) (dp nd q : Int) (sh : Bool) (l : List Int) (T : TypeId) (v : Value) (w : World) (hS : Sep B gd gb w) (hD : DS B gd gb l T w w v []) (hll : l.length = L) (hL : L ≤ 40) (hdp0 : -100 ≤ dp) (hdp1 : dp ≤ 100) (hnd0 : 0 ≤ nd) (hnd : nd ≤ L) (hq0 : -100 ≤ q) (hq1 : q ≤ 100) (hdp : 0 < dp) (hmm : min nd dp = (mm : Int)) (hzz : dp - mm = (zz : Int)) (hml : mm ≤ L) (hzl : zz ≤ 40)
    (hf : 0 < q → min q (max 0 (-dp)) = (lz : Int) ∧ dp + lz = (off : Int) ∧ min (q - lz) (max 0 (nd - off)) = (m : Int) ∧ max 0 (q - lz - m) = (tz : Int) ∧ off + m ≤ L ∧ lz ≤ 40 ∧ tz ≤ 40) :
    Calls Tryd.prog 27 #[v, .bool false, .slice (some ⟨gb, 0, none⟩) L L, .int .i64 dp, .int .i64 nd, .int .i64 q, .int .u8 102, .bool sh] w fun e w' =>
      ∃ v1, e = .returned v1 ∧ DS B gd gb l T w w' v1 (([] : List Int) ++ (l.take mm ++ List.replicate zz 48) ++ (if 0 < q then 46 :: (List.replicate lz 48 ++ (l.drop off).take m ++ List.replicate tz 48) else [])) := by
  have HS := Aside0.mk hS
  have HD := Aside0.mk hD
  have HLL := Aside0.mk hll
  have HF := Aside0.mk hf
  have hmmL : (mm : Int) ≤ (L : Int) := by omega
  clear hS hD hll hf
  go_enter Tryd.func27, Tryd.ntmps27
  go_wp2_with fail
  go_loopw [0, 25, 191] (fun v0 _ vi wr => ∃ i : Nat, vi = .int .i64 i ∧ i ≤ mm ∧ Aside0 (DS B gd gb l T w wr v0 (([] : List Int) ++ l.take i))) (fun _ _ vi _ => mm - (RowKit.intOf vi).toNat)
  case atStart => exact ⟨0, rfl, Nat.zero_le _, ⟨by simpa using HD.out⟩⟩
  clear HD
  obtain ⟨i, rfl, hi, HX⟩ := hrel
  by_cases hlt : (i : Int) < (mm : Int)
  · have hil : i < l.length := by rw [HLL.out]; omega
    have kc := HX.out.cell i hil
    go_wp2_with (first
      | ((with_reducible refine gate_builtin (b := .append) (xs := #[.tmp 195, .tmp 197]) rfl ?_); refine app1 rfl (.tmp 195) (.tmp 197) rfl _ _ _ rfl rfl HS.out HX.out (by first | (simp; done) | (simp; omega)) ?_; intro v1 w1 hD1; have HY := Aside0.mk hD1; clear hD1; clear HX)
      | fail)
    go_roundw
    case rel => exact ⟨i + 1, by go_num, by omega, ⟨by have h9 := HY.out; rwa [List.append_assoc, take_snoc'] at h9⟩⟩
    case measure => first | (simp [RowKit.intOf]; done) | (simp [RowKit.intOf]; omega)
  · have hie : mm = i := by omega
    subst hie
    clear hlt hi
    go_wp2_with fail
    go_loopw [0, 203] (fun v0 vi wr => ∃ i : Nat, vi = .int .i64 i ∧ i ≤ zz ∧ Aside0 (DS B gd gb l T w wr v0 ((([] : List Int) ++ l.take mm) ++ List.replicate i 48))) (fun _ vi _ => zz - (RowKit.intOf vi).toNat)
    case atStart => exact ⟨0, rfl, Nat.zero_le _, ⟨by simpa using HX.out⟩⟩
    clear HX
    obtain ⟨i, rfl, hi, HX⟩ := hrel
    by_cases hlt : (i : Int) < (zz : Int)
    · skip
      go_wp2_with (first
        | ((with_reducible refine gate_builtin (b := .append) (xs := #[.tmp 205, .tmp 206]) rfl ?_); refine app1 rfl (.tmp 205) (.tmp 206) rfl _ _ _ rfl rfl HS.out HX.out (by first | (simp; done) | (simp; omega)) ?_; intro v1 w1 hD1; have HY := Aside0.mk hD1; clear hD1; clear HX)
        | fail)
      go_roundw
      case rel => exact ⟨i + 1, by go_num, by omega, ⟨by have h9 := HY.out; rwa [List.append_assoc, rep_snoc] at h9⟩⟩
      case measure => first | (simp [RowKit.intOf]; done) | (simp [RowKit.intOf]; omega)
    · have hie : zz = i := by omega
      subst hie
      clear hlt hi
      by_cases hq : 0 < q
      · have hf1 := HF.out hq
        clear HF
        obtain ⟨f1, f2, f3, f4, f5, f6, f7⟩ := hf1
        go_wp2_with (first
          | ((with_reducible refine gate_builtin (b := .append) (xs := #[.tmp 214, .tmp 215]) rfl ?_); refine app1 rfl (.tmp 214) (.tmp 215) rfl _ _ _ rfl rfl HS.out HX.out (by first | (simp; done) | (simp; omega)) ?_; intro v1 w1 hD1; have HP := Aside0.mk hD1; clear hD1; clear HX)
          | fail)
        go_loopw [0, 240] (fun v0 vi wr => ∃ i : Nat, vi = .int .i64 i ∧ i ≤ lz ∧ Aside0 (DS B gd gb l T w wr v0 (((([] : List Int) ++ (l.take mm ++ List.replicate zz 48)) ++ [46]) ++ List.replicate i 48))) (fun _ vi _ => lz - (RowKit.intOf vi).toNat)
        case atStart => exact ⟨0, rfl, Nat.zero_le _, ⟨by simpa using HP.out⟩⟩
        clear HP
        obtain ⟨i, rfl, hi, HX⟩ := hrel
        by_cases hlt : (i : Int) < (lz : Int)
        · exfalso; omega
        · have hie : lz = i := by omega
          subst hie
          clear hlt hi
          go_wp2_with fail
          go_loopw [0, 247] (fun v0 vi wr => ∃ i : Nat, vi = .int .i64 i ∧ i ≤ m ∧ Aside0 (DS B gd gb l T w wr v0 ((((([] : List Int) ++ (l.take mm ++ List.replicate zz 48)) ++ [46]) ++ List.replicate lz 48) ++ (l.drop off).take i))) (fun _ vi _ => m - (RowKit.intOf vi).toNat)
          case atStart => exact ⟨0, rfl, Nat.zero_le _, ⟨by simpa using HX.out⟩⟩
          clear HX
          obtain ⟨i, rfl, hi, HX⟩ := hrel
          by_cases hlt : (i : Int) < (m : Int)
          · have hil : off + i < l.length := by rw [HLL.out]; omega
            have hoL : off + i < L := by omega
            have kc := HX.out.cell (off + i) hil
            go_wp2_with (first
              | ((with_reducible refine gate_builtin (b := .append) (xs := #[.tmp 250, .tmp 257]) rfl ?_); refine app1 rfl (.tmp 250) (.tmp 257) rfl _ _ _ rfl rfl HS.out HX.out (by first | (simp; done) | (simp; omega)) ?_; intro v1 w1 hD1; have HY := Aside0.mk hD1; clear hD1; clear HX)
              | fail)
            go_roundw
            case rel => exact ⟨i + 1, by go_num, by omega, ⟨by have h9 := HY.out; rwa [List.append_assoc, drop_snoc] at h9⟩⟩
            case measure => first | (simp [RowKit.intOf]; done) | (simp [RowKit.intOf]; omega)
          · have hie : m = i := by omega
            subst hie
            clear hlt hi
            go_wp2_with fail
            go_loopw [0, 261] (fun v0 vi wr => ∃ i : Nat, vi = .int .i64 i ∧ i ≤ tz ∧ Aside0 (DS B gd gb l T w wr v0 (((((([] : List Int) ++ (l.take mm ++ List.replicate zz 48)) ++ [46]) ++ List.replicate lz 48) ++ (l.drop off).take m) ++ List.replicate i 48))) (fun _ vi _ => tz - (RowKit.intOf vi).toNat)
            case atStart => exact ⟨0, rfl, Nat.zero_le _, ⟨by simpa using HX.out⟩⟩
            clear HX
            obtain ⟨i, rfl, hi, HX⟩ := hrel
            by_cases hlt : (i : Int) < (tz : Int)
            · skip
              go_wp2_with (first
                | ((with_reducible refine gate_builtin (b := .append) (xs := #[.tmp 263, .tmp 264]) rfl ?_); refine app1 rfl (.tmp 263) (.tmp 264) rfl _ _ _ rfl rfl HS.out HX.out (by first | (simp; done) | (simp; omega)) ?_; intro v1 w1 hD1; have HY := Aside0.mk hD1; clear hD1; clear HX)
                | fail)
              go_roundw
              case rel => exact ⟨i + 1, by go_num, by omega, ⟨by have h9 := HY.out; rwa [List.append_assoc, rep_snoc] at h9⟩⟩
              case measure => first | (simp [RowKit.intOf]; done) | (simp [RowKit.intOf]; omega)
            · have hie : tz = i := by omega
              subst hie
              clear hlt hi
              go_wp2_with fail
              refine bodyPost_ret (results_tmp rfl _ _ _) rfl ⟨_, rfl, ?_⟩
              have h9 := HX.out
              simpa using h9
      · clear HF
        go_wp2_with fail
        refine bodyPost_ret (results_tmp rfl _ _ _) rfl ⟨_, rfl, ?_⟩
        have h9 := HX.out
        simpa using h9
set_option maxRecDepth 100000 in
set_option maxHeartbeats 16000000 in
/-- A number with a whole part, below zero. -/
theorem fmt_pos_neg (B gd gb L mm zz lz off m tz : Nat) (dp nd q : Int) (sh : Bool) (l : List Int) (T : TypeId) (v : Value) (w : World) (hS : Sep B gd gb w) (hD : DS B gd gb l T w w v []) (hll : l.length = L) (hL : L ≤ 40) (hdp0 : -100 ≤ dp) (hdp1 : dp ≤ 100) (hnd0 : 0 ≤ nd) (hnd : nd ≤ L) (hq0 : -100 ≤ q) (hq1 : q ≤ 100) (hdp : 0 < dp) (hmm : min nd dp = (mm : Int)) (hzz : dp - mm = (zz : Int)) (hml : mm ≤ L) (hzl : zz ≤ 40)
    (hf : 0 < q → min q (max 0 (-dp)) = (lz : Int) ∧ dp + lz = (off : Int) ∧ min (q - lz) (max 0 (nd - off)) = (m : Int) ∧ max 0 (q - lz - m) = (tz : Int) ∧ off + m ≤ L ∧ lz ≤ 40 ∧ tz ≤ 40) :
    Calls Tryd.prog 27 #[v, .bool true, .slice (some ⟨gb, 0, none⟩) L L, .int .i64 dp, .int .i64 nd, .int .i64 q, .int .u8 102, .bool sh] w fun e w' =>
      ∃ v1, e = .returned v1 ∧ DS B gd gb l T w w' v1 (([45] : List Int) ++ (l.take mm ++ List.replicate zz 48) ++ (if 0 < q then 46 :: (List.replicate lz 48 ++ (l.drop off).take m ++ List.replicate tz 48) else [])) := by
  have HS := Aside0.mk hS
  have HD := Aside0.mk hD
  have HLL := Aside0.mk hll
  have HF := Aside0.mk hf
  have hmmL : (mm : Int) ≤ (L : Int) := by omega
  clear hS hD hll hf
  go_enter Tryd.func27, Tryd.ntmps27
  go_wp2_with (first
    | ((with_reducible refine gate_builtin (b := .append) (xs := #[.tmp 179, .tmp 180]) rfl ?_); refine app1 rfl (.tmp 179) (.tmp 180) rfl _ _ _ rfl rfl HS.out HD.out (by first | (simp; done) | (simp; omega)) ?_; intro v1 w1 hD1; have H0 := Aside0.mk hD1; clear hD1; clear HD)
    | fail)
  go_loopw [0, 25, 191] (fun v0 _ vi wr => ∃ i : Nat, vi = .int .i64 i ∧ i ≤ mm ∧ Aside0 (DS B gd gb l T w wr v0 (([45] : List Int) ++ l.take i))) (fun _ _ vi _ => mm - (RowKit.intOf vi).toNat)
  case atStart => exact ⟨0, rfl, Nat.zero_le _, ⟨by simpa using H0.out⟩⟩
  clear H0
  obtain ⟨i, rfl, hi, HX⟩ := hrel
  by_cases hlt : (i : Int) < (mm : Int)
  · have hil : i < l.length := by rw [HLL.out]; omega
    have kc := HX.out.cell i hil
    go_wp2_with (first
      | ((with_reducible refine gate_builtin (b := .append) (xs := #[.tmp 195, .tmp 197]) rfl ?_); refine app1 rfl (.tmp 195) (.tmp 197) rfl _ _ _ rfl rfl HS.out HX.out (by first | (simp; done) | (simp; omega)) ?_; intro v1 w1 hD1; have HY := Aside0.mk hD1; clear hD1; clear HX)
      | fail)
    go_roundw
    case rel => exact ⟨i + 1, by go_num, by omega, ⟨by have h9 := HY.out; rwa [List.append_assoc, take_snoc'] at h9⟩⟩
    case measure => first | (simp [RowKit.intOf]; done) | (simp [RowKit.intOf]; omega)
  · have hie : mm = i := by omega
    subst hie
    clear hlt hi
    go_wp2_with fail
    go_loopw [0, 203] (fun v0 vi wr => ∃ i : Nat, vi = .int .i64 i ∧ i ≤ zz ∧ Aside0 (DS B gd gb l T w wr v0 ((([45] : List Int) ++ l.take mm) ++ List.replicate i 48))) (fun _ vi _ => zz - (RowKit.intOf vi).toNat)
    case atStart => exact ⟨0, rfl, Nat.zero_le _, ⟨by simpa using HX.out⟩⟩
    clear HX
    obtain ⟨i, rfl, hi, HX⟩ := hrel
    by_cases hlt : (i : Int) < (zz : Int)
    · skip
      go_wp2_with (first
        | ((with_reducible refine gate_builtin (b := .append) (xs := #[.tmp 205, .tmp 206]) rfl ?_); refine app1 rfl (.tmp 205) (.tmp 206) rfl _ _ _ rfl rfl HS.out HX.out (by first | (simp; done) | (simp; omega)) ?_; intro v1 w1 hD1; have HY := Aside0.mk hD1; clear hD1; clear HX)
        | fail)
      go_roundw
      case rel => exact ⟨i + 1, by go_num, by omega, ⟨by have h9 := HY.out; rwa [List.append_assoc, rep_snoc] at h9⟩⟩
      case measure => first | (simp [RowKit.intOf]; done) | (simp [RowKit.intOf]; omega)
    · have hie : zz = i := by omega
      subst hie
      clear hlt hi
      by_cases hq : 0 < q
      · have hf1 := HF.out hq
        clear HF
        obtain ⟨f1, f2, f3, f4, f5, f6, f7⟩ := hf1
        go_wp2_with (first
          | ((with_reducible refine gate_builtin (b := .append) (xs := #[.tmp 214, .tmp 215]) rfl ?_); refine app1 rfl (.tmp 214) (.tmp 215) rfl _ _ _ rfl rfl HS.out HX.out (by first | (simp; done) | (simp; omega)) ?_; intro v1 w1 hD1; have HP := Aside0.mk hD1; clear hD1; clear HX)
          | fail)
        go_loopw [0, 240] (fun v0 vi wr => ∃ i : Nat, vi = .int .i64 i ∧ i ≤ lz ∧ Aside0 (DS B gd gb l T w wr v0 (((([45] : List Int) ++ (l.take mm ++ List.replicate zz 48)) ++ [46]) ++ List.replicate i 48))) (fun _ vi _ => lz - (RowKit.intOf vi).toNat)
        case atStart => exact ⟨0, rfl, Nat.zero_le _, ⟨by simpa using HP.out⟩⟩
        clear HP
        obtain ⟨i, rfl, hi, HX⟩ := hrel
        by_cases hlt : (i : Int) < (lz : Int)
        · exfalso; omega
        · have hie : lz = i := by omega
          subst hie
          clear hlt hi
          go_wp2_with fail
          go_loopw [0, 247] (fun v0 vi wr => ∃ i : Nat, vi = .int .i64 i ∧ i ≤ m ∧ Aside0 (DS B gd gb l T w wr v0 ((((([45] : List Int) ++ (l.take mm ++ List.replicate zz 48)) ++ [46]) ++ List.replicate lz 48) ++ (l.drop off).take i))) (fun _ vi _ => m - (RowKit.intOf vi).toNat)
          case atStart => exact ⟨0, rfl, Nat.zero_le _, ⟨by simpa using HX.out⟩⟩
          clear HX
          obtain ⟨i, rfl, hi, HX⟩ := hrel
          by_cases hlt : (i : Int) < (m : Int)
          · have hil : off + i < l.length := by rw [HLL.out]; omega
            have hoL : off + i < L := by omega
            have kc := HX.out.cell (off + i) hil
            go_wp2_with (first
              | ((with_reducible refine gate_builtin (b := .append) (xs := #[.tmp 250, .tmp 257]) rfl ?_); refine app1 rfl (.tmp 250) (.tmp 257) rfl _ _ _ rfl rfl HS.out HX.out (by first | (simp; done) | (simp; omega)) ?_; intro v1 w1 hD1; have HY := Aside0.mk hD1; clear hD1; clear HX)
              | fail)
            go_roundw
            case rel => exact ⟨i + 1, by go_num, by omega, ⟨by have h9 := HY.out; rwa [List.append_assoc, drop_snoc] at h9⟩⟩
            case measure => first | (simp [RowKit.intOf]; done) | (simp [RowKit.intOf]; omega)
          · have hie : m = i := by omega
            subst hie
            clear hlt hi
            go_wp2_with fail
            go_loopw [0, 261] (fun v0 vi wr => ∃ i : Nat, vi = .int .i64 i ∧ i ≤ tz ∧ Aside0 (DS B gd gb l T w wr v0 (((((([45] : List Int) ++ (l.take mm ++ List.replicate zz 48)) ++ [46]) ++ List.replicate lz 48) ++ (l.drop off).take m) ++ List.replicate i 48))) (fun _ vi _ => tz - (RowKit.intOf vi).toNat)
            case atStart => exact ⟨0, rfl, Nat.zero_le _, ⟨by simpa using HX.out⟩⟩
            clear HX
            obtain ⟨i, rfl, hi, HX⟩ := hrel
            by_cases hlt : (i : Int) < (tz : Int)
            · skip
              go_wp2_with (first
                | ((with_reducible refine gate_builtin (b := .append) (xs := #[.tmp 263, .tmp 264]) rfl ?_); refine app1 rfl (.tmp 263) (.tmp 264) rfl _ _ _ rfl rfl HS.out HX.out (by first | (simp; done) | (simp; omega)) ?_; intro v1 w1 hD1; have HY := Aside0.mk hD1; clear hD1; clear HX)
                | fail)
              go_roundw
              case rel => exact ⟨i + 1, by go_num, by omega, ⟨by have h9 := HY.out; rwa [List.append_assoc, rep_snoc] at h9⟩⟩
              case measure => first | (simp [RowKit.intOf]; done) | (simp [RowKit.intOf]; omega)
            · have hie : tz = i := by omega
              subst hie
              clear hlt hi
              go_wp2_with fail
              refine bodyPost_ret (results_tmp rfl _ _ _) rfl ⟨_, rfl, ?_⟩
              have h9 := HX.out
              simpa using h9
      · clear HF
        go_wp2_with fail
        refine bodyPost_ret (results_tmp rfl _ _ _) rfl ⟨_, rfl, ?_⟩
        have h9 := HX.out
        simpa using h9
set_option maxRecDepth 100000 in
set_option maxHeartbeats 16000000 in
/-- A number without a whole part. -/
theorem fmt_small (B gd gb L lz off m tz : Nat) (dp nd q : Int) (sh : Bool) (l : List Int) (T : TypeId) (v : Value) (w : World) (hS : Sep B gd gb w) (hD : DS B gd gb l T w w v []) (hll : l.length = L) (hL : L ≤ 40) (hdp0 : -100 ≤ dp) (hdp1 : dp ≤ 100) (hnd0 : 0 ≤ nd) (hnd : nd ≤ L) (hq0 : -100 ≤ q) (hq1 : q ≤ 100) (hdp : dp ≤ 0)
    (hf : 0 < q → min q (max 0 (-dp)) = (lz : Int) ∧ dp + lz = (off : Int) ∧ min (q - lz) (max 0 (nd - off)) = (m : Int) ∧ max 0 (q - lz - m) = (tz : Int) ∧ off + m ≤ L ∧ lz ≤ 40 ∧ tz ≤ 40) :
    Calls Tryd.prog 27 #[v, .bool false, .slice (some ⟨gb, 0, none⟩) L L, .int .i64 dp, .int .i64 nd, .int .i64 q, .int .u8 102, .bool sh] w fun e w' =>
      ∃ v1, e = .returned v1 ∧ DS B gd gb l T w w' v1 (([] : List Int) ++ [48] ++ (if 0 < q then 46 :: (List.replicate lz 48 ++ (l.drop off).take m ++ List.replicate tz 48) else [])) := by
  have HS := Aside0.mk hS
  have HD := Aside0.mk hD
  have HLL := Aside0.mk hll
  have HF := Aside0.mk hf
  clear hS hD hll hf
  go_enter Tryd.func27, Tryd.ntmps27
  by_cases hq : 0 < q
  · have hf1 := HF.out hq
    clear HF
    obtain ⟨f1, f2, f3, f4, f5, f6, f7⟩ := hf1
    go_wp2_with (first
      | ((with_reducible refine gate_builtin (b := .append) (xs := #[.tmp 209, .tmp 210]) rfl ?_); refine app1 rfl (.tmp 209) (.tmp 210) rfl _ _ _ rfl rfl HS.out HD.out (by first | (simp; done) | (simp; omega)) ?_; intro v1 w1 hD1; have HX := Aside0.mk hD1; clear hD1; clear HD)
      | ((with_reducible refine gate_builtin (b := .append) (xs := #[.tmp 214, .tmp 215]) rfl ?_); refine app1 rfl (.tmp 214) (.tmp 215) rfl _ _ _ rfl rfl HS.out HX.out (by first | (simp; done) | (simp; omega)) ?_; intro v1 w1 hD1; have HP := Aside0.mk hD1; clear hD1; clear HX)
      | fail)
    go_loopw [0, 240] (fun v0 vi wr => ∃ i : Nat, vi = .int .i64 i ∧ i ≤ lz ∧ Aside0 (DS B gd gb l T w wr v0 (((([] : List Int) ++ [48]) ++ [46]) ++ List.replicate i 48))) (fun _ vi _ => lz - (RowKit.intOf vi).toNat)
    case atStart => exact ⟨0, rfl, Nat.zero_le _, ⟨by simpa using HP.out⟩⟩
    clear HP
    obtain ⟨i, rfl, hi, HX⟩ := hrel
    by_cases hlt : (i : Int) < (lz : Int)
    · skip
      go_wp2_with (first
        | ((with_reducible refine gate_builtin (b := .append) (xs := #[.tmp 242, .tmp 243]) rfl ?_); refine app1 rfl (.tmp 242) (.tmp 243) rfl _ _ _ rfl rfl HS.out HX.out (by first | (simp; done) | (simp; omega)) ?_; intro v1 w1 hD1; have HY := Aside0.mk hD1; clear hD1; clear HX)
        | fail)
      go_roundw
      case rel => exact ⟨i + 1, by go_num, by omega, ⟨by have h9 := HY.out; rwa [List.append_assoc, rep_snoc] at h9⟩⟩
      case measure => first | (simp [RowKit.intOf]; done) | (simp [RowKit.intOf]; omega)
    · have hie : lz = i := by omega
      subst hie
      clear hlt hi
      go_wp2_with fail
      go_loopw [0, 247] (fun v0 vi wr => ∃ i : Nat, vi = .int .i64 i ∧ i ≤ m ∧ Aside0 (DS B gd gb l T w wr v0 ((((([] : List Int) ++ [48]) ++ [46]) ++ List.replicate lz 48) ++ (l.drop off).take i))) (fun _ vi _ => m - (RowKit.intOf vi).toNat)
      case atStart => exact ⟨0, rfl, Nat.zero_le _, ⟨by simpa using HX.out⟩⟩
      clear HX
      obtain ⟨i, rfl, hi, HX⟩ := hrel
      by_cases hlt : (i : Int) < (m : Int)
      · have hil : off + i < l.length := by rw [HLL.out]; omega
        have hoL : off + i < L := by omega
        have kc := HX.out.cell (off + i) hil
        go_wp2_with (first
          | ((with_reducible refine gate_builtin (b := .append) (xs := #[.tmp 250, .tmp 257]) rfl ?_); refine app1 rfl (.tmp 250) (.tmp 257) rfl _ _ _ rfl rfl HS.out HX.out (by first | (simp; done) | (simp; omega)) ?_; intro v1 w1 hD1; have HY := Aside0.mk hD1; clear hD1; clear HX)
          | fail)
        go_roundw
        case rel => exact ⟨i + 1, by go_num, by omega, ⟨by have h9 := HY.out; rwa [List.append_assoc, drop_snoc] at h9⟩⟩
        case measure => first | (simp [RowKit.intOf]; done) | (simp [RowKit.intOf]; omega)
      · have hie : m = i := by omega
        subst hie
        clear hlt hi
        go_wp2_with fail
        go_loopw [0, 261] (fun v0 vi wr => ∃ i : Nat, vi = .int .i64 i ∧ i ≤ tz ∧ Aside0 (DS B gd gb l T w wr v0 (((((([] : List Int) ++ [48]) ++ [46]) ++ List.replicate lz 48) ++ (l.drop off).take m) ++ List.replicate i 48))) (fun _ vi _ => tz - (RowKit.intOf vi).toNat)
        case atStart => exact ⟨0, rfl, Nat.zero_le _, ⟨by simpa using HX.out⟩⟩
        clear HX
        obtain ⟨i, rfl, hi, HX⟩ := hrel
        by_cases hlt : (i : Int) < (tz : Int)
        · skip
          go_wp2_with (first
            | ((with_reducible refine gate_builtin (b := .append) (xs := #[.tmp 263, .tmp 264]) rfl ?_); refine app1 rfl (.tmp 263) (.tmp 264) rfl _ _ _ rfl rfl HS.out HX.out (by first | (simp; done) | (simp; omega)) ?_; intro v1 w1 hD1; have HY := Aside0.mk hD1; clear hD1; clear HX)
            | fail)
          go_roundw
          case rel => exact ⟨i + 1, by go_num, by omega, ⟨by have h9 := HY.out; rwa [List.append_assoc, rep_snoc] at h9⟩⟩
          case measure => first | (simp [RowKit.intOf]; done) | (simp [RowKit.intOf]; omega)
        · have hie : tz = i := by omega
          subst hie
          clear hlt hi
          go_wp2_with fail
          refine bodyPost_ret (results_tmp rfl _ _ _) rfl ⟨_, rfl, ?_⟩
          have h9 := HX.out
          simpa using h9
  · clear HF
    go_wp2_with (first
      | ((with_reducible refine gate_builtin (b := .append) (xs := #[.tmp 209, .tmp 210]) rfl ?_); refine app1 rfl (.tmp 209) (.tmp 210) rfl _ _ _ rfl rfl HS.out HD.out (by first | (simp; done) | (simp; omega)) ?_; intro v1 w1 hD1; have HX := Aside0.mk hD1; clear hD1; clear HD)
      | fail)
    refine bodyPost_ret (results_tmp rfl _ _ _) rfl ⟨_, rfl, ?_⟩
    have h9 := HX.out
    simpa using h9
set_option maxRecDepth 100000 in
set_option maxHeartbeats 16000000 in
/-- A number without a whole part, below zero. -/
theorem fmt_small_neg (B gd gb L lz off m tz : Nat) (dp nd q : Int) (sh : Bool) (l : List Int) (T : TypeId) (v : Value) (w : World) (hS : Sep B gd gb w) (hD : DS B gd gb l T w w v []) (hll : l.length = L) (hL : L ≤ 40) (hdp0 : -100 ≤ dp) (hdp1 : dp ≤ 100) (hnd0 : 0 ≤ nd) (hnd : nd ≤ L) (hq0 : -100 ≤ q) (hq1 : q ≤ 100) (hdp : dp ≤ 0)
    (hf : 0 < q → min q (max 0 (-dp)) = (lz : Int) ∧ dp + lz = (off : Int) ∧ min (q - lz) (max 0 (nd - off)) = (m : Int) ∧ max 0 (q - lz - m) = (tz : Int) ∧ off + m ≤ L ∧ lz ≤ 40 ∧ tz ≤ 40) :
    Calls Tryd.prog 27 #[v, .bool true, .slice (some ⟨gb, 0, none⟩) L L, .int .i64 dp, .int .i64 nd, .int .i64 q, .int .u8 102, .bool sh] w fun e w' =>
      ∃ v1, e = .returned v1 ∧ DS B gd gb l T w w' v1 (([45] : List Int) ++ [48] ++ (if 0 < q then 46 :: (List.replicate lz 48 ++ (l.drop off).take m ++ List.replicate tz 48) else [])) := by
  have HS := Aside0.mk hS
  have HD := Aside0.mk hD
  have HLL := Aside0.mk hll
  have HF := Aside0.mk hf
  clear hS hD hll hf
  go_enter Tryd.func27, Tryd.ntmps27
  by_cases hq : 0 < q
  · have hf1 := HF.out hq
    clear HF
    obtain ⟨f1, f2, f3, f4, f5, f6, f7⟩ := hf1
    go_wp2_with (first
      | ((with_reducible refine gate_builtin (b := .append) (xs := #[.tmp 179, .tmp 180]) rfl ?_); refine app1 rfl (.tmp 179) (.tmp 180) rfl _ _ _ rfl rfl HS.out HD.out (by first | (simp; done) | (simp; omega)) ?_; intro v1 w1 hD1; have H0 := Aside0.mk hD1; clear hD1; clear HD)
      | ((with_reducible refine gate_builtin (b := .append) (xs := #[.tmp 209, .tmp 210]) rfl ?_); refine app1 rfl (.tmp 209) (.tmp 210) rfl _ _ _ rfl rfl HS.out H0.out (by first | (simp; done) | (simp; omega)) ?_; intro v1 w1 hD1; have HX := Aside0.mk hD1; clear hD1; clear H0)
      | ((with_reducible refine gate_builtin (b := .append) (xs := #[.tmp 214, .tmp 215]) rfl ?_); refine app1 rfl (.tmp 214) (.tmp 215) rfl _ _ _ rfl rfl HS.out HX.out (by first | (simp; done) | (simp; omega)) ?_; intro v1 w1 hD1; have HP := Aside0.mk hD1; clear hD1; clear HX)
      | fail)
    go_loopw [0, 240] (fun v0 vi wr => ∃ i : Nat, vi = .int .i64 i ∧ i ≤ lz ∧ Aside0 (DS B gd gb l T w wr v0 (((([45] : List Int) ++ [48]) ++ [46]) ++ List.replicate i 48))) (fun _ vi _ => lz - (RowKit.intOf vi).toNat)
    case atStart => exact ⟨0, rfl, Nat.zero_le _, ⟨by simpa using HP.out⟩⟩
    clear HP
    obtain ⟨i, rfl, hi, HX⟩ := hrel
    by_cases hlt : (i : Int) < (lz : Int)
    · skip
      go_wp2_with (first
        | ((with_reducible refine gate_builtin (b := .append) (xs := #[.tmp 242, .tmp 243]) rfl ?_); refine app1 rfl (.tmp 242) (.tmp 243) rfl _ _ _ rfl rfl HS.out HX.out (by first | (simp; done) | (simp; omega)) ?_; intro v1 w1 hD1; have HY := Aside0.mk hD1; clear hD1; clear HX)
        | fail)
      go_roundw
      case rel => exact ⟨i + 1, by go_num, by omega, ⟨by have h9 := HY.out; rwa [List.append_assoc, rep_snoc] at h9⟩⟩
      case measure => first | (simp [RowKit.intOf]; done) | (simp [RowKit.intOf]; omega)
    · have hie : lz = i := by omega
      subst hie
      clear hlt hi
      go_wp2_with fail
      go_loopw [0, 247] (fun v0 vi wr => ∃ i : Nat, vi = .int .i64 i ∧ i ≤ m ∧ Aside0 (DS B gd gb l T w wr v0 ((((([45] : List Int) ++ [48]) ++ [46]) ++ List.replicate lz 48) ++ (l.drop off).take i))) (fun _ vi _ => m - (RowKit.intOf vi).toNat)
      case atStart => exact ⟨0, rfl, Nat.zero_le _, ⟨by simpa using HX.out⟩⟩
      clear HX
      obtain ⟨i, rfl, hi, HX⟩ := hrel
      by_cases hlt : (i : Int) < (m : Int)
      · have hil : off + i < l.length := by rw [HLL.out]; omega
        have hoL : off + i < L := by omega
        have kc := HX.out.cell (off + i) hil
        go_wp2_with (first
          | ((with_reducible refine gate_builtin (b := .append) (xs := #[.tmp 250, .tmp 257]) rfl ?_); refine app1 rfl (.tmp 250) (.tmp 257) rfl _ _ _ rfl rfl HS.out HX.out (by first | (simp; done) | (simp; omega)) ?_; intro v1 w1 hD1; have HY := Aside0.mk hD1; clear hD1; clear HX)
          | fail)
        go_roundw
        case rel => exact ⟨i + 1, by go_num, by omega, ⟨by have h9 := HY.out; rwa [List.append_assoc, drop_snoc] at h9⟩⟩
        case measure => first | (simp [RowKit.intOf]; done) | (simp [RowKit.intOf]; omega)
      · have hie : m = i := by omega
        subst hie
        clear hlt hi
        go_wp2_with fail
        go_loopw [0, 261] (fun v0 vi wr => ∃ i : Nat, vi = .int .i64 i ∧ i ≤ tz ∧ Aside0 (DS B gd gb l T w wr v0 (((((([45] : List Int) ++ [48]) ++ [46]) ++ List.replicate lz 48) ++ (l.drop off).take m) ++ List.replicate i 48))) (fun _ vi _ => tz - (RowKit.intOf vi).toNat)
        case atStart => exact ⟨0, rfl, Nat.zero_le _, ⟨by simpa using HX.out⟩⟩
        clear HX
        obtain ⟨i, rfl, hi, HX⟩ := hrel
        by_cases hlt : (i : Int) < (tz : Int)
        · skip
          go_wp2_with (first
            | ((with_reducible refine gate_builtin (b := .append) (xs := #[.tmp 263, .tmp 264]) rfl ?_); refine app1 rfl (.tmp 263) (.tmp 264) rfl _ _ _ rfl rfl HS.out HX.out (by first | (simp; done) | (simp; omega)) ?_; intro v1 w1 hD1; have HY := Aside0.mk hD1; clear hD1; clear HX)
            | fail)
          go_roundw
          case rel => exact ⟨i + 1, by go_num, by omega, ⟨by have h9 := HY.out; rwa [List.append_assoc, rep_snoc] at h9⟩⟩
          case measure => first | (simp [RowKit.intOf]; done) | (simp [RowKit.intOf]; omega)
        · have hie : tz = i := by omega
          subst hie
          clear hlt hi
          go_wp2_with fail
          refine bodyPost_ret (results_tmp rfl _ _ _) rfl ⟨_, rfl, ?_⟩
          have h9 := HX.out
          simpa using h9
  · clear HF
    go_wp2_with (first
      | ((with_reducible refine gate_builtin (b := .append) (xs := #[.tmp 179, .tmp 180]) rfl ?_); refine app1 rfl (.tmp 179) (.tmp 180) rfl _ _ _ rfl rfl HS.out HD.out (by first | (simp; done) | (simp; omega)) ?_; intro v1 w1 hD1; have H0 := Aside0.mk hD1; clear hD1; clear HD)
      | ((with_reducible refine gate_builtin (b := .append) (xs := #[.tmp 209, .tmp 210]) rfl ?_); refine app1 rfl (.tmp 209) (.tmp 210) rfl _ _ _ rfl rfl HS.out H0.out (by first | (simp; done) | (simp; omega)) ?_; intro v1 w1 hD1; have HX := Aside0.mk hD1; clear hD1; clear H0)
      | fail)
    refine bodyPost_ret (results_tmp rfl _ _ _) rfl ⟨_, rfl, ?_⟩
    have h9 := HX.out
    simpa using h9
end Go.Proofs.YtkcbalikahmeiaaDoor.Aft
