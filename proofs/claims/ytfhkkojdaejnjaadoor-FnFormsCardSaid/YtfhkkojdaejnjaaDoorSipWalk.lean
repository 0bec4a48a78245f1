/-
  spec.Sip, walked.
-/
import Derived.Test.YtfhkkojdaejnjaaDoorSipPure
namespace Go.Proofs.YtfhkkojdaejnjaaDoor.Gcs
open Go.RowKit Go.Proofs.YtfhkkojdaejnjaaDoor.Hand Go.Proofs.YtfhkkojdaejnjaaDoor.PFnForms Go.Proofs.YtfhkkojdaejnjaaDoorW.PrintWords Go.Proofs.YtfhkkojdaejnjaaDoorW.PrintLast Go.Proofs.YtfhkkojdaejnjaaDoorW.PrintMore

/-- A text that is read, all in one block. -/
structure Txt (w : World) (g : Nat) (A : Option Addr) (T : List Int) : Prop where
  C : Kd.C (Kd.int .u8) w A T.length T
  blk : ∀ ad, A = some ad → ad.block = g
  lt : g < w.heap.size
theorem cell_of_heap {w w1 : World} {p : Addr} (h : w1.heap[p.block]? = w.heap[p.block]?) : w1.cell? p = w.cell? p := by unfold World.cell?; simp only [h]
theorem addr_add_block (ad : Addr) (n : Nat) : (ad.add n).block = ad.block := by unfold Addr.add; split <;> rfl
theorem Txt.frame {w w1 : World} {g : Nat} {A : Option Addr} {T : List Int} (h : Txt w g A T) (hb : w1.heap[g]? = w.heap[g]?) : Txt w1 g A T := by
  refine ⟨⟨h.C.1, h.C.2.1, fun hp => ?_⟩, h.blk, by rw [Array.getElem?_eq_getElem h.lt] at hb; exact (Array.getElem?_eq_some_iff.1 hb).1⟩
  obtain ⟨ad, e, hc⟩ := h.C.2.2 hp
  refine ⟨ad, e, fun j p hj => ?_⟩
  obtain ⟨cs, c1, c2, c3⟩ := hc j p hj
  exact ⟨cs, c1, c2, fun i u hu => (cell_of_heap (by rw [addr_add_block, h.blk ad e]; exact hb)).trans (c3 i u hu)⟩
theorem Txt.drop {w : World} {g m c : Nat} {A : Option Addr} {T : List Int} (h : Txt w g A T) (hm : m ≤ T.length) (hc : T.length ≤ c) : Txt w g (if c = m then A else A.map (·.add (m * 1))) (T.drop m) := by
  refine ⟨Kd.C_drop (k := Kd.int .u8) h.C hm hc, fun ad e => ?_, h.lt⟩
  by_cases hcm : c = m
  · rw [if_pos hcm] at e; exact h.blk ad e
  · rw [if_neg hcm] at e
    obtain ⟨a0, e0, rfl⟩ := Option.map_eq_some_iff.1 e
    rw [addr_add_block]
    exact h.blk a0 e0
theorem txt_of_R {w : World} {base : Nat} {ok : Nat → Prop} {A : Option Addr} {n c : Nat} {T : List Int} (h : (Kd.int .u8).R 5 w base ok (.slice A n c) T) (hp : 0 < T.length) : ∃ g, Txt w g A T ∧ base ≤ g ∧ g < w.heap.size ∧ (Value.slice A n c).ownBlock = some g := by
  obtain ⟨hn, _, hC⟩ := Kd.R_reads' h
  subst hn
  have ho := Kd.own_of_R h
  rcases ho.2 with ⟨_, h0⟩ | ⟨g, cap, cur, e1, h2, h3, _⟩
  · omega
  · injection e1 with e1 e2 e3
    subst e1
    exact ⟨g, ⟨hC, fun ad e => by injection e with e; rw [← e], (Array.getElem?_eq_some_iff.1 h3).1⟩, h2, (Array.getElem?_eq_some_iff.1 h3).1, rfl⟩
def lenV : Value → Nat
  | .slice _ n _ => n
  | _ => 0
/-- Nothing but one block turned. -/
structure Fr1 (g : Nat) (w w' : World) : Prop where
  size : w.heap.size ≤ w'.heap.size
  blk : ∀ k, k < w.heap.size → k ≠ g → w'.heap[k]? = w.heap[k]?
theorem Fr1.refl (g : Nat) (w : World) : Fr1 g w w := ⟨Nat.le_refl _, fun _ _ _ => rfl⟩
theorem Fr1.trans {g : Nat} {w w1 w2 : World} (h : Fr1 g w w1) (h2 : Fr1 g w1 w2) : Fr1 g w w2 := ⟨Nat.le_trans h.size h2.size, fun k hk hn => (h2.blk k (Nat.lt_of_lt_of_le hk h.size) hn).trans (h.blk k hk hn)⟩
theorem Fr1.of_below {g : Nat} {w w1 : World} (h : Below w.heap.size w w1) : Fr1 g w w1 := ⟨h.size, fun k hk _ => h.block k hk⟩
theorem Fr1.of_store {g : Nat} {w w1 : World} {B : Nat} {w0 : World} (h : ∀ k, k ≠ g → w1.heap[k]? = w.heap[k]?) (hs : w.heap.size ≤ w1.heap.size) : Fr1 g w w1 := ⟨hs, fun k _ hn => h k hn⟩

def IsU64 (w : World) (r : Int) (e : Ending) (w' : World) : Prop := e = .returned (.int .u64 r) ∧ Below w.heap.size w w'

theorem stir4 (v : N4) (w : World) : Calls Tryd.prog 41 #[v4 v] w (IsStir w (stir v)) := stir_calls v.1 v.2.1 v.2.2.1 v.2.2.2 w
theorem tmod8 (m : Nat) : Int.tmod (m : Int) 8 = ((m % 8 : Nat) : Int) := by rw [Int.tmod_eq_emod_of_nonneg (by omega)]; omega
abbrev BxV (w : World) (g : Nat) (v : N4) : Prop := Bx w g v.1 v.2.1 v.2.2.1 v.2.2.2

set_option maxRecDepth 100000 in
set_option maxHeartbeats 16000000 in
theorem sip_calls (ks : List Int) (A : Option Addr) (n c : Nat) (b : List Int) (w : World) (hk : ks.length = 16) (hC : Kd.C (Kd.int .u8) w A n b) (hn : b.length = n) (hc : n ≤ c) (hs : n ≤ 1000) :
    Calls Tryd.prog 22 #[.agg (ks.map (Value.int .u8)).toArray, .slice A n c] w (IsU64 w (sipP ks b)) := by
  obtain ⟨X, hX⟩ : ∃ X, X = (ks.map (Value.int .u8)).toArray := ⟨_, rfl⟩
  rw [← hX]
  have hXs : X.size = 16 := by rw [hX]; simp [hk]
  have HX := Aside0.mk hX
  have HK := Aside0.mk hk
  have HC := Aside0.mk hC
  have HN := Aside0.mk hn
  clear hX hk hC hn
  have HB := Aside0.mk (Below.refl w.heap.size w)
  go_enter Tryd.func22, Tryd.ntmps22
  go_wp2_with (first
    | ((with_reducible refine gate_dst (N := 2) rfl ?_); refine box_event ?hg (N := 2) ?hd (cs := X) (t := 23) ?hr ?_; (case hd => rfl); (case hg => rfl); (case hr => first | (go_simp; done) | (go_simp; rfl)); intro gk hg w1 hbox hb1; have HKB := Aside0.mk hbox; have HB1 := Aside0.mk (below_step HB.out hb1); have HGK : Aside0 (w.heap.size ≤ gk) := ⟨by rw [hg]; exact Nat.le_refl _⟩; clear hg hbox hb1)
    | fail)
  have HKC : Aside0 (Kd.C (Kd.int .u8) w1 (some ⟨gk, 0, none⟩) ks.length ks) := ⟨C_of_block (e := 23) (fr := (0, 0)) (by rw [← HX.out]; exact HKB.out) (by rw [HK.out]; omega)⟩
  have HQ1 : Aside0 (∀ m, Calls Tryd.prog 40 #[.slice (some ⟨gk, 0, none⟩) 8 16] (w1.drewN m) fun e w'' => e = .returned (.int .u64 (wordP ks)) ∧ ∃ q, w'' = w1.drewN q) := ⟨fun m => by
    have h1 := Kd.C_take (k := Kd.int .u8) HKC.out (m := 8) (by rw [HK.out]; omega)
    have hl : (ks.take 8).length = 8 := by rw [List.length_take, HK.out]; rfl
    rw [hl] at h1
    have h2 := word_any (some ⟨gk, 0, none⟩) 16 (ks.take 8) (w1.drewN m) hl (Kd.C_drewN h1 m) (by omega)
    rw [show wordP (ks.take 8) = wordP ks by unfold wordP; rw [List.take_take]; rfl] at h2
    exact Calls.quiet_of h2⟩
  have HQ2 : Aside0 (∀ m, Calls Tryd.prog 40 #[.slice (some ⟨gk, 8, none⟩) 8 8] (w1.drewN m) fun e w'' => e = .returned (.int .u64 (wordP (ks.drop 8))) ∧ ∃ q, w'' = w1.drewN q) := ⟨fun m => by
    have h1 := Kd.C_drop (k := Kd.int .u8) HKC.out (m := 8) (c := 16) (by rw [HK.out]; omega) (by rw [HK.out]; omega)
    have hl : (ks.drop 8).length = 8 := by rw [List.length_drop, HK.out]
    rw [hl] at h1
    exact Calls.quiet_of (word_any (some ⟨gk, 8, none⟩) 8 (ks.drop 8) (w1.drewN m) hl (Kd.C_drewN h1 m) (by omega))⟩
  go_quiet (first | (with_reducible exact HQ1.out _) | (with_reducible exact HQ2.out _))
  have HB2 : Aside0 (Below w.heap.size w (w1.drewN nq)) := ⟨by repeat (first | (with_reducible exact HB1.out) | apply pw_below_drewN)⟩
  generalize w1.drewN nq = w2 at HB2 ⊢
  clear HQ1 HQ2 HKC HKB HB1 HB
  go_wp2_with (first
    | ((with_reducible refine gate_dst (N := 7) rfl ?_); refine box_event ?hg (N := 7) ?hd (cs := #[.int .u64 0, .int .u64 0, .int .u64 0, .int .u64 0]) (t := 74) ?hr ?_; (case hd => rfl); (case hg => rfl); (case hr => first | (go_simp; done) | (go_simp; rfl)); intro gx hg w3 hbox hb3; have HZ := Aside0.mk (Bx.mk hbox); have HB3 := Aside0.mk (below_step HB2.out hb3); have HG : Aside0 (w.heap.size ≤ gx) := ⟨by rw [hg]; exact HB2.out.size⟩; clear hg hbox hb3)
    | ((with_reducible refine gate_store (t := 74) (p := 7) rfl ?_); refine stA rfl rfl rfl HZ.out HB3.out HG.out rfl rfl ?_; intro w4 hX hB hK; have HX4 := Aside0.mk hX; have HB4 := Aside0.mk hB; clear hX hB hK)
    | ((with_reducible refine gate_dst (N := 23) rfl ?_); refine Kd.R_lit (Kd.int .u8) (w0 := w) w.heap.size 5 ?hg (N := 23) ?hd (xs := ([] : List Int)) (inner := []) (ok := fun _ => True) (okp := fun _ => True) ?hr ?hp (fun _ hk => hk) trivial HB4.out HB4.out.size (by simp) ?_; (case hd => rfl); (case hg => rfl); (case hr => first | (go_simp; done) | (go_simp; rfl)); (case hp => exact (Reps.none _ _)); intro v23 w5 ho hb hgr hnew; have HX5 := Aside0.mk (HX4.out.frame (hgr.block _ HX4.out.lt (by simp))); have HO5 := Aside0.mk ho; have HB5 := Aside0.mk hb; have HN5 : Aside0 (v23.ownBlock ≠ some gx) := ⟨by obtain ⟨bb, e, hbb⟩ := hnew; have := HX4.out.lt; rw [e]; intro h; injection h with h; omega⟩; clear ho hb hgr hnew)
    | ((with_reducible refine gate_builtin (b := .append) (xs := #[.tmp 23, .tmp 24]) rfl ?_); refine Kd.R_append_row (h1 := fun _ => rfl) (w0 := w) (Value.int .u8) (0 : Int) w.heap.size rfl _ _ 29 5 (.int .u8 0) 1 rfl Tryd.underlying29 info5 rfl (by decide) v23 [] b A n c (fun _ => True) rfl rfl (fun _ _ => trivial) HO5.out (Kd.C_below HC.out HB5.out) HB5.out HB5.out.size (by simp; omega) ?_; intro v25 w6 hR hb6 hgr hat; rw [List.nil_append] at hR; have HX6 := Aside0.mk (HX5.out.frame (hgr.block _ HX5.out.lt (Ne.symm HN5.out))); have HN6 : Aside0 (v25.ownBlock ≠ some gx) := ⟨by rcases hat with e | ⟨bb, e, hbb⟩; (rw [e]; exact HN5.out); (have := HX5.out.lt; rw [e]; intro h; injection h with h; omega)⟩; have HR6 := Aside0.mk hR; have HB6 := Aside0.mk hb6; clear hR hb6 hgr hat)
    | fail)
  have HX6a : Aside0 (BxV w6 gx (start4 ks)) := ⟨HX6.out⟩
  obtain ⟨V, hV⟩ : ∃ V, V = start4 ks := ⟨_, rfl⟩
  rw [← hV] at HX6a
  have HVV := Aside0.mk hV
  clear hV HX6 HX5 HX4 HZ HO5 HN5 HB5 HB4 HB3 HB2 HGK
  have HR60 : Aside0 ((Kd.int .u8).R 5 w6 w.heap.size (fun _ => True) v25 (b ++ List.replicate 0 0)) := ⟨by rw [List.replicate_zero, List.append_nil]; exact HR6.out⟩
  have hl0 : lenV v25 = n + 0 := by obtain ⟨A1, c1, e⟩ := Kd.R_slice HR60.out; rw [e]; simp [lenV, HN.out]
  go_loopw [8] (fun v8 wr => ∃ k : Nat, k ≤ 7 - n % 8 ∧ lenV v8 = n + k ∧ Aside0 ((Kd.int .u8).R 5 wr w.heap.size (fun _ => True) v8 (b ++ List.replicate k 0)) ∧ Aside0 (BxV wr gx V) ∧ Aside0 (v8.ownBlock ≠ some gx) ∧ Aside0 (Below w.heap.size w wr)) (fun v8 _ => 2000 - lenV v8)
  case atStart => exact ⟨0, Nat.zero_le _, hl0, HR60, HX6a, HN6, HB6⟩
  case round =>
    obtain ⟨k, hk, hlv, HR, HX1, HNE, HBr⟩ := hrel
    clear HR60 HX6a HN6 HB6 HR6 hl0
    obtain ⟨A1, c1, e⟩ := Kd.R_slice HR.out
    subst e
    have HLN : Aside0 ((b ++ List.replicate k (0 : Int)).length = n + k) := ⟨by rw [List.length_append, List.length_replicate, HN.out]⟩
    rw [HLN.out] at HR HNE hlv ⊢
    obtain ⟨m, hm⟩ : ∃ m, m = n + k := ⟨_, rfl⟩
    have HM := Aside0.mk hm
    rw [← hm] at HR HNE hlv ⊢
    have ht := tmod8 m
    by_cases hk7 : k < 7 - n % 8
    · have hne : ((m % 8 : Nat) : Int) ≠ 7 := by omega
      have hm2 : m ≤ 1100 := by omega
      clear hm
      go_wp2_with (first
        | (at_builtin; refine Kd.R_append (Kd.int .u8) (w0 := w) w.heap.size rfl (.tmp 30) (.tmp 31) 29 5 (.int .u8 0) 1 rfl Tryd.underlying29 info5 rfl (by decide) (by decide) _ (b ++ List.replicate k (0 : Int)) (0 : Int) [.int .u8 0] (fun _ => True) (fun _ => False) rfl rfl rfl (fun _ hk => hk.elim) (fun _ _ => trivial) HR.out HBr.out HBr.out.size (by rw [HLN.out]; omega) ?_; intro v9 w9 hR9 hb9 hg9 hat9; have HR9 := Aside0.mk hR9; have HB9 := Aside0.mk hb9; have HX9 : Aside0 (BxV w9 gx V) := ⟨HX1.out.frame (hg9.block _ HX1.out.lt (Ne.symm HNE.out))⟩; have HN9 : Aside0 (v9.ownBlock ≠ some gx) := ⟨by rcases hat9 with e | ⟨bb, e, hbb⟩; (rw [e]; exact HNE.out); (have := HX1.out.lt; rw [e]; intro h; injection h with h; omega)⟩; clear hR9 hb9 hg9 hat9)
        | fail)
      have HL9 : Aside0 (lenV v9 = n + (k + 1)) := ⟨by obtain ⟨A2, c2, e⟩ := Kd.R_slice HR9.out; rw [e]; show (b ++ List.replicate k (0 : Int) ++ [0]).length = _; rw [List.length_append, HLN.out]; rfl⟩
      go_roundw
      case rel => exact ⟨k + 1, by omega, HL9.out, ⟨by rw [List.replicate_succ', ← List.append_assoc]; exact HR9.out⟩, HX9, HN9, HB9⟩
      case measure =>
        have h1 := HL9.out
        have h2 := HM.out
        rw [h1]
        show 2000 - (n + (k + 1)) < 2000 - m
        omega
    · have hke : k = 7 - n % 8 := by omega
      have heq : ((m % 8 : Nat) : Int) = 7 := by omega
      have hm2 : m ≤ 1100 := by omega
      clear hm
      go_wp2_with (first
        | (at_builtin; refine Kd.R_append (Kd.int .u8) (w0 := w) w.heap.size rfl (.tmp 33) (.tmp 37) 29 5 (.int .u8 0) 1 rfl Tryd.underlying29 info5 rfl (by decide) (by decide) _ (b ++ List.replicate k (0 : Int)) (IntKind.u8.wrap (n : Int)) [.int .u8 (IntKind.u8.wrap (n : Int))] (fun _ => True) (fun _ => False) rfl rfl rfl (fun _ hk => hk.elim) (fun _ _ => trivial) HR.out HBr.out HBr.out.size (by rw [HLN.out]; omega) ?_; intro v9 w9 hR9 hb9 hg9 hat9; have HR9 := Aside0.mk hR9; have HB9 := Aside0.mk hb9; have HX9 : Aside0 (BxV w9 gx V) := ⟨HX1.out.frame (hg9.block _ HX1.out.lt (Ne.symm HNE.out))⟩; have HN9 : Aside0 (v9.ownBlock ≠ some gx) := ⟨by rcases hat9 with e | ⟨bb, e, hbb⟩; (rw [e]; exact HNE.out); (have := HX1.out.lt; rw [e]; intro h; injection h with h; omega)⟩; clear hR9 hb9 hg9 hat9)
        | fail)
      have HPD : Aside0 ((Kd.int .u8).R 5 w9 w.heap.size (fun _ => True) v9 (padded b)) := ⟨by
        have h := HR9.out
        rw [hke, ← HN.out] at h
        unfold padded
        exact h⟩
      obtain ⟨K, hK⟩ : ∃ K, K = b.length / 8 + 1 := ⟨_, rfl⟩
      have HKL := Aside0.mk hK
      have hPL : (padded b).length = K * 8 := by rw [hK]; exact padded_length b
      have hK1 : 1 ≤ K ∧ K ≤ 200 := by have := HN.out; omega
      clear hK
      obtain ⟨A9, c9, e9⟩ := Kd.R_slice HPD.out
      subst e9
      obtain ⟨gt, hT, hg1, hg2, hgo⟩ := txt_of_R HPD.out (by omega)
      have hc9 := (Kd.R_reads' HPD.out).2.1
      have HNT : Aside0 (gt ≠ gx) := ⟨fun e => HN9.out (by rw [hgo, e])⟩
      have HT0 : Aside0 (Txt w9 gt A9 ((padded b).drop (8 * 0))) := ⟨hT⟩
      rw [hPL] at hc9 ⊢
      have HPL := Aside0.mk hPL
      have HX90 : Aside0 (BxV w9 gx (run8 V (padded b) 0)) := ⟨HX9.out⟩
      clear hT hg1 hg2 hgo hPL HR9 HX9 HN9 HR HX1 HNE HBr HPD ht heq hm2 hke hlv HLN HM
      go_loopw [8] (fun v8 wr => ∃ (q : Nat) (A1 : Option Addr) (c1 : Nat), q ≤ K ∧ v8 = .slice A1 ((K - q) * 8) c1 ∧ (K - q) * 8 ≤ c1 ∧ Aside0 (Txt wr gt A1 ((padded b).drop (8 * q))) ∧ Aside0 (BxV wr gx (run8 V (padded b) q)) ∧ Aside0 (Below w.heap.size w wr)) (fun v8 _ => lenV v8)
      case atStart => exact ⟨0, A9, c9, Nat.zero_le _, rfl, hc9, HT0, HX90, HB9⟩
      case round =>
        obtain ⟨q, A1, c1, hq, rfl, hc1, HT, HXq, HBq⟩ := hrel
        clear HT0 HX90 HB9 hc9
        have HTL : Aside0 (((padded b).drop (8 * q)).length = (K - q) * 8) := ⟨by rw [List.length_drop, HPL.out]; omega⟩
        by_cases hqK : q < K
        · obtain ⟨m, hm⟩ : ∃ m, m = (K - q) * 8 := ⟨_, rfl⟩
          have hm8 : 8 ≤ m := by omega
          have hm2 : m ≤ 1600 := by omega
          rw [← hm] at hc1 HTL ⊢
          have HSS : Aside0 (run8 V (padded b) (q + 1) = sstep (run8 V (padded b) q) (wordP ((padded b).drop (8 * q)))) := ⟨rfl⟩
          have HTD : Aside0 ((padded b).drop (8 * (q + 1)) = ((padded b).drop (8 * q)).drop 8) := ⟨by rw [List.drop_drop]; rfl⟩
          have HMM : Aside0 (m - 8 = (K - (q + 1)) * 8) := ⟨by omega⟩
          have hMM := HMM.out
          clear hm
          generalize (padded b).drop (8 * q) = T at HT HTL HSS HTD
          generalize run8 V (padded b) q = v at HXq HSS
          obtain ⟨va, vb, vc, vd⟩ := v
          have HWD : Aside0 (Calls Tryd.prog 40 #[.slice A1 8 c1] wr fun e w' => e = .returned (.int .u64 (wordP T)) ∧ ∃ n, w' = wr.drewN n) := ⟨by
            have hl : (T.take 8).length = 8 := by rw [List.length_take, HTL.out]; omega
            have h1 := Kd.C_take (k := Kd.int .u8) HT.out.C (m := 8) (by rw [HTL.out]; exact hm8)
            rw [hl] at h1
            have h2 := word_any A1 c1 (T.take 8) wr hl h1 (by omega)
            rw [show wordP (T.take 8) = wordP T by unfold wordP; rw [List.take_take]; rfl] at h2
            exact h2⟩
          obtain ⟨wd, hwd⟩ : ∃ wd, wd = wordP T := ⟨_, rfl⟩
          rw [← hwd] at HWD HSS
          clear hwd
          have HTF := Aside0.mk (HT.out.drop (m := 8) (c := c1) (by rw [HTL.out]; exact hm8) (by rw [HTL.out]; exact hc1))
          go_wp2_with (first
            | (go_at_call 40; (with_reducible refine HWD.out.mono ?_); rintro e2 w2 ⟨rfl, n2, h2⟩; have hb2 : Below wr.heap.size wr w2 := (by rw [h2]; apply pw_below_drewN; exact Below.refl _ _); have HX2 := Aside0.mk (HXq.out.below hb2); have HT2 := Aside0.mk (HTF.out.frame (hb2.block _ HTF.out.lt)); have HB2 := Aside0.mk (below_step HBq.out hb2); have k0 := HX2.out.k0; have k1 := HX2.out.k1; have k2 := HX2.out.k2; have k3 := HX2.out.k3; clear h2 hb2)
            | ((with_reducible refine gate_store (t := 22) (p := 51) rfl ?_); refine st3 rfl rfl rfl HX2.out HB2.out HG.out rfl rfl ?_; intro x3 w3 hx3 hX hB hK; have HX3 := Aside0.mk hX; have HB3 := Aside0.mk hB; have HT3 := Aside0.mk (HT2.out.frame (hK _ HNT.out)); have HP3 := Aside0.mk hx3; clear k0 k1 k2 k3 hX hB hK hx3; have k0 := HX3.out.k0; have k1 := HX3.out.k1; have k2 := HX3.out.k2; have k3 := HX3.out.k3)
            | (go_at_call 41; (with_reducible refine (stir_calls va vb vc x3 _).mono ?_); rintro e4 w4 hq; unfold IsStir at hq; obtain ⟨rfl, hb4⟩ := hq; have HX4 := Aside0.mk (HX3.out.below hb4); have HT4 := Aside0.mk (HT3.out.frame (hb4.block _ HT3.out.lt)); have HB4 := Aside0.mk (below_step HB3.out hb4); clear hb4 k0 k1 k2 k3)
            | (go_at_call 41; (with_reducible refine (stir4 _ _).mono ?_); rintro e5 w5 hq; unfold IsStir at hq; obtain ⟨rfl, hb5⟩ := hq; have HX5 := Aside0.mk (HX4.out.below hb5); have HT5 := Aside0.mk (HT4.out.frame (hb5.block _ HT4.out.lt)); have HB5 := Aside0.mk (below_step HB4.out hb5); clear hb5)
            | ((with_reducible refine gate_store (t := 74) (p := 7) rfl ?_); refine stA rfl rfl rfl HX5.out HB5.out HG.out rfl rfl ?_; intro w6 hX hB hK; have HX6 := Aside0.mk hX; have HB6 := Aside0.mk hB; have HT6 := Aside0.mk (HT5.out.frame (hK _ HNT.out)); clear hX hB hK; have k0 := HX6.out.k0)
            | ((with_reducible refine gate_store (t := 22) (p := 59) rfl ?_); refine st0 rfl rfl rfl HX6.out HB6.out HG.out rfl rfl ?_; intro x0 w7 hx0 hX hB hK; have HX7 := Aside0.mk hX; have HB7 := Aside0.mk hB; have HT7 := Aside0.mk (HT6.out.frame (hK _ HNT.out)); have HP0 := Aside0.mk hx0; clear k0 hX hB hK hx0)
            | fail)
          have HFIN : Aside0 (run8 V (padded b) (q + 1) = (x0, (stir (stir (va, vb, vc, x3))).2.1, (stir (stir (va, vb, vc, x3))).2.2.1, (stir (stir (va, vb, vc, x3))).2.2.2)) := ⟨by
            rw [HSS.out, HP0.out, HP3.out]
            rfl⟩
          go_roundw
          case rel => exact ⟨q + 1, _, _, by omega, rfl, by omega, ⟨by rw [HTD.out]; exact HT7.out⟩, ⟨by rw [HFIN.out]; exact HX7.out⟩, HB7⟩
          case measure => first | (show m - 8 < m; omega) | (simp [lenV]; omega)
        · obtain rfl : q = K := by omega
          clear HT
          have k0 := HXq.out.k0
          have k1 := HXq.out.k1
          have k2 := HXq.out.k2
          have k3 := HXq.out.k3
          generalize hv : run8 V (padded b) q = v at HXq k0 k1 k2 k3
          obtain ⟨va, vb, vc, vd⟩ := v
          have HVE := Aside0.mk hv
          clear hv
          rw [Nat.sub_self, Nat.zero_mul] at HTL hc1 ⊢
          simp only at k0 k1 k2 k3
          go_wp2_with (first
            | ((with_reducible refine gate_store (t := 22) (p := 63) rfl ?_); refine st2 rfl rfl rfl HXq.out HBq.out HG.out rfl rfl ?_; intro x2 w3 hx2 hX hB hK; have HX3 := Aside0.mk hX; have HB3 := Aside0.mk hB; have HP2 := Aside0.mk hx2; clear k0 k1 k2 k3 hX hB hK hx2; have k0 := HX3.out.k0; have k1 := HX3.out.k1; have k2 := HX3.out.k2; have k3 := HX3.out.k3)
            | (go_at_call 41; (with_reducible refine (stir_calls va vb x2 vd _).mono ?_); rintro e4 w4 hq; unfold IsStir at hq; obtain ⟨rfl, hb4⟩ := hq; have HX4 := Aside0.mk (HX3.out.below hb4); have HB4 := Aside0.mk (below_step HB3.out hb4); clear hb4 k0 k1 k2 k3; obtain ⟨y1, hy1⟩ : ∃ y, y = stir (va, vb, x2, vd) := ⟨_, rfl⟩; rw [← hy1]; have HY1 := Aside0.mk hy1; clear hy1)
            | (go_at_call 41; (with_reducible refine (stir4 y1 _).mono ?_); rintro e5 w5 hq; unfold IsStir at hq; obtain ⟨rfl, hb5⟩ := hq; have HX5 := Aside0.mk (HX4.out.below hb5); have HB5 := Aside0.mk (below_step HB4.out hb5); clear hb5; obtain ⟨y2, hy2⟩ : ∃ y, y = stir y1 := ⟨_, rfl⟩; rw [← hy2]; have HY2 := Aside0.mk hy2; clear hy2)
            | (go_at_call 41; (with_reducible refine (stir4 y2 _).mono ?_); rintro e6 w6 hq; unfold IsStir at hq; obtain ⟨rfl, hb6⟩ := hq; have HX6 := Aside0.mk (HX5.out.below hb6); have HB6 := Aside0.mk (below_step HB5.out hb6); clear hb6; obtain ⟨y3, hy3⟩ : ∃ y, y = stir y2 := ⟨_, rfl⟩; rw [← hy3]; have HY3 := Aside0.mk hy3; clear hy3)
            | (go_at_call 41; (with_reducible refine (stir4 y3 _).mono ?_); rintro e7 w7 hq; unfold IsStir at hq; obtain ⟨rfl, hb7⟩ := hq; have HX7 := Aside0.mk (HX6.out.below hb7); have HB7 := Aside0.mk (below_step HB6.out hb7); clear hb7; obtain ⟨y4, hy4⟩ : ∃ y, y = stir y3 := ⟨_, rfl⟩; rw [← hy4]; have HY4 := Aside0.mk hy4; clear hy4)
            | ((with_reducible refine gate_store (t := 74) (p := 7) rfl ?_); refine stA rfl rfl rfl HX7.out HB7.out HG.out rfl rfl ?_; intro w8 hX hB hK; have HX8 := Aside0.mk hX; have HB8 := Aside0.mk hB; clear hX hB hK; have k0 := HX8.out.k0; have k1 := HX8.out.k1; have k2 := HX8.out.k2; have k3 := HX8.out.k3)
            | fail)
          refine bodyPost_ret (results_tmp rfl _ _ _) rfl ⟨?_, HB8.out⟩
          unfold sipP
          rw [← HKL.out, ← HVV.out, HVE.out]
          unfold ending4
          simp only
          rw [← HP2.out, ← HY1.out, ← HY2.out, ← HY3.out, ← HY4.out]
          rfl
end Go.Proofs.YtfhkkojdaejnjaaDoor.Gcs
