/-
  What spec.UnBase58 and zzMulAdd compute, in plain words: no Go, no memory.
-/
import Derived.Test.YtpgfhcobfaceeaaDoorPFnUnBase58x
namespace Go.Proofs.YtpgfhcobfaceeaaDoor.PFnUnBase58
open Go.RowKit Go.Proofs.YtpgfhcobfaceeaaDoorW.PrintWords Go.Proofs.YtpgfhcobfaceeaaDoorW.PrintLast Go.Proofs.YtpgfhcobfaceeaaDoorW.PrintMore

theorem w64 {x : Int} (h1 : -9223372036854775808 ≤ x) (h2 : x ≤ 9223372036854775807) : wrap64 x = x := by unfold wrap64; omega

theorem half_le {a tb : Int} (h0 : 0 ≤ a) (h : 2 ≤ tb) : a / tb ≤ a / 2 := by
  have h1 : 0 ≤ a / tb := Int.ediv_nonneg h0 (by omega)
  have h2 : a / tb * tb ≤ a := Int.ediv_mul_le a (by omega)
  have h3 : a / tb * 2 ≤ a / tb * tb := Int.mul_le_mul_of_nonneg_left h h1
  exact (Int.le_ediv_iff_mul_le (by omega)).2 (by omega)

theorem rd_mid (pre post : List Int) (x i : Int) (h : i = pre.length) : rd (pre ++ x :: post) i = x := by
  subst h; simp [rd]
theorem set_mid (pre post : List Int) (x v i : Int) (h : i = pre.length) : (pre ++ x :: post).set i.toNat v = pre ++ v :: post := by
  subst h; simp

/-- One digit: what it becomes, and what is carried. -/
def stepF (fr tb x : Int) (s : List Int × Int) : List Int × Int := ((s.2 + x * fr) % tb :: s.1, (s.2 + x * fr) / tb)
def goF (fr tb : Int) (l : List Int) (s : List Int × Int) : List Int × Int := l.foldr (stepF fr tb) s
theorem goF_snoc (fr tb x : Int) (l : List Int) (s : List Int × Int) : goF fr tb (l ++ [x]) s = goF fr tb l (stepF fr tb x s) := by simp [goF]

/-- The digits of a carry. -/
def digs (tb : Nat) (c : Nat) : List Int := if _h : 2 ≤ tb ∧ 0 < c then digs tb (c / tb) ++ [((c % tb : Nat) : Int)] else []
termination_by c
decreasing_by exact Nat.div_lt_self _h.2 _h.1

theorem digs_zero (tb : Nat) : digs tb 0 = [] := by rw [digs]; simp
theorem digs_pos (tb c : Nat) (h1 : 2 ≤ tb) (h : 0 < c) : digs tb c = digs tb (c / tb) ++ [((c % tb : Nat) : Int)] := by rw [digs, dif_pos ⟨h1, h⟩]
theorem digs_small (tb c : Nat) (h1 : 2 ≤ tb) (h : 0 < c) (h2 : c < tb) : digs tb c = [(c : Int)] := by
  rw [digs_pos tb c h1 h, Nat.div_eq_of_lt h2, digs_zero, Nat.mod_eq_of_lt h2]; rfl
theorem digs_length (tb : Nat) (h1 : 2 ≤ tb) : ∀ c, (digs tb c).length ≤ c := by
  intro c
  induction c using Nat.strongRecOn with
  | _ c ih =>
    rcases Nat.eq_zero_or_pos c with h | h
    · subst h; rw [digs_zero]; simp
    · have := ih (c / tb) (Nat.div_lt_self h h1)
      have := Nat.div_lt_self h h1
      rw [digs_pos tb c h1 h]; simp; omega
theorem digs_range (tb : Nat) (h1 : 2 ≤ tb) : ∀ c, ∀ x ∈ digs tb c, 0 ≤ x ∧ x < tb := by
  intro c
  induction c using Nat.strongRecOn with
  | _ c ih =>
    rcases Nat.eq_zero_or_pos c with h | h
    · subst h; rw [digs_zero]; simp
    · rw [digs_pos tb c h1 h]
      intro x hx
      rcases List.mem_append.1 hx with g | g
      · exact ih _ (Nat.div_lt_self h h1) x g
      · have e := List.mem_singleton.1 g
        have := Nat.mod_lt c (show 0 < tb by omega)
        omega

/-- One more digit of the old base. -/
def addDig (fr tb : Int) (out : List Int) (d : Int) : List Int := digs tb.toNat (goF fr tb out ([], d)).2.toNat ++ (goF fr tb out ([], d)).1
def rebased (fr tb : Int) (ds : List Int) : List Int := ds.foldl (addDig fr tb) []

theorem goF_facts (fr tb : Int) (hfr0 : 0 ≤ fr) (hfr1 : fr ≤ 256) (hto : 2 ≤ tb) : ∀ (l : List Int) (s : List Int × Int), (∀ x ∈ l, 0 ≤ x ∧ x < 256) → (∀ x ∈ s.1, 0 ≤ x ∧ x < tb) → 0 ≤ s.2 → s.2 ≤ 65536 →
    (goF fr tb l s).1.length = l.length + s.1.length ∧ (∀ x ∈ (goF fr tb l s).1, 0 ≤ x ∧ x < tb) ∧ 0 ≤ (goF fr tb l s).2 ∧ (goF fr tb l s).2 ≤ 65536 := by
  intro l
  induction l with
  | nil => intro s _ h1 h2 h3; exact ⟨by simp [goF], h1, h2, h3⟩
  | cons x l ih =>
    intro s hl h1 h2 h3
    obtain ⟨a, b, c, d⟩ := ih s (fun y hy => hl y (List.mem_cons_of_mem _ hy)) h1 h2 h3
    have hx := hl x List.mem_cons_self
    have e : goF fr tb (x :: l) s = stepF fr tb x (goF fr tb l s) := rfl
    rw [e]
    generalize goF fr tb l s = t at *
    unfold stepF
    have hp0 : 0 ≤ x * fr := Int.mul_nonneg hx.1 hfr0
    have hp1 : x * fr ≤ 255 * 256 := Int.mul_le_mul (by omega) hfr1 hfr0 (by omega)
    refine ⟨by simp [a]; omega, ?_, Int.ediv_nonneg (by omega) (by omega), ?_⟩
    · intro y hy
      rcases List.mem_cons.1 hy with g | g
      · subst g; exact ⟨Int.emod_nonneg _ (by omega), Int.emod_lt_of_pos _ (by omega)⟩
      · exact b y g
    · have : (t.2 + x * fr) / tb ≤ (t.2 + x * fr) / 2 := half_le (by omega) hto
      omega

section
variable (fr tb : Int) (hfr0 : 0 ≤ fr) (hfr1 : fr ≤ 256) (hto : 2 ≤ tb) (hto2 : tb ≤ 256) (ds : List Int) (n : Int) (r : List Int)
include hfr0 hfr1 hto hto2

theorem reb_l1 (i : Int) : ∀ (m : Nat) (pre post : List Int) (c : Int), pre.length = m → m ≤ 100000000 → (∀ x ∈ pre, 0 ≤ x ∧ x < 256) → 0 ≤ c → c ≤ 65536 →
    Ev (fun k => spec_rebased.l2 k fr tb (goF fr tb pre (post, c)).1 (goF fr tb pre (post, c)).2 ds n i) r → Ev (fun k => spec_rebased.l1 k fr tb (pre ++ post) c ((pre.length : Int) - 1) ds n i) r := by
  intro m
  induction m with
  | zero =>
    intro pre post c hm _ _ _ _ h
    obtain rfl : pre = [] := List.eq_nil_of_length_eq_zero hm
    refine Ev.step (fun k => ?_) h
    simp only [spec_rebased.l1]
    rw [if_neg (by simp)]
    rfl
  | succ m ih =>
    intro pre post c hm hml hp h0 h1 h
    obtain ⟨pre', x, rfl⟩ : ∃ pre' x, pre = pre' ++ [x] := by
      rcases List.eq_nil_or_concat pre with rfl | ⟨l, x, rfl⟩
      · simp at hm
      · exact ⟨l, x, by simp⟩
    have hm' : pre'.length = m := by simpa using hm
    have hx := hp x (by simp)
    have hp0 : 0 ≤ x * fr := Int.mul_nonneg hx.1 hfr0
    have hp1 : x * fr ≤ 255 * 256 := Int.mul_le_mul (by omega) hfr1 hfr0 (by omega)
    have hd0 : 0 ≤ (c + x * fr) / tb := Int.ediv_nonneg (by omega) (by omega)
    have hd1 : (c + x * fr) / tb ≤ (c + x * fr) / 2 := half_le (by omega) hto
    refine Ev.step (fun k => ?_) (ih pre' ((c + x * fr) % tb :: post) ((c + x * fr) / tb) hm' (by omega) (fun y hy => hp y (List.mem_append_left _ hy)) hd0 (by omega) ?_)
    · have e1 : pre' ++ [x] ++ post = pre' ++ x :: post := by simp
      have e2 : (((pre' ++ [x]).length : Nat) : Int) - 1 = pre'.length := by simp
      rw [e1, e2]
      simp only [spec_rebased.l1]
      rw [if_pos (by omega), if_pos (by omega), if_pos (by simp; omega), if_neg (by omega), rd_mid pre' post x _ rfl, set_mid pre' post x _ _ rfl]
      rw [w64 (x := x * fr) (by omega) (by omega), w64 (x := c + x * fr) (by omega) (by omega), Int.tmod_eq_emod_of_nonneg (by omega), Int.tdiv_eq_ediv_of_nonneg (by omega), w64 (x := (c + x * fr) / tb) (by omega) (by omega), w64 (x := (pre'.length : Int) - 1) (by omega) (by omega)]
    · rw [goF_snoc] at h
      exact h

omit hfr0 hfr1 in
theorem reb_l2 (i : Int) (hi0 : 0 ≤ i) (hi1 : i ≤ 100000000) : ∀ (c : Nat) (x7 : List Int), x7.length + c ≤ 100000000 →
    Ev (fun k => spec_rebased.l0 k fr tb (digs tb.toNat c ++ x7) ds n (i + 1)) r → Ev (fun k => spec_rebased.l2 k fr tb x7 (c : Int) ds n i) r := by
  intro c
  induction c using Nat.strongRecOn with
  | _ c ih =>
    intro x7 hl h
    rcases Nat.eq_zero_or_pos c with hc | hc
    · subst hc
      rw [digs_zero] at h
      refine Ev.step (fun k => ?_) h
      simp only [spec_rebased.l2]
      rw [if_neg (by omega), w64 (by omega) (by omega)]
      rfl
    · have ht : tb = (tb.toNat : Int) := by omega
      have hlt := Nat.div_lt_self hc (show 1 < tb.toNat by omega)
      rw [digs_pos _ _ (by omega) hc, List.append_assoc] at h
      refine Ev.step (fun k => ?_) (ih (c / tb.toNat) hlt (((c % tb.toNat : Nat) : Int) :: x7) (by simp; omega) h)
      simp only [spec_rebased.l2]
      rw [if_pos (by omega), if_neg (by omega)]
      simp only [Option.bind_some]
      rw [if_pos (by simp; omega), Int.tmod_eq_emod_of_nonneg (by omega), Int.tdiv_eq_ediv_of_nonneg (by omega)]
      have e1 : (c : Int) % tb = ((c % tb.toNat : Nat) : Int) := by rw [ht]; norm_cast
      have e2 : (c : Int) / tb = ((c / tb.toNat : Nat) : Int) := by rw [ht]; norm_cast
      have hq := Int.natCast_nonneg (c / tb.toNat)
      rw [e1, e2, w64 (x := ((c / tb.toNat : Nat) : Int)) (by omega) (by omega)]
      rfl

theorem reb_l0 : ∀ (rest done out : List Int), ds = done ++ rest → n = ds.length → ds.length ≤ 1000 → (∀ d ∈ ds, 0 ≤ d ∧ d < 256) → (∀ x ∈ out, 0 ≤ x ∧ x < tb) → out.length ≤ done.length * 65536 →
    Ev (fun k => spec_rebased.l0 k fr tb out ds n (done.length : Int)) (rest.foldl (addDig fr tb) out) := by
  intro rest
  induction rest with
  | nil =>
    intro done out hd hn _ _ _ _
    refine Ev.step (f := fun _ => some out) (fun k => ?_) (Ev.now _)
    simp only [spec_rebased.l0]
    have : (done.length : Int) = ds.length := by rw [hd]; simp
    rw [if_neg (by omega)]
  | cons d rest ih =>
    intro done out hd hn hl hds hout hlen
    have hdl : done.length < ds.length := by rw [hd]; simp
    have hdd := hds d (by rw [hd]; simp)
    have hto' : ∀ x ∈ out, 0 ≤ x ∧ x < 256 := fun x hx => by have := hout x hx; omega
    obtain ⟨f1, f2, f3, f4⟩ := goF_facts fr tb hfr0 hfr1 hto out ([], d) hto' (by simp) hdd.1 (by simp only; omega)
    have key : Ev (fun k => spec_rebased.l1 k fr tb (out ++ []) d ((out.length : Int) - 1) ds n (done.length : Int)) ((d :: rest).foldl (addDig fr tb) out) := by
      refine reb_l1 fr tb hfr0 hfr1 hto hto2 ds n _ _ out.length out [] d rfl (by omega) hto' hdd.1 (by omega) ?_
      have hc : (goF fr tb out ([], d)).2 = ((goF fr tb out ([], d)).2.toNat : Int) := by omega
      rw [hc]
      have hcl := digs_length tb.toNat (by omega) (goF fr tb out ([], d)).2.toNat
      refine reb_l2 fr tb hto hto2 ds n _ _ (by omega) (by omega) _ _ (by rw [f1]; simp; omega) ?_
      have := ih (done ++ [d]) (addDig fr tb out d) (by rw [hd]; simp) hn hl hds (fun x hx => ?_) (by unfold addDig; rw [List.length_append, f1]; simp; omega)
      · rw [List.length_append] at this
        simpa [addDig] using this
      · unfold addDig at hx
        rcases List.mem_append.1 hx with g | g
        · have := digs_range tb.toNat (by omega) _ x g; omega
        · exact f2 x g
    refine Ev.step (fun k => ?_) key
    simp only [spec_rebased.l0]
    have hrd : rd ds (done.length : Int) = d := by rw [hd]; exact rd_mid done rest d _ rfl
    rw [if_pos (by omega), if_pos (by omega), if_pos (by omega), hrd, w64 (by omega) (by omega), List.append_nil]

/-- spec.rebased, whole. -/
theorem reb_f (hl : ds.length ≤ 1000) (hds : ∀ d ∈ ds, 0 ≤ d ∧ d < 256) : Ev (fun k => spec_rebased.f k ds fr tb) (rebased fr tb ds) :=
  reb_l0 fr tb hfr0 hfr1 hto hto2 ds _ ds [] [] rfl rfl hl hds (by simp) (by simp)
end

/-! ### zzMulAdd -/
theorem mul_l0 : ∀ (m : Nat) (pre post : List Int) (c : Int), pre.length = m → m + post.length ≤ 100000000 → (∀ x ∈ pre, 0 ≤ x ∧ x < 256) → 0 ≤ c → c ≤ 255 →
    Ev (fun k => base58_zzMulAdd.l0 k (pre ++ post) c ((pre.length : Int) - 1)) (digs 256 (goF 58 256 pre (post, c)).2.toNat ++ (goF 58 256 pre (post, c)).1) := by
  intro m
  induction m with
  | zero =>
    intro pre post c hm hl _ h0 h1
    obtain rfl : pre = [] := List.eq_nil_of_length_eq_zero hm
    have e : goF 58 256 [] (post, c) = (post, c) := rfl
    rw [e]
    refine Ev.step (f := fun _ => some _) (fun k => ?_) (Ev.now _)
    simp only [base58_zzMulAdd.l0]
    rw [if_neg (by simp)]
    by_cases hc : c > 0
    · rw [if_pos hc, digs_small 256 c.toNat (by omega) (by omega) (by omega)]
      simp only [Option.bind_some]
      rw [if_pos (by simp; simp at hl; omega)]
      have : c % 256 = (c.toNat : Int) := by omega
      rw [this]
      simp
    · rw [if_neg hc]
      have : c.toNat = 0 := by omega
      rw [this, digs_zero, List.nil_append]
  | succ m ih =>
    intro pre post c hm hl hp h0 h1
    obtain ⟨pre', x, rfl⟩ : ∃ pre' x, pre = pre' ++ [x] := by
      rcases List.eq_nil_or_concat pre with rfl | ⟨l, x, rfl⟩
      · simp at hm
      · exact ⟨l, x, by simp⟩
    have hm' : pre'.length = m := by simpa using hm
    have hx := hp x (by simp)
    rw [goF_snoc]
    refine Ev.step (fun k => ?_) (ih pre' ((c + x * 58) % 256 :: post) ((c + x * 58) / 256) hm' (by simp; omega) (fun y hy => hp y (List.mem_append_left _ hy)) (by omega) (by omega))
    have e1 : pre' ++ [x] ++ post = pre' ++ x :: post := by simp
    have e2 : (((pre' ++ [x]).length : Nat) : Int) - 1 = pre'.length := by simp
    rw [e1, e2]
    simp only [base58_zzMulAdd.l0]
    rw [if_pos (by omega), if_pos (by omega), if_pos (by simp; omega), rd_mid pre' post x _ rfl, set_mid pre' post x _ _ rfl]
    rw [w64 (x := x) (by omega) (by omega), w64 (x := x * 58) (by omega) (by omega), w64 (x := c + x * 58) (by omega) (by omega), w64 (x := (pre'.length : Int) - 1) (by omega) (by omega)]

theorem mul_f (l : List Int) (a : Int) (hl : l.length ≤ 100000000) (hp : ∀ x ∈ l, 0 ≤ x ∧ x < 256) (h0 : 0 ≤ a) (h1 : a ≤ 255) : Ev (fun k => base58_zzMulAdd.f k l a) (addDig 58 256 l a) := by
  have := mul_l0 l.length l [] a rfl (by simpa using hl) hp h0 h1
  refine Ev.congr (fun k => ?_) this
  unfold base58_zzMulAdd.f
  rw [w64 (by omega) (by omega), List.append_nil]

/-! ### Letters -/
def tab : List Int := [255, 255, 255, 255, 255, 255, 255, 255, 255, 255, 255, 255, 255, 255, 255, 255, 255, 255, 255, 255, 255, 255, 255, 255, 255, 255, 255, 255, 255, 255, 255, 255, 255, 255, 255, 255, 255, 255, 255, 255, 255, 255, 255, 255, 255, 255, 255, 255, 255, 0, 1, 2, 3, 4, 5, 6, 7, 8, 255, 255, 255, 255, 255, 255, 255, 9, 10, 11, 12, 13, 14, 15, 16, 255, 17, 18, 19, 20, 21, 255, 22, 23, 24, 25, 26, 27, 28, 29, 30, 31, 32, 255, 255, 255, 255, 255, 255, 33, 34, 35, 36, 37, 38, 39, 40, 41, 42, 43, 255, 44, 45, 46, 47, 48, 49, 50, 51, 52, 53, 54, 55, 56, 57, 255, 255, 255, 255, 255,
  255, 255, 255, 255, 255, 255, 255, 255, 255, 255, 255, 255, 255, 255, 255, 255, 255, 255, 255, 255, 255, 255, 255, 255, 255, 255, 255, 255, 255, 255, 255, 255, 255, 255, 255, 255, 255, 255, 255, 255, 255, 255, 255, 255, 255, 255, 255, 255, 255, 255, 255, 255, 255, 255, 255, 255, 255, 255, 255, 255, 255, 255, 255, 255, 255, 255, 255, 255, 255, 255, 255, 255, 255, 255, 255, 255, 255, 255, 255, 255, 255, 255, 255, 255, 255, 255, 255, 255, 255, 255, 255, 255, 255, 255, 255, 255, 255, 255, 255, 255, 255, 255, 255, 255, 255, 255, 255, 255, 255, 255, 255, 255, 255, 255, 255, 255, 255, 255, 255, 255, 255, 255, 255, 255, 255, 255, 255, 255]
def dOf (c : Int) : Int := tab.getD c.toNat 0
def alpha : ByteArray := ⟨#[49, 50, 51, 52, 53, 54, 55, 56, 57, 65, 66, 67, 68, 69, 70, 71, 72, 74, 75, 76, 77, 78, 80, 81, 82, 83, 84, 85, 86, 87, 88, 89, 90, 97, 98, 99, 100, 101, 102, 103, 104, 105, 106, 107, 109, 110, 111, 112, 113, 114, 115, 116, 117, 118, 119, 120, 121, 122]⟩

theorem idx_all : (List.range 256).all (fun c => decide (spec_indexOf.f 60 alpha (c : Int) = some (if dOf c = 255 then -1 else dOf c) ∧ 0 ≤ dOf c ∧ (dOf c = 255 ∨ dOf c ≤ 57))) = true := by decide +kernel
theorem idx_at (c : Int) (h0 : 0 ≤ c) (h1 : c < 256) : spec_indexOf.f 60 alpha c = some (if dOf c = 255 then -1 else dOf c) ∧ 0 ≤ dOf c ∧ (dOf c = 255 ∨ dOf c ≤ 57) := by
  have := List.all_eq_true.1 idx_all c.toNat (List.mem_range.2 (by omega))
  have := of_decide_eq_true this
  rwa [show ((c.toNat : Nat) : Int) = c from by omega] at this
theorem idx_ev (c : Int) (h0 : 0 ≤ c) (h1 : c < 256) : Ev (fun k => spec_indexOf.f k alpha c) (if dOf c = 255 then -1 else dOf c) :=
  Ev.of (fun k => spec_indexOf.mono alpha c k) (idx_at c h0 h1).1

/-! ### spec.UnBase58 -/
def ones (bs : List Int) : Nat := (bs.takeWhile (· == 49)).length
def valid (bs : List Int) : Bool := bs.all fun c => dOf c != 255
def unB (bs : List Int) : List Int := if valid bs then List.replicate (ones bs) 0 ++ rebased 58 256 (bs.map dOf) else []

theorem bt_bytes (s : ByteArray) (done rest : List Int) (c : Int) (h : bytesOf s = done ++ c :: rest) : bt s (done.length : Int) = c := by
  rw [← rd_bytesOf, h]
  exact rd_mid done rest c _ rfl
theorem bytes_range (s : ByteArray) : ∀ c ∈ bytesOf s, 0 ≤ c ∧ c < 256 := by
  intro c hc
  unfold bytesOf at hc
  obtain ⟨b, _, rfl⟩ := List.mem_map.1 hc
  have := b.toNat_lt
  omega

section
variable (s : ByteArray) (hs : s.size ≤ 200)
include hs

omit hs in
theorem un_l2 (xs : List Int) (hx : ∀ x ∈ xs, 0 ≤ x ∧ x < 256) (hl : xs.length ≤ 100000000) : ∀ (rest done acc : List Int), xs = done ++ rest → acc.length + rest.length ≤ 200000000 →
    Ev (fun k => spec_UnBase58.l2 k acc xs (xs.length : Int) (done.length : Int)) (acc ++ rest, true) := by
  intro rest
  induction rest with
  | nil =>
    intro done acc hd _
    refine Ev.step (f := fun _ => some _) (fun k => ?_) (Ev.now _)
    have hdl : xs.length = done.length := by rw [hd]; simp
    simp only [spec_UnBase58.l2]
    rw [if_neg (by omega)]
    simp
  | cons x rest ih =>
    intro done acc hd hal
    have hdl : done.length < xs.length := by rw [hd]; simp
    have hxx := hx x (by rw [hd]; simp)
    have hrd : rd xs (done.length : Int) = x := by rw [hd]; exact rd_mid done rest x _ rfl
    have := ih (done ++ [x]) (acc ++ [x]) (by rw [hd]; simp) (by simp at hal ⊢; omega)
    rw [List.append_assoc] at this
    refine Ev.step (fun k => ?_) this
    simp only [spec_UnBase58.l2]
    simp at hal
    rw [if_pos (by omega), if_pos (by omega), if_pos (by omega), if_pos (by omega), hrd, w64 (by omega) (by omega)]
    have e : x % 256 = x := by omega
    rw [e]
    simp

omit hs in
theorem reb_len (ds : List Int) (hds : ∀ d ∈ ds, 0 ≤ d ∧ d < 256) : ∀ (rest out : List Int), (∀ d ∈ rest, d ∈ ds) → (∀ x ∈ out, 0 ≤ x ∧ x < 256) → (rest.foldl (addDig 58 256) out).length ≤ out.length + rest.length * 65536 ∧ ∀ x ∈ rest.foldl (addDig 58 256) out, 0 ≤ x ∧ x < 256 := by
  intro rest
  induction rest with
  | nil => intro out _ ho; exact ⟨by simp, ho⟩
  | cons d rest ih =>
    intro out hr ho
    have hdd := hds d (hr d List.mem_cons_self)
    obtain ⟨f1, f2, f3, f4⟩ := goF_facts 58 256 (by omega) (by omega) (by omega) out ([], d) ho (by simp) hdd.1 (by simp only; omega)
    have hc := digs_length 256 (by omega) (goF 58 256 out ([], d)).2.toNat
    have hal : (addDig 58 256 out d).length ≤ out.length + 65536 := by
      unfold addDig
      rw [List.length_append, f1]
      have : ((256 : Int).toNat) = 256 := rfl
      rw [this]; simp; omega
    have har : ∀ x ∈ addDig 58 256 out d, 0 ≤ x ∧ x < 256 := by
      intro x hx
      unfold addDig at hx
      rcases List.mem_append.1 hx with g | g
      · exact digs_range 256 (by omega) _ x g
      · exact f2 x g
    obtain ⟨a, b⟩ := ih (addDig 58 256 out d) (fun y hy => hr y (List.mem_cons_of_mem _ hy)) har
    exact ⟨by simp only [List.foldl_cons, List.length_cons]; omega, b⟩

omit hs in
theorem un_j2 (ds : List Int) (hds : ∀ d ∈ ds, 0 ≤ d ∧ d < 256) (hl : ds.length ≤ 200) (z : Nat) (hz : z ≤ 200) : Ev (fun k => spec_UnBase58.j2 k ds (List.replicate z 0)) (List.replicate z 0 ++ rebased 58 256 ds, true) := by
  obtain ⟨a, b⟩ := reb_len ds hds ds [] (fun _ h => h) (by simp)
  have h1 := reb_f 58 256 (by omega) (by omega) (by omega) (by omega) ds (by omega) hds
  have h2 := un_l2 (rebased 58 256 ds) b (by unfold rebased; simp at a; omega) (rebased 58 256 ds) [] (List.replicate z 0) rfl (by unfold rebased; simp at a ⊢; omega)
  refine Ev.step (fun k => ?_) (Ev.bind h1 (f := fun k t => spec_UnBase58.l2 k (List.replicate z 0) t (t.length : Int) 0) h2)
  simp only [spec_UnBase58.j2]

theorem un_l1 (ds : List Int) (hds : ∀ d ∈ ds, 0 ≤ d ∧ d < 256) (hl : ds.length ≤ 200) : ∀ (rest : List Int) (z : Nat), bytesOf s = List.replicate z 49 ++ rest →
    Ev (fun k => spec_UnBase58.l1 k s ds (List.replicate z 0) (z : Int)) (List.replicate (z + ones rest) 0 ++ rebased 58 256 ds, true) := by
  have hbl := bytesOf_length s
  intro rest
  induction rest with
  | nil =>
    intro z hz
    have hzl : z = s.size := by rw [← hbl, hz]; simp
    have := un_j2 ds hds hl z (by omega)
    refine Ev.step (fun k => ?_) this
    simp only [spec_UnBase58.l1]
    rw [if_neg (by omega)]
  | cons c rest ih =>
    intro z hz
    have hzl : z < s.size := by rw [← hbl, hz]; simp
    have hb : bt s (z : Int) = c := by
      have := bt_bytes s (List.replicate z 49) rest c hz
      simpa using this
    by_cases hc : c = 49
    · subst hc
      have := ih (z + 1) (by rw [hz, List.replicate_succ']; simp)
      have e : ones (49 :: rest) = ones rest + 1 := by simp [ones]
      rw [e, show z + (ones rest + 1) = z + 1 + ones rest from by omega]
      refine Ev.step (fun k => ?_) this
      simp only [spec_UnBase58.l1]
      rw [if_pos (by omega), if_pos (by omega), hb, if_pos rfl, if_pos (by simp; omega), w64 (by omega) (by omega), List.replicate_succ']
      rfl
    · have e : ones (c :: rest) = 0 := by simp [ones, hc]
      rw [e]
      refine Ev.step (fun k => ?_) (un_j2 ds hds hl z (by omega))
      simp only [spec_UnBase58.l1]
      rw [if_pos (by omega), if_pos (by omega), hb, if_neg hc]

theorem un_l0 : ∀ (rest done : List Int), bytesOf s = done ++ rest → valid done = true → ∃ b, Ev (fun k => spec_UnBase58.l0 k s (done.map dOf) [] (done.length : Int)) (unB (bytesOf s), b) := by
  have hbl := bytesOf_length s
  have hbr := bytes_range s
  intro rest
  induction rest with
  | nil =>
    intro done hd hv
    rw [List.append_nil] at hd
    have hdl : done.length = s.size := by rw [← hbl, hd]
    have hds : ∀ d ∈ done.map dOf, 0 ≤ d ∧ d < 256 := by
      intro d hd'
      obtain ⟨c, hc, rfl⟩ := List.mem_map.1 hd'
      have hcr := hbr c (by rw [hd]; exact hc)
      obtain ⟨_, g1, g2⟩ := idx_at c hcr.1 hcr.2
      omega
    have := un_l1 s hs (done.map dOf) hds (by simp; omega) done 0 (by rw [hd]; rfl)
    refine ⟨true, ?_⟩
    have e : unB (bytesOf s) = List.replicate (0 + ones done) 0 ++ rebased 58 256 (done.map dOf) := by
      unfold unB; rw [hd, if_pos hv, Nat.zero_add]
    rw [e]
    refine Ev.step (fun k => ?_) this
    simp only [spec_UnBase58.l0]
    rw [if_neg (by omega)]
    rfl
  | cons c rest ih =>
    intro done hd hv
    have hdl : done.length < s.size := by rw [← hbl, hd]; simp
    have hb : bt s (done.length : Int) = c := bt_bytes s done rest c hd
    have hcr := hbr c (by rw [hd]; simp)
    obtain ⟨_, g1, g2⟩ := idx_at c hcr.1 hcr.2
    have hi := idx_ev c hcr.1 hcr.2
    by_cases h255 : dOf c = 255
    · refine ⟨false, ?_⟩
      have e : unB (bytesOf s) = [] := by
        unfold unB valid; rw [if_neg]; rw [hd]; simp [h255]
      rw [e]
      rw [if_pos h255] at hi
      refine Ev.step (fun k => ?_) (Ev.bind hi (f := fun k t => if t < 0 then some (([] : List Int), false) else (if (done.map dOf).length < 17592186044416 then (spec_UnBase58.l0 k s (done.map dOf ++ [t]) [] (wrap64 ((done.length : Int) + 1))) else (none))) ?_)
      · simp only [spec_UnBase58.l0]
        rw [if_pos (by omega), if_pos (by omega), hb]
        rfl
      · exact Ev.congr (fun k => by rw [if_pos (by omega)]) (Ev.now _)
    · obtain ⟨b, hih⟩ := ih (done ++ [c]) (by rw [hd]; simp) (by unfold valid at hv ⊢; rw [List.all_append, hv]; simp [h255])
      refine ⟨b, ?_⟩
      rw [if_neg h255] at hi
      refine Ev.step (fun k => ?_) (Ev.bind hi (f := fun k t => if t < 0 then some (([] : List Int), false) else (if (done.map dOf).length < 17592186044416 then (spec_UnBase58.l0 k s (done.map dOf ++ [t]) [] (wrap64 ((done.length : Int) + 1))) else (none))) ?_)
      · simp only [spec_UnBase58.l0]
        rw [if_pos (by omega), if_pos (by omega), hb]
        rfl
      · refine Ev.congr (fun k => ?_) hih
        rw [if_neg (by omega), if_pos (by simp; omega), w64 (by omega) (by omega)]
        simp

theorem un_f : ∃ b, Ev (fun k => spec_UnBase58.f k s) (unB (bytesOf s), b) := un_l0 s hs (bytesOf s) [] rfl rfl
end

end Go.Proofs.YtpgfhcobfaceeaaDoor.PFnUnBase58
