/-
  Groups of bits as groups of another size, in plain words: no Go, no memory.
-/
import Derived.Lib.EndianBits
namespace Go.Proofs.Ythkijnfpllbdnaa.Grp

/-- The number that digits spell. -/
def val (B : Int) (l : List Int) : Int := l.foldl (fun a d => a * B + d) 0
theorem val_from (B : Int) : ∀ (l : List Int) (a : Int), l.foldl (fun a d => a * B + d) a = a * B ^ l.length + val B l
  | [], a => by simp [val]
  | d :: l, a => by
    have h1 := val_from B l (a * B + d)
    have h2 := val_from B l (0 * B + d)
    unfold val at *
    simp only [List.foldl_cons, List.length_cons]
    rw [h1, h2, Int.pow_succ]
    have e : (a * B + d) * B ^ l.length = a * (B ^ l.length * B) + d * B ^ l.length := by rw [Int.add_mul, Int.mul_assoc, Int.mul_comm B]
    have e2 : (0 * B + d) * B ^ l.length = d * B ^ l.length := by rw [Int.zero_mul, Int.zero_add]
    omega
theorem val_append (B : Int) (l r : List Int) : val B (l ++ r) = val B l * B ^ r.length + val B r := by
  unfold val
  rw [List.foldl_append, val_from]
  rfl
theorem val_snoc (B : Int) (l : List Int) (d : Int) : val B (l ++ [d]) = val B l * B + d := by
  rw [val_append]; simp [val, Int.pow_succ]
theorem val_nil (B : Int) : val B [] = 0 := rfl
theorem val_range (B : Int) (hB : 0 < B) : ∀ n (l : List Int), l.length = n → (∀ x ∈ l, 0 ≤ x ∧ x < B) → 0 ≤ val B l ∧ val B l < B ^ l.length := by
  intro n
  induction n with
  | zero =>
    intro l hl _
    obtain rfl := List.eq_nil_of_length_eq_zero hl
    simp [val]
  | succ n ih =>
    intro l hl h
    obtain ⟨l', x, rfl⟩ : ∃ l' x, l = l' ++ [x] := by
      rcases List.eq_nil_or_concat l with rfl | ⟨l', x, rfl⟩
      · simp at hl
      · exact ⟨l', x, by simp⟩
    obtain ⟨a, b⟩ := ih l' (by simpa using hl) (fun y hy => h y (List.mem_append_left _ hy))
    have hx := h x (by simp)
    rw [val_snoc, List.length_append, List.length_singleton, Int.pow_succ]
    have h1 : 0 ≤ val B l' * B := Int.mul_nonneg a (by omega)
    have h2 : (val B l' + 1) * B ≤ B ^ l'.length * B := Int.mul_le_mul_of_nonneg_right (by omega) (by omega)
    rw [Int.add_mul] at h2
    omega
/-- Digits are told by their number and how many they are. -/
theorem val_inj (B : Int) (hB : 0 < B) : ∀ n (l r : List Int), l.length = n → r.length = n → (∀ x ∈ l, 0 ≤ x ∧ x < B) → (∀ x ∈ r, 0 ≤ x ∧ x < B) → val B l = val B r → l = r := by
  intro n
  induction n with
  | zero =>
    intro l r hl hr _ _ _
    rw [List.eq_nil_of_length_eq_zero hl, List.eq_nil_of_length_eq_zero hr]
  | succ n ih =>
    intro l r hl hr h1 h2 h
    obtain ⟨l', x, rfl⟩ : ∃ l' x, l = l' ++ [x] := by
      rcases List.eq_nil_or_concat l with rfl | ⟨l', x, rfl⟩
      · simp at hl
      · exact ⟨l', x, by simp⟩
    obtain ⟨r', y, rfl⟩ : ∃ r' y, r = r' ++ [y] := by
      rcases List.eq_nil_or_concat r with rfl | ⟨l', x, rfl⟩
      · simp at hr
      · exact ⟨l', x, by simp⟩
    have hx := h1 x (by simp)
    have hy := h2 y (by simp)
    rw [val_snoc, val_snoc] at h
    have hm : x = y := by
      have e := congrArg (· % B) h
      simp only [Int.add_comm _ x, Int.add_comm _ y, Int.add_mul_emod_self_right] at e
      rwa [Int.emod_eq_of_lt hx.1 hx.2, Int.emod_eq_of_lt hy.1 hy.2] at e
    subst hm
    have hv : val B l' = val B r' := by
      have : val B l' * B = val B r' * B := by omega
      exact Int.eq_of_mul_eq_mul_right (by omega) this
    rw [ih l' r' (by simpa using hl) (by simpa using hr) (fun z hz => h1 z (List.mem_append_left _ hz)) (fun z hz => h2 z (List.mem_append_left _ hz)) hv]

/-- What is made so far: the groups, the next one, and how many bits it has. -/
structure St where
  R : List Int
  N : Int
  F : Nat
/-- The rest of a byte (its highest bits first), so many bits. -/
def ext (tb : Nat) : Nat → St → Int → Nat → St
  | 0, s, _, _ => s
  | k + 1, s, bb, rem =>
    if rem = 0 then s else
    let te := min rem (tb - s.F)
    let N1 := Go.bits .or .u8 (s.N * 2 ^ te % 256) (bb / 2 ^ (8 - te))
    let F1 := s.F + te
    ext tb k (if F1 = tb then ⟨s.R ++ [N1], 0, 0⟩ else ⟨s.R, N1, F1⟩) (bb * 2 ^ te % 256) (rem - te)
/-- Bytes, one by one. -/
def conv (fb tb : Nat) (data : List Int) (s : St) : St := data.foldl (fun s x => ext tb 8 s (x * 2 ^ (8 - fb) % 256) fb) s

/-- What a state says: the number of all bits so far, and how many they are. -/
structure Is (tb : Nat) (s : St) (V : Int) (m : Nat) : Prop where
  dig : ∀ x ∈ s.R, 0 ≤ x ∧ x < 2 ^ tb
  lo : 0 ≤ s.N
  hi : s.N < 2 ^ s.F
  few : s.F < tb
  num : val (2 ^ tb) s.R * 2 ^ s.F + s.N = V
  len : tb * s.R.length + s.F = m

theorem pow_pos' (n : Nat) : (0 : Int) < 2 ^ n := Int.pow_pos (by decide)

/-- One turn of the inner loop: te bits, the highest of the byte's rest. -/
theorem turn {tb te rem : Nat} {s : St} {V bb : Int} {m : Nat} (h : Is tb s V m) (htb : tb ≤ 8) (h1 : 1 ≤ te) (h2 : te ≤ tb - s.F) (h3 : te ≤ rem) (h4 : rem ≤ 8) {y : Int} (hb : bb = y * 2 ^ (8 - rem)) (hy0 : 0 ≤ y) (hy1 : y < 2 ^ rem) :
    Is tb (if s.F + te = tb then ⟨s.R ++ [Go.bits .or .u8 (s.N * 2 ^ te % 256) (bb / 2 ^ (8 - te))], 0, 0⟩ else ⟨s.R, Go.bits .or .u8 (s.N * 2 ^ te % 256) (bb / 2 ^ (8 - te)), s.F + te⟩) (V * 2 ^ te + y / 2 ^ (rem - te)) (m + te) ∧
    bb * 2 ^ te % 256 = (y % 2 ^ (rem - te)) * 2 ^ (8 - (rem - te)) ∧ 0 ≤ y % 2 ^ (rem - te) ∧ y % 2 ^ (rem - te) < 2 ^ (rem - te) := by
  have hte8 : te ≤ 8 := by omega
  obtain ⟨P, hP⟩ : ∃ P : Int, P = 2 ^ te := ⟨_, rfl⟩
  obtain ⟨Q, hQ⟩ : ∃ Q : Int, Q = 2 ^ (rem - te) := ⟨_, rfl⟩
  obtain ⟨W, hW⟩ : ∃ W : Int, W = 2 ^ (8 - rem) := ⟨_, rfl⟩
  have pP : 0 < P := by rw [hP]; exact pow_pos' _
  have pQ : 0 < Q := by rw [hQ]; exact pow_pos' _
  have pW : 0 < W := by rw [hW]; exact pow_pos' _
  have e1 : (2 : Int) ^ rem = P * Q := by rw [hP, hQ, ← Int.pow_add]; congr 1; omega
  have e2 : (2 : Int) ^ (8 - te) = Q * W := by rw [hQ, hW, ← Int.pow_add]; congr 1; omega
  have e3 : (2 : Int) ^ (8 - (rem - te)) = P * W := by rw [hP, hW, ← Int.pow_add]; congr 1; omega
  have e4 : P * (Q * W) = 256 := by rw [hP, ← e2, ← Int.pow_add, show te + (8 - te) = 8 by omega]; rfl
  have hq := Int.emod_add_mul_ediv y Q
  obtain ⟨u, hu⟩ : ∃ u, u = y / Q := ⟨_, rfl⟩
  obtain ⟨r, hr⟩ : ∃ r, r = y % Q := ⟨_, rfl⟩
  have hu0 : 0 ≤ u := by rw [hu]; exact Int.ediv_nonneg hy0 (by omega)
  have hr0 : 0 ≤ r := by rw [hr]; exact Int.emod_nonneg _ (by omega)
  have hr1 : r < Q := by rw [hr]; exact Int.emod_lt_of_pos _ pQ
  rw [← hu, ← hr] at hq
  have hu1 : u < P := by
    rw [hu]
    exact Int.ediv_lt_of_lt_mul pQ (by rw [e1] at hy1; exact hy1)
  have hbq : bb / 2 ^ (8 - te) = u := by
    rw [hb, ← hW, e2, Int.mul_ediv_mul_of_pos_left _ _ pW, hu]
  have hF : (2 : Int) ^ (s.F + te) = 2 ^ s.F * P := by rw [hP, Int.pow_add]
  obtain ⟨G, hG⟩ : ∃ G : Int, G = 2 ^ s.F := ⟨_, rfl⟩
  have hN := h.hi
  have hN0 := h.lo
  rw [← hG] at hN
  have hle : (2 : Int) ^ (s.F + te) ≤ 2 ^ 8 := by
    have := Nat.pow_le_pow_right (show 0 < 2 by decide) (show s.F + te ≤ 8 by omega)
    exact_mod_cast this
  have hNP : 0 ≤ s.N * P := Int.mul_nonneg hN0 (by omega)
  have hNP1 : (s.N + 1) * P ≤ G * P := Int.mul_le_mul_of_nonneg_right (by omega) (by omega)
  rw [Int.add_mul] at hNP1
  rw [hF, ← hG] at hle
  have h256 : (2 : Int) ^ 8 = 256 := by decide
  rw [h256] at hle
  have hor : Go.bits .or .u8 (s.N * 2 ^ te % 256) (bb / 2 ^ (8 - te)) = s.N * P + u := by
    rw [hbq, ← hP, Int.emod_eq_of_lt hNP (by omega)]
    exact bits_join .u8 8 (by decide) wraps_u8 te (s.N * P) u hNP (by rw [← hP]; exact Int.mul_emod_left _ _) (by omega) hu0 (by rw [← hP]; exact hu1) (by omega)
  have hnum : val (2 ^ tb) s.R * (G * P) + (s.N * P + u) = V * P + u := by
    rw [← h.num, ← hG, Int.add_mul, Int.mul_assoc]
    omega
  rw [← hP, ← hQ, ← hu, ← hr, e3]
  rw [hP] at hor
  rw [← hP] at hor
  refine ⟨?_, ?_, hr0, hr1⟩
  · rw [hor]
    by_cases hc : s.F + te = tb
    · rw [if_pos hc]
      have hT : (2 : Int) ^ tb = G * P := by rw [← hc, hF, hG]
      refine ⟨?_, Int.le_refl _, by simp, by show 0 < tb; omega, ?_, ?_⟩
      · intro x hx
        rcases List.mem_append.1 hx with g | g
        · exact h.dig x g
        · obtain rfl := List.mem_singleton.1 g
          rw [hT]
          omega
      · simp only [Int.pow_zero, Int.mul_one, Int.add_zero]
        rw [val_snoc, hT, ← hT]
        rw [← hT] at hnum
        exact hnum
      · have := h.len
        simp only [List.length_append, List.length_singleton, Nat.mul_add, Nat.mul_one]
        omega
    · rw [if_neg hc]
      refine ⟨h.dig, by show 0 ≤ s.N * P + u; omega, ?_, by show s.F + te < tb; omega, ?_, ?_⟩
      · show s.N * P + u < 2 ^ (s.F + te)
        rw [hF, ← hG]
        omega
      · show val (2 ^ tb) s.R * 2 ^ (s.F + te) + (s.N * P + u) = _
        rw [hF, ← hG]
        exact hnum
      · have := h.len
        simp only
        omega
  · have hsp : bb * P = u * 256 + r * (P * W) := by
      rw [hb, ← hW, ← hq, ← e4, Int.add_mul, Int.add_mul]
      have a1 : r * W * P = r * (P * W) := by rw [Int.mul_assoc, Int.mul_comm W P]
      have a2 : Q * u * W * P = u * (P * (Q * W)) := by
        rw [Int.mul_comm Q u, Int.mul_assoc u Q W, Int.mul_assoc u (Q * W) P, Int.mul_comm (Q * W) P]
      omega
    have hPW : 0 < P * W := Int.mul_pos pP pW
    have hb1 : (r + 1) * (P * W) ≤ Q * (P * W) := Int.mul_le_mul_of_nonneg_right (by omega) (by omega)
    rw [Int.add_mul] at hb1
    have hb2 : Q * (P * W) = 256 := by rw [← e4, ← Int.mul_assoc, ← Int.mul_assoc, Int.mul_comm Q P]
    have hb0 : 0 ≤ r * (P * W) := Int.mul_nonneg hr0 (by omega)
    rw [hsp]
    omega

theorem ext_is (tb : Nat) (htb : tb ≤ 8) : ∀ (k : Nat) (s : St) (V y : Int) (m rem : Nat), Is tb s V m → rem ≤ k → rem ≤ 8 → 0 ≤ y → y < 2 ^ rem → Is tb (ext tb k s (y * 2 ^ (8 - rem)) rem) (V * 2 ^ rem + y) (m + rem) := by
  intro k
  induction k with
  | zero =>
    intro s V y m rem h h1 _ h3 h4
    obtain rfl : rem = 0 := by omega
    have : y = 0 := by simp at h4; omega
    subst this
    simpa [ext] using h
  | succ k ih =>
    intro s V y m rem h h1 h2 h3 h4
    rw [ext]
    by_cases h0 : rem = 0
    · subst h0
      have : y = 0 := by simp at h4; omega
      subst this
      simpa using h
    · rw [if_neg h0]
      simp only
      have hf := h.few
      obtain ⟨te, hte⟩ : ∃ te, te = min rem (tb - s.F) := ⟨_, rfl⟩
      rw [← hte]
      obtain ⟨t1, t2, t3, t4⟩ := turn h htb (te := te) (rem := rem) (by omega) (by omega) (by omega) h2 rfl h3 h4
      rw [t2]
      have := ih _ _ _ _ _ t1 (show rem - te ≤ k by omega) (by omega) t3 t4
      have e : (V * 2 ^ te + y / 2 ^ (rem - te)) * 2 ^ (rem - te) + y % 2 ^ (rem - te) = V * 2 ^ rem + y := by
        rw [Int.add_mul, Int.mul_assoc, ← Int.pow_add, show te + (rem - te) = rem by omega, Int.add_assoc, Int.mul_comm (y / 2 ^ (rem - te)), Int.mul_ediv_add_emod]
      rw [e, show m + te + (rem - te) = m + rem by omega] at this
      exact this

theorem conv_is (fb tb : Nat) (hfb : fb ≤ 8) (htb : tb ≤ 8) : ∀ (data : List Int) (s : St) (V : Int) (m : Nat), Is tb s V m → (∀ x ∈ data, 0 ≤ x ∧ x < 2 ^ fb) →
    Is tb (conv fb tb data s) (V * (2 ^ fb) ^ data.length + val (2 ^ fb) data) (m + fb * data.length) := by
  intro data
  induction data with
  | nil => intro s V m h _; simpa [conv, val] using h
  | cons x data ih =>
    intro s V m h hr
    have hx := hr x List.mem_cons_self
    have hxb : x * 2 ^ (8 - fb) % 256 = x * 2 ^ (8 - fb) := by
      refine Int.emod_eq_of_lt (Int.mul_nonneg hx.1 (Int.le_of_lt (pow_pos' _))) ?_
      have h1 : (x + 1) * 2 ^ (8 - fb) ≤ 2 ^ fb * 2 ^ (8 - fb) := Int.mul_le_mul_of_nonneg_right (by omega) (Int.le_of_lt (pow_pos' _))
      rw [← Int.pow_add, show fb + (8 - fb) = 8 by omega, Int.add_mul] at h1
      have h2 := pow_pos' (8 - fb)
      have h3 : (2 : Int) ^ 8 = 256 := by decide
      omega
    have h1 := ext_is tb htb 8 s V x m fb h hfb hfb hx.1 hx.2
    have h2 := ih _ _ _ h1 (fun y hy => hr y (List.mem_cons_of_mem _ hy))
    unfold conv at h2 ⊢
    rw [List.foldl_cons, hxb]
    have e1 : (V * 2 ^ fb + x) * (2 ^ fb) ^ data.length + val (2 ^ fb) data = V * (2 ^ fb) ^ (x :: data).length + val (2 ^ fb) (x :: data) := by
      have e2 := val_from (2 ^ fb) data (0 * 2 ^ fb + x)
      unfold val at e2 ⊢
      rw [List.foldl_cons, e2, List.length_cons, Int.pow_succ, Int.add_mul, Int.add_mul, Int.zero_mul, Int.zero_mul, Int.mul_assoc, Int.mul_comm (2 ^ fb) ((2 ^ fb) ^ data.length)]
      omega
    rw [e1, show m + fb + fb * data.length = m + fb * (x :: data).length by rw [List.length_cons, Nat.mul_add]; omega] at h2
    exact h2

theorem is_short {tb : Nat} {s : St} {V : Int} {m : Nat} (h : Is tb s V m) (hm : m ≤ 1600) (ht : 1 ≤ tb) : s.R.length ≤ 1600 := by
  have h1 := h.len
  have h2 : 1 * s.R.length ≤ tb * s.R.length := Nat.mul_le_mul_right _ ht
  omega

/-- One round of the inner loop, as its relation goes on. -/
theorem round_facts {tb k rem te m : Nat} {s2 S : St} {V bb y : Int} (ht1 : 1 ≤ tb) (htb : tb ≤ 8) (hk : rem ≤ k) (h0 : 0 < rem) (h8 : rem ≤ 8) (hte : te = min rem (tb - s2.F)) (hX : ext tb k s2 bb rem = S)
    (hI : Is tb s2 V m ∧ bb = y * 2 ^ (8 - rem) ∧ 0 ≤ y ∧ y < 2 ^ rem ∧ m + rem ≤ 1600) (s3 : St)
    (h3 : s3 = if s2.F + te = tb then ⟨s2.R ++ [Go.bits .or .u8 (s2.N * 2 ^ te % 256) (bb / 2 ^ (8 - te))], 0, 0⟩ else ⟨s2.R, Go.bits .or .u8 (s2.N * 2 ^ te % 256) (bb / 2 ^ (8 - te)), s2.F + te⟩) :
    ∃ (k' m' : Nat) (V' y' : Int), rem - te ≤ k' ∧ ext tb k' s3 (bb * 2 ^ te % 256) (rem - te) = S ∧ (Is tb s3 V' m' ∧ bb * 2 ^ te % 256 = y' * 2 ^ (8 - (rem - te)) ∧ 0 ≤ y' ∧ y' < 2 ^ (rem - te) ∧ m' + (rem - te) ≤ 1600) ∧ s3.F < tb ∧ s3.R.length ≤ 1600 := by
  obtain ⟨a1, a2, a3, a4, a5⟩ := hI
  have hf := a1.few
  obtain ⟨t1, t2, t3, t4⟩ := turn a1 htb (te := te) (rem := rem) (by omega) (by omega) (by omega) h8 a2 a3 a4
  rw [← h3] at t1
  obtain ⟨k', rfl⟩ : ∃ k', k = k' + 1 := ⟨k - 1, by omega⟩
  refine ⟨k', m + te, _, _, by omega, ?_, ⟨t1, t2, t3, t4, by omega⟩, t1.few, is_short t1 (by omega) ht1⟩
  rw [ext, if_neg (by omega)] at hX
  simp only at hX
  rw [← hte, ← h3] at hX
  exact hX
end Go.Proofs.Ythkijnfpllbdnaa.Grp
