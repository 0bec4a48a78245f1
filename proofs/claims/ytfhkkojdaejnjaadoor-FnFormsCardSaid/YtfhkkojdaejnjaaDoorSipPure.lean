/-
  SipHash in plain words: words of eight bytes, the text filled up, the rounds.
-/
import Derived.Test.YtfhkkojdaejnjaaDoorStirWalk
namespace Go.Proofs.YtfhkkojdaejnjaaDoor.Gcs
open Go.RowKit Go.Proofs.YtfhkkojdaejnjaaDoor.Hand Go.Proofs.YtfhkkojdaejnjaaDoor.PFnForms Go.Proofs.YtfhkkojdaejnjaaDoorW.PrintWords Go.Proofs.YtfhkkojdaejnjaaDoorW.PrintLast Go.Proofs.YtfhkkojdaejnjaaDoorW.PrintMore

theorem info5 : (Tryd.prog.info? 5).map (fun i => (i.zero, i.size, i.bytes)) = some (some (.int .u8 0), 1, 1) := by kernel_rfl
theorem u64r (op : BinOp) (a b : Int) : 0 ≤ Go.bits op .u64 a b ∧ Go.bits op .u64 a b < 18446744073709551616 := ⟨bits_lo_u64 op a b, by have := bits_hi_u64 op a b; omega⟩
def wstep (x b : Int) : Int := Go.bits .or .u64 (IntKind.u64.wrap (x * 256)) (IntKind.u64.wrap b)
/-- Eight bytes as a number, the lowest first. -/
def wordP (l : List Int) : Int := (l.take 8).foldr (fun b x => wstep x b) 0
theorem word_f (l : List Int) (h : l.length = 8) : spec_word.f 9 l = some (wordP l) := by
  match l, h with
  | [a, b, c, d, e, f, g, i], _ => simp [spec_word.f, spec_word.l0, rd, wrap64, wordP, wstep]
theorem word_lo (l : List Int) : 0 ≤ wordP l ∧ wordP l < 18446744073709551616 := by
  unfold wordP
  cases l.take 8 with
  | nil => simp
  | cons b t =>
    rw [List.foldr_cons]
    generalize List.foldr (fun b x => wstep x b) 0 t = y
    unfold wstep
    exact u64r _ _ _
theorem word_any (A : Option Addr) (c : Nat) (l : List Int) (w : World) (h : l.length = 8) (hC : Kd.C (Kd.int .u8) w A 8 l) (hc : 8 ≤ c) :
    Calls Tryd.prog 40 #[.slice A 8 c] w fun e w' => e = .returned (.int .u64 (wordP l)) ∧ ∃ n, w' = w.drewN n := by
  rw [← h] at hC hc ⊢
  exact (spec_word.calls 9 A c l (wordP l) w hC hc (word_f l h)).mono fun e w' ⟨a, b⟩ => ⟨a, b.out⟩

/-- The text filled up: zeros, the length's last byte. -/
def padded (b : List Int) : List Int := b ++ List.replicate (7 - b.length % 8) 0 ++ [IntKind.u8.wrap b.length]
theorem padded_length (b : List Int) : (padded b).length = (b.length / 8 + 1) * 8 := by
  unfold padded
  simp only [List.length_append, List.length_replicate, List.length_singleton]
  omega
def sstep (v : N4) (m : Int) : N4 :=
  let u := stir (stir (v.1, v.2.1, v.2.2.1, Go.bits .xor .u64 v.2.2.2 m))
  (Go.bits .xor .u64 u.1 m, u.2.1, u.2.2.1, u.2.2.2)
/-- The first so many words of a text. -/
def run8 (v : N4) (t : List Int) : Nat → N4
  | 0 => v
  | n + 1 => sstep (run8 v t n) (wordP (t.drop (8 * n)))
def start4 (key : List Int) : N4 := (Go.bits .xor .u64 (wordP key) 8317987319222330741, Go.bits .xor .u64 (wordP (key.drop 8)) 7237128888997146477, Go.bits .xor .u64 (wordP key) 7816392313619706465, Go.bits .xor .u64 (wordP (key.drop 8)) 8387220255154660723)
def xor4 (u : N4) : Int := Go.bits .xor .u64 (Go.bits .xor .u64 (Go.bits .xor .u64 u.1 u.2.1) u.2.2.1) u.2.2.2
def ending4 (v : N4) : Int := xor4 (stir (stir (stir (stir (v.1, v.2.1, Go.bits .xor .u64 v.2.2.1 255, v.2.2.2)))))
def sipP (key b : List Int) : Int := ending4 (run8 (start4 key) (padded b) (b.length / 8 + 1))
theorem sip_lo (key b : List Int) : 0 ≤ sipP key b ∧ sipP key b < 18446744073709551616 := by
  unfold sipP ending4
  generalize stir _ = u
  unfold xor4
  exact u64r _ _ _
end Go.Proofs.YtfhkkojdaejnjaaDoor.Gcs
