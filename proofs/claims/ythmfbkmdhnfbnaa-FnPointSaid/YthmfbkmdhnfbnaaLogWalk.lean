/-
  math.Log gives some float, whatever it is given.
-/
import Derived.Test.YthmfbkmdhnfbnaaRows
import Derived.WalkKit
import Derived.WalkLawsBesides
import Derived.Outline
import Derived.Laws.FloatArith
import GoSem.Extern.MathLog
namespace Go.Proofs.Ythmfbkmdhnfbnaa.PFnNew
open Go.RowKit Go.Extern

/-- A computation that gives something, whatever the tape says, and only draws. -/
def Gives {α : Type} (m : Sem α) : Prop := ∀ (P : Program) (w : World), ∃ r n, m.run P w = .ok r (w.drewN n)
theorem drewN_add (w : World) (a b : Nat) : (w.drewN a).drewN b = w.drewN (a + b) := by
  induction b with
  | zero => rfl
  | succ b ih => show ((w.drewN a).drewN b).drew = _; rw [ih]; rfl
theorem Gives.pure {α : Type} (x : α) : Gives (pure x : Sem α) := fun P w => ⟨x, 0, by simp; rfl⟩
theorem Gives.bind {α β : Type} {m : Sem α} {f : α → Sem β} (h : Gives m) (k : ∀ x, Gives (f x)) : Gives (m >>= f) := fun P w => by
  obtain ⟨r, n, e⟩ := h P w
  obtain ⟨s, n2, e2⟩ := k r P (w.drewN n)
  refine ⟨s, n + n2, ?_⟩
  rw [← drewN_add, ← e2]
  simp [e]
theorem gives_choose (q : Question) : Gives (choose q) := fun P w => by
  by_cases h : q.forced
  · exact ⟨0, 0, by simp [h]; rfl⟩
  · exact ⟨q.cut (w.tape w.drawn q), 1, by simp [h]; rfl⟩

/-- A float, whatever its bits. -/
def GivesF (k : FloatKind) (m : Sem Value) : Prop := ∀ (P : Program) (w : World), ∃ r n, m.run P w = .ok (.float k r) (w.drewN n)
theorem givesF_pure (k : FloatKind) (r : Nat) : GivesF k (pure (.float k r)) := fun P w => ⟨r, 0, by simp; rfl⟩
theorem givesF_bind {α : Type} {k : FloatKind} {m : Sem α} {f : α → Sem Value} (h : Gives m) (g : ∀ x, GivesF k (f x)) : GivesF k (m >>= f) := fun P w => by
  obtain ⟨r, n, e⟩ := h P w
  obtain ⟨s, n2, e2⟩ := g r P (w.drewN n)
  refine ⟨s, n + n2, ?_⟩
  rw [← drewN_add, ← e2]
  simp [e]
theorem gives_opt (k : FloatKind) (x y : Nat) (o : Option Nat) : GivesF k (match o with | some r => pure (.float k r) | none => (do pure (.float k (← choose (.nanBits k x y))))) := by
  cases o with
  | some r => exact givesF_pure k r
  | none => exact givesF_bind (gives_choose _) (fun r => givesF_pure k r)
theorem gives_arith (op : BinOp) (k : FloatKind) (x y : Nat) (h : op = .add ∨ op = .sub ∨ op = .mul ∨ op = .quo) : GivesF k (Op.floatArith op k x y) := by
  unfold Op.floatArith
  rcases h with rfl | rfl | rfl | rfl
  all_goals exact gives_opt k x y _
theorem gives_mathArith (op : BinOp) (x y : Nat) (h : op = .add ∨ op = .sub ∨ op = .mul ∨ op = .quo) : Gives (Extern.MathAsm.arith op x y) := fun P w => by
  obtain ⟨r, n, e⟩ := gives_arith op .f64 x y h P w
  refine ⟨r, n, ?_⟩
  unfold Extern.MathAsm.arith
  simp [e]

theorem arch_arm (x : Nat) (h1 : Nat → Sem Value) (h2 : Array Value → Sem Value) : Extern.MathLog.archLog.match_1 (fun _ => Sem Value) #[Value.float FloatKind.f64 x] h1 h2 = h1 x := rfl
theorem gives_archLog (x : Nat) : GivesF .f64 (Extern.MathLog.archLog #[.float .f64 x]) := by
  unfold Extern.MathLog.archLog
  have ga : ∀ x y, Gives (Extern.MathAsm.add x y) := fun x y => gives_mathArith .add x y (.inl rfl)
  have gs : ∀ x y, Gives (Extern.MathAsm.sub x y) := fun x y => gives_mathArith .sub x y (.inr (.inl rfl))
  have gm : ∀ x y, Gives (Extern.MathAsm.mul x y) := fun x y => gives_mathArith .mul x y (.inr (.inr (.inl rfl)))
  have gd : ∀ x y, Gives (Extern.MathAsm.div x y) := fun x y => gives_mathArith .quo x y (.inr (.inr (.inr rfl)))
  rw [arch_arm]
  dsimp only
  repeat (first
    | (with_reducible exact givesF_pure _ _)
    | (split)
    | (with_reducible refine givesF_bind (ga _ _) (fun _ => ?_))
    | (with_reducible refine givesF_bind (gs _ _) (fun _ => ?_))
    | (with_reducible refine givesF_bind (gm _ _) (fun _ => ?_))
    | (with_reducible refine givesF_bind (gd _ _) (fun _ => ?_))
    | (with_reducible refine givesF_bind (Gives.pure _) (fun _ => ?_)))
end Go.Proofs.Ythmfbkmdhnfbnaa.PFnNew
