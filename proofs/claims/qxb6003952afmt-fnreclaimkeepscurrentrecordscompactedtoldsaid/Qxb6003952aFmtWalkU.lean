/- The law's own function: parts of a code; what has been marked. -/
import Derived.Test.Qxb6003952aFmtPlainA
import Derived.Test.Qxb6003952aFmtWalkT
namespace Go.Proofs.Qxb6003952aFmt
open Go.RowKit Go.Extern.Stop Go.Stop Go.Extern
set_option linter.unusedVariables false

/-- The parts of a sequence; what a block or a loop holds. -/
def sx : Code → Code
  | .seq a _ => a
  | c => c
def sy : Code → Code
  | .seq _ b => b
  | c => c
def bx : Code → Code
  | .block _ c => c
  | .loop c => c
  | c => c
/-- What has been marked. -/
def Mark (start : Nat) (K : List Rec) (k : Nat) (C : Nat → Bool) : Prop := ∀ q, q < k → ∀ i, nO start K q ≤ i → i < nE start K q → C i = true
def MarkJ (start : Nat) (K : List Rec) (k o j : Nat) (C : Nat → Bool) : Prop := Mark start K k C ∧ ∀ i, i < j → C (o + i) = true
theorem Mark.begin {start : Nat} {K : List Rec} {k : Nat} {C : Nat → Bool} (h : Mark start K k C) (o : Nat) : MarkJ start K k o 0 C := ⟨h, fun i hi => by omega⟩
theorem MarkJ.step {start : Nat} {K : List Rec} {k o j : Nat} {C : Nat → Bool} (h : MarkJ start K k o j C) : MarkJ start K k o (j + 1) (fun i => if i = o + j then true else C i) := by
  refine ⟨fun q hq i h1 h2 => ?_, fun i hi => ?_⟩
  · show (if i = o + j then true else C i) = true
    split
    · rfl
    · exact h.1 q hq i h1 h2
  · show (if o + i = o + j then true else C (o + i)) = true
    split
    · rfl
    · exact h.2 i (by omega)
theorem MarkJ.done {start : Nat} {K : List Rec} {k j : Nat} {C : Nat → Bool} (h : MarkJ start K k (nO start K k) j C) (hj : nE start K k ≤ nO start K k + j) : Mark start K (k + 1) C := by
  intro q hq i h1 h2
  by_cases e : q = k
  · subst e
    have := h.2 (i - nO start K q) (by omega)
    rwa [show nO start K q + (i - nO start K q) = i by omega] at this
  · exact h.1 q (by omega) i h1 h2
theorem put_bool {w : World} {b T k : Nat} {C : Nat → Bool} (h : w.rowIs b 4 T fun i => .bool (C i)) : (w.setCell ⟨b, k, none⟩ (.bool true)).rowIs b 4 T fun i => .bool (if i = k then true else C i) := by
  refine (h.set k _).congr fun j _ => ?_
  by_cases e : j = k
  · subst e; simp
  · simp [e]
theorem below_drew' {B : Nat} {w w' : World} (h : Below B w w') (q : Nat) : Below B w (w'.drewN q) := ⟨h.os, h.tape, h.output, h.size, h.block⟩
end Go.Proofs.Qxb6003952aFmt
