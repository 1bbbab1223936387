/- The walk of reclaim: the kept records go over. -/
import Derived.Test.Qxb6003952aFmtWalkL
namespace Go.Proofs.Qxb6003952aFmt
open Go.RowKit Go.Extern.Stop Go.Stop Go.Extern
set_option linter.unusedVariables false

theorem placed_append (f : Nat) (L M : List Rec) : placed f (L ++ M) = placed f L ++ placed (frOf f L) M := by
  induction L generalizing f with
  | nil => rfl
  | cons r L ih => simp [placed, frOf, ih]
theorem len_placed (f : Nat) (L : List Rec) : (placed f L).length = L.length := by
  induction L generalizing f with
  | nil => rfl
  | cons r L ih => simp [placed, ih]
theorem copyAll_append (OB : Nat → Int) (f : Nat) (L M : List Rec) (X : Nat → Int) : copyAll OB f (L ++ M) X = copyAll OB (frOf f L) M (copyAll OB f L X) := by
  induction L generalizing f X with
  | nil => rfl
  | cons r L ih => simp [copyAll, frOf, ih]
theorem copyAll_snoc (OB : Nat → Int) (f : Nat) (L : List Rec) (r : Rec) (X : Nat → Int) : copyAll OB f (L ++ [r]) X = over (copyAll OB f L X) (frOf f L) (ln r) fun i => OB (r.off + i) := by
  rw [copyAll_append]
  funext i
  simp [copyAll, over]
end Go.Proofs.Qxb6003952aFmt
