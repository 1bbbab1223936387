/- The walk of reclaim: the store takes what was made. -/
import Derived.Test.Qxb6003952aFmtWalkM
namespace Go.Proofs.Qxb6003952aFmt
open Go.RowKit Go.Extern.Stop Go.Stop Go.Extern
set_option linter.unusedVariables false

set_option maxRecDepth 100000 in
set_option maxHeartbeats 3200000 in
/-- The store takes what was made. -/
theorem rest_yes4 (s nb T n cap start fr0 fr en_ : Nat) (ao : Option Addr) (ov0 ov1 : Value) (R : Ending → World → Prop) (a : Act) (w : World) (hsz : a.tmps.size = 193) (hd : a.defers = [])
    (h0 : a.tmps.getD 0 undef = .pointer (some ⟨s, 0, none⟩)) (h7 : a.tmps.getD 7 undef = .slice ao n cap) (h12 : a.tmps.getD 12 undef = .slice (some ⟨nb, 0, none⟩) T T) (h15 : a.tmps.getD 15 undef = .int .i64 (fr : Int))
    (hst : w.heap[s]? = some (.cells #[ov0, ov1, .int .i64 (start : Int), .int .i64 (fr0 : Int), .int .i64 (en_ : Int)] 72 (0, 0)))
    (hR : ∀ w', w'.heap[s]? = some (.cells #[.slice (some ⟨nb, 0, none⟩) T T, .slice ao n cap, .int .i64 (start : Int), .int .i64 (fr : Int), .int .i64 (en_ : Int)] 72 (0, 0)) → w.grownBy w' (some s) → R (.returned .nilIface) w') :
    Code.wp Tryf.prog (tl 12 (Tryf.f36.body.getD .skip)) (bodyPost Tryf.prog Tryf.f36 R) a w := by
  obtain ⟨f, hf, rfl⟩ := lit193 a hsz hd
  have e0 : f 0 = .pointer (some ⟨s, 0, none⟩) := (hf 0).symm.trans h0
  have e7 : f 7 = .slice ao n cap := (hf 7).symm.trans h7
  have e12 : f 12 = .slice (some ⟨nb, 0, none⟩) T T := (hf 12).symm.trans h12
  have e15 : f 15 = .int .i64 (fr : Int) := (hf 15).symm.trans h15
  have HR : Hid (∀ w', w'.heap[s]? = some (.cells #[.slice (some ⟨nb, 0, none⟩) T T, .slice ao n cap, .int .i64 (start : Int), .int .i64 (fr : Int), .int .i64 (en_ : Int)] 72 (0, 0)) → w.grownBy w' (some s) → R (.returned .nilIface) w') := hR
  rw [e0, e7, e12, e15]
  have cs : ∀ j, w.cell? ⟨s, j, none⟩ = (#[ov0, ov1, .int .i64 (start : Int), .int .i64 (fr0 : Int), .int .i64 (en_ : Int)] : Array Value)[j]? := fun j => cell_of_row w s j _ _ _ hst
  have c0 : w.cell? ⟨s, 0, none⟩ = some ov0 := cs 0
  have c1 : w.cell? ⟨s, 1, none⟩ = some ov1 := cs 1
  have c3 : w.cell? ⟨s, 3, none⟩ = some (.int .i64 (fr0 : Int)) := cs 3
  have hfz : ∀ j, w.frozen? ⟨s, j, none⟩ = false := fun j => by unfold World.frozen?; rw [hst]; simp
  have HST : Hid (w.heap[s]? = some (.cells #[ov0, ov1, .int .i64 (start : Int), .int .i64 (fr0 : Int), .int .i64 (en_ : Int)] 72 (0, 0))) := hst
  clear h0 h7 h12 h15 hf hsz hd e0 e7 e12 e15 hR hst cs
  conv => arg 2; whnf
  go_wp2_with fail
  refine HR.out _ ?_ ?_
  · simp [World.setCell, Array.getElem?_modify, HST.out]
  · have st : ∀ (v : World) (j : Nat) (x : Value), v.grownBy (v.setCell ⟨s, j, none⟩ x) (some s) := fun v j x => grown_setCells s [x] j v
    exact ((st _ _ _).trans (st _ _ _)).trans (st _ _ _)
end Go.Proofs.Qxb6003952aFmt
