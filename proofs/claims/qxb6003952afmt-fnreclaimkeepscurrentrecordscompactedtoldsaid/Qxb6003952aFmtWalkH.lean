/- The walks of fmt.Errorf at the one format. -/
import Derived.Test.Qxb6003952aFmtWalkG
namespace Go.Proofs.Qxb6003952aFmt
open Go.RowKit Go.Extern.Stop Go.Stop Go.Extern
set_option linter.unusedVariables false

theorem call52 (args : Array Value) (w : World) : (callFunc 52 args).run Tryf.prog w = ((FmtStop.errorf #[9, 83] #[28] args).run Tryf.prog w).andThen fun v w' => .ok (.value v) w' :=
  run_callFunc_extern Tryf.func52 (by kernel_rfl) (by kernel_rfl) (by kernel_rfl) (by kernel_rfl) args w
theorem guardF (name : String) (w : World) : (FmtStop.guard name).run Tryf.prog w = .ok () w := by kernel_rfl
def shape3 : List UInt8 := [5, 3, 0, 0, 0, 0, 0, 0, 0, 105, 110, 116]
def shape9 : List UInt8 := [12, 6, 0, 0, 0, 0, 0, 0, 0, 115, 116, 114, 105, 110, 103]
theorem op9_115w (name : String) (x : ByteArray) (w : World) : (FmtStop.operand name true 115 false (.iface 9 (.string x))).run Tryf.prog w = .ok (shape9, FmtStop.pack x.data.toList) w := by kernel_rfl
theorem op3_100w (name : String) (x : Int) (w : World) : (FmtStop.operand name true 100 false (.iface 3 (.int .i64 x))).run Tryf.prog w = .ok (shape3, Go.Extern.Stop.digits 8 (x % 2 ^ 64).toNat) w := by kernel_rfl
theorem ptr102 (w : World) : (FmtStop.ptrTo "errors.errorString").run Tryf.prog w = .ok 102 w := by kernel_rfl
theorem elem102 (w : World) : (elemOf 102).run Tryf.prog w = .ok 104 w := by kernel_rfl
/-- The format. -/
def fullText : ByteArray := { data := #[118, 97, 114, 105, 97, 98, 108, 101, 32, 115, 116, 111, 114, 101, 32, 105, 115, 32, 102, 117, 108, 108, 58, 32, 37, 115, 32, 110, 101, 101, 100, 115, 32, 37, 100, 32, 98, 121, 116, 101, 115, 32, 97, 110, 100, 32, 37, 100, 32, 97, 114, 101, 32, 108, 101, 102, 116, 32, 111, 110, 99, 101, 32, 116, 104, 101, 32, 114, 111, 111, 109, 32, 111, 102, 32, 111, 108, 100, 101, 114, 32, 114, 101, 99, 111, 114, 100, 115, 32, 105, 115, 32, 114, 101, 99, 108, 97, 105, 109, 101, 100] }
theorem fmtF (w : World) : (FmtDoors.printed fullText 3).run Tryf.prog w = .ok [(0, 115, false), (1, 100, false), (2, 100, false)] w := by kernel_rfl

set_option maxHeartbeats 800000 in
theorem Errorf_at (blk : Nat) (s : ByteArray) (p q : Int) (F : Interp) (w : World) (hF : F.answers w.tape) (h0 : w.cell? ⟨blk, 0, none⟩ = some (.iface 9 (.string s))) (h1 : w.cell? ⟨blk, 1, none⟩ = some (.iface 3 (.int .i64 p))) (h2 : w.cell? ⟨blk, 2, none⟩ = some (.iface 3 (.int .i64 q))) :
    Calls Tryf.prog 45 #[.string fullText, .slice (some ⟨blk, 0, none⟩) 3 3] w fun e w' =>
      e = .returned (.iface 102 (.pointer (some ⟨w.heap.size, 0, none⟩))) ∧ Below w.heap.size w w' := by
  have hF' := answers_open hF
  have hc := call52
  have hg := guardF
  have hf := fmtF
  have a2 := op9_115w
  have a4 := op3_100w
  have a5 := ptr102
  have a6 := elem102
  go_enter Tryf.func45, Tryf.ntmps45
  go_wp2
  go_ret
  exact ⟨rfl, (((Below.refl _ _).alloc (Nat.le_refl _) _)).drew⟩
end Go.Proofs.Qxb6003952aFmt
