/- fmt's stops on the road; the walk of errorf. -/
import Derived.Test.Qxb6003930aFmtRows
import Derived.WalkKit
import Derived.WalkSpells
import Derived.WalkLawsBesides
import Derived.Stop.CallBack
import Derived.Stop.IfaceNil
import Derived.Deep.QuietTactic
import Derived.BigQuiet
import Derived.Deep.RegionWith
import Derived.Deep.RegionLaw
import Derived.Deep.OwnRows
import Derived.RowKit3
namespace Go.Proofs.Qxb6003930aFmt
open Go.RowKit Go.Extern.Stop Go.Stop Go.Extern
set_option linter.unusedVariables false

theorem call30 (args : Array Value) (w : World) : (callFunc 30 args).run Tryf.prog w = (FmtCalls.sprintf #[9, 52] #[9] args).run Tryf.prog w :=
  run_callFunc_next Tryf.func30 (by kernel_rfl) (by kernel_rfl) (by kernel_rfl) args w
theorem call32 (args : Array Value) (w : World) : (callFunc 32 args).run Tryf.prog w = (FmtCalls.errorf #[9, 52] #[26] args).run Tryf.prog w :=
  run_callFunc_next Tryf.func32 (by kernel_rfl) (by kernel_rfl) (by kernel_rfl) args w
theorem guardF (name : String) (w : World) : (FmtStop.guard name).run Tryf.prog w = .ok () w := by kernel_rfl
theorem nextTurns : Extern.next FmtCalls.turnsRow = some (FmtCalls.begun #[] #[]) := by kernel_rfl

def shape5 : List UInt8 := [6, 5, 0, 0, 0, 0, 0, 0, 0, 117, 105, 110, 116, 56]
def shape3 : List UInt8 := [5, 3, 0, 0, 0, 0, 0, 0, 0, 105, 110, 116]
def shape9 : List UInt8 := [12, 6, 0, 0, 0, 0, 0, 0, 0, 115, 116, 114, 105, 110, 103]
theorem act5_113 (name : String) (x : Value) (w : World) : (FmtCalls.act name false 113 false (.iface 5 x)).run Tryf.prog w = .ok (.closed false) w := by kernel_rfl
theorem op5_113 (name : String) (x : Int) (w : World) : (FmtStop.operand name false 113 false (.iface 5 (.int .u8 x))).run Tryf.prog w = .ok (shape5, Go.Extern.Stop.digits 8 (x % 2 ^ 64).toNat) w := by kernel_rfl
theorem act9_115w (name : String) (x : Value) (w : World) : (FmtCalls.act name true 115 false (.iface 9 x)).run Tryf.prog w = .ok (.closed true) w := by kernel_rfl
theorem op9_115w (name : String) (x : ByteArray) (w : World) : (FmtStop.operand name true 115 false (.iface 9 (.string x))).run Tryf.prog w = .ok (shape9, FmtStop.pack x.data.toList) w := by kernel_rfl
theorem act9_113w (name : String) (x : Value) (w : World) : (FmtCalls.act name true 113 false (.iface 9 x)).run Tryf.prog w = .ok (.closed true) w := by kernel_rfl
theorem op9_113w (name : String) (x : ByteArray) (w : World) : (FmtStop.operand name true 113 false (.iface 9 (.string x))).run Tryf.prog w = .ok (shape9, FmtStop.pack x.data.toList) w := by kernel_rfl
theorem act3_100w (name : String) (x : Value) (w : World) : (FmtCalls.act name true 100 false (.iface 3 x)).run Tryf.prog w = .ok (.closed true) w := by kernel_rfl
theorem op3_100w (name : String) (x : Int) (w : World) : (FmtStop.operand name true 100 false (.iface 3 (.int .i64 x))).run Tryf.prog w = .ok (shape3, Go.Extern.Stop.digits 8 (x % 2 ^ 64).toNat) w := by kernel_rfl
theorem ptr56 (w : World) : (FmtStop.ptrTo "errors.errorString").run Tryf.prog w = .ok 56 w := by kernel_rfl
theorem elem56 (w : World) : (elemOf 56).run Tryf.prog w = .ok 58 w := by kernel_rfl

theorem fmt1 : FmtStop.printed? { data := #[101, 120, 112, 101, 99, 116, 101, 100, 32, 97, 32, 99, 111, 109, 109, 97, 44, 32, 102, 111, 117, 110, 100, 32, 37, 113] } 1 = some [(0, 113, false)] := by kernel_rfl
theorem fmt2 : FmtStop.printed? { data := #[116, 114, 97, 105, 108, 105, 110, 103, 32, 99, 111, 109, 109, 97] } 0 = some [] := by kernel_rfl
theorem fmt3 : FmtStop.printed? { data := #[117, 110, 101, 120, 112, 101, 99, 116, 101, 100, 32, 37, 113] } 1 = some [(0, 113, false)] := by kernel_rfl
theorem fmt5 (w : World) : (FmtDoors.printed { data := #[37, 115, 32, 97, 116, 32, 111, 102, 102, 115, 101, 116, 32, 37, 100] } 2).run Tryf.prog w = .ok [(0, 115, false), (1, 100, false)] w := by kernel_rfl

/-- fmt.Errorf at the one format of the parser's errorf: a new error; nothing old has turned. -/
theorem Errorf_at (blk : Nat) (s : ByteArray) (p : Int) (F : Interp) (w : World) (hF : F.answers w.tape) (h0 : w.cell? ⟨blk, 0, none⟩ = some (.iface 9 (.string s))) (h1 : w.cell? ⟨blk, 1, none⟩ = some (.iface 3 (.int .i64 p))) :
    Calls Tryf.prog 27 #[.string { data := #[37, 115, 32, 97, 116, 32, 111, 102, 102, 115, 101, 116, 32, 37, 100] }, .slice (some ⟨blk, 0, none⟩) 2 2] w fun e w' =>
      e = .returned (.iface 56 (.pointer (some ⟨w.heap.size, 0, none⟩))) ∧ Below w.heap.size w w' := by
  have hF' := answers_open hF
  have hc := call32
  have hg := guardF
  have hf := fmt5
  have a1 := act9_115w
  have a2 := op9_115w
  have a3 := act3_100w
  have a4 := op3_100w
  have a5 := ptr56
  have a6 := elem56
  go_enter Tryf.func27, Tryf.ntmps27
  go_wp2
  apply rows_value nextTurns
  case hr =>
    go_simp
    exact ⟨rfl, rfl⟩
  case h =>
    go_wp2
    go_ret
    exact ⟨rfl, (((Below.refl _ _).alloc (Nat.le_refl _) _)).drew⟩

theorem sprintf_q (F : Interp) (c : Int) (vb : Nat) (f : ByteArray) (w : World) (hF : F.answers w.tape) (hc : w.cell? ⟨vb, 0, none⟩ = some (.iface 5 (.int .u8 c))) {R : Value → World → Prop} (hR : ∀ s, R (.string s) w.drew) :
    Rows Tryf.prog FmtCalls.turnsRow (FmtCalls.save 0 0 (.slice (some ⟨vb, 0, none⟩) 1 1) f [] [(0, 113, false)]) w R := by
  have hF' := answers_open hF
  have a1 := act5_113
  have a2 := op5_113
  apply rows_value nextTurns
  case hr =>
    go_simp
    exact ⟨rfl, rfl⟩
  case h => exact hR _
theorem sprintf_0 (F : Interp) (f : ByteArray) (w : World) (hF : F.answers w.tape) {R : Value → World → Prop} (hR : ∀ s, R (.string s) w.drew) :
    Rows Tryf.prog FmtCalls.turnsRow (FmtCalls.save 0 0 (.slice none 0 0) f [] []) w R := by
  have hF' := answers_open hF
  apply rows_value nextTurns
  case hr =>
    go_simp
    exact ⟨rfl, rfl⟩
  case h => exact hR _

set_option maxHeartbeats 800000 in
theorem errorf_core (F : Interp) (pb : Nat) (p : Int) (f : ByteArray) (a : Value) (args0 : Array Value) (w : World) (hF : F.answers w.tape) (hp : w.cell? ⟨pb, 1, none⟩ = some (.int .i64 p))
    (hrow : ∀ w, (callFunc 30 #[.string f, a]).run Tryf.prog w = .ok (.row FmtCalls.turnsRow args0) w)
    (HS : Hid (∀ w' : World, (∀ x, w'.cell? x = w.cell? x) → w'.tape = w.tape → ∀ R : Value → World → Prop, (∀ s, R (.string s) w'.drew) → Rows Tryf.prog FmtCalls.turnsRow args0 w' R)) :
    Calls Tryf.prog 23 #[.pointer (some ⟨pb, 0, none⟩), .string f, a] w fun e w' => (∃ v, e = .returned (.iface 56 v)) ∧ Below w.heap.size w w' := by
  go_enter Tryf.func23, Tryf.ntmps23
  go_wp2_with fail
  go_region_law (first
    | (go_simp; refine HS.out _ (by exact fun _ => rfl) (by exact rfl) _ ?_; intro s)
    | (go_simp; refine (Errorf_at w.heap.size s p F _ (by exact hF) (by go_simp) (by go_simp)).mono ?_; rintro e w' ⟨rfl, hb⟩; dsimp only))
  all_goals
    have HB : Hid (Below w.heap.size w w') := ((((Below.refl w.heap.size w).alloc (Nat.le_refl _) _).drew).drew).trans (hb.mono (by simp))
    clear hb
    go_wp2_with fail
    go_ret
    exact ⟨⟨_, rfl⟩, HB.out⟩

theorem errorf_q (F : Interp) (pb vb : Nat) (p c : Int) (f : ByteArray) (hf : FmtStop.printed? f 1 = some [(0, 113, false)]) (w : World) (hF : F.answers w.tape) (hp : w.cell? ⟨pb, 1, none⟩ = some (.int .i64 p)) (hc : w.cell? ⟨vb, 0, none⟩ = some (.iface 5 (.int .u8 c))) :
    Calls Tryf.prog 23 #[.pointer (some ⟨pb, 0, none⟩), .string f, .slice (some ⟨vb, 0, none⟩) 1 1] w fun e w' => (∃ v, e = .returned (.iface 56 v)) ∧ Below w.heap.size w w' := by
  refine errorf_core F pb p f _ (FmtCalls.save 0 0 (.slice (some ⟨vb, 0, none⟩) 1 1) f [] [(0, 113, false)]) w hF hp ?_ ?_
  · intro w2
    rw [call30]
    have hg := guardF
    go_simp
  · intro w2 hw ht R hR
    exact sprintf_q F c vb f w2 (by rw [ht]; exact hF) (by rw [hw]; exact hc) hR
theorem errorf_0 (F : Interp) (pb : Nat) (p : Int) (f : ByteArray) (hf : FmtStop.printed? f 0 = some []) (w : World) (hF : F.answers w.tape) (hp : w.cell? ⟨pb, 1, none⟩ = some (.int .i64 p)) :
    Calls Tryf.prog 23 #[.pointer (some ⟨pb, 0, none⟩), .string f, .slice none 0 0] w fun e w' => (∃ v, e = .returned (.iface 56 v)) ∧ Below w.heap.size w w' := by
  refine errorf_core F pb p f _ (FmtCalls.save 0 0 (.slice none 0 0) f [] []) w hF hp ?_ ?_
  · intro w2
    rw [call30]
    have hg := guardF
    go_simp
  · intro w2 hw ht R hR
    exact sprintf_0 F f w2 (by rw [ht]; exact hF) hR
end Go.Proofs.Qxb6003930aFmt
