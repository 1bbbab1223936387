/- The walks of fault, number, ZZNumber. -/
import Derived.Test.Qxb6003873aFmtRows
import Derived.WalkKit
import Derived.WalkSpells
import Derived.WalkLawsBesides
import Derived.Stop.CallBack
import Derived.Stop.IfaceNil
import Derived.Deep.QuietTactic
import Derived.BigQuiet
import Derived.Deep.OwnRows
import Derived.RowKit3
namespace Go.Proofs.Qxb6003873aFmt
open Go.RowKit Go.Extern.Stop Go.Stop Go.Extern
set_option linter.unusedVariables false

theorem call31 (args : Array Value) (w : World) : (callFunc 31 args).run Tryf.prog w = (FmtCalls.sprintf #[9, 67] #[9] args).run Tryf.prog w :=
  run_callFunc_next Tryf.func31 (by kernel_rfl) (by kernel_rfl) (by kernel_rfl) args w
theorem guardF (name : String) (w : World) : (FmtStop.guard name).run Tryf.prog w = .ok () w := by kernel_rfl
theorem nextTurns : Extern.next FmtCalls.turnsRow = some (FmtCalls.begun #[] #[]) := by kernel_rfl

/-- The one format on the road. -/
def shortText0 : ByteArray := { data := #[116, 104, 101, 32, 100, 97, 116, 97, 32, 101, 110, 100, 115, 32, 105, 110, 115, 105, 100, 101, 32, 116, 104, 101, 32, 118, 97, 108, 117, 101] }
theorem fmt0 : FmtStop.printed? { data := #[116, 104, 101, 32, 100, 97, 116, 97, 32, 101, 110, 100, 115, 32, 105, 110, 115, 105, 100, 101, 32, 116, 104, 101, 32, 118, 97, 108, 117, 101] } 0 = some [] := by kernel_rfl

set_option maxHeartbeats 400000 in
theorem fault_any (F : Interp) (r : Value) (at_ : Int) (w : World) (hF : F.answers w.tape) :
    Calls Tryf.prog 28 #[r, .int .i64 at_, .string { data := #[116, 104, 101, 32, 100, 97, 116, 97, 32, 101, 110, 100, 115, 32, 105, 110, 115, 105, 100, 101, 32, 116, 104, 101, 32, 118, 97, 108, 117, 101] }, .slice none 0 0] w fun e w' =>
      e = .returned (.iface 68 (.pointer (some ⟨w.heap.size, 0, none⟩))) ∧ Below w.heap.size w w' := by
  have hF' := answers_open hF
  have hc := call31
  have hg := guardF
  have hf := fmt0
  go_enter Tryf.func28, Tryf.ntmps28
  go_wp2
  apply rows_value nextTurns
  case hr =>
    go_simp
    exact ⟨rfl, rfl⟩
  case h =>
    go_wp2
    go_ret
    exact ⟨rfl, (((Below.refl _ _).alloc (Nat.le_refl _) _)).drew⟩

/-- The number that the k bytes from p on make, big-endian. -/
def be (X : Nat → Int) (p : Nat) : Nat → Int
  | 0 => 0
  | k + 1 => be X p k * 256 + X (p + k)

theorem below_drewN {w w' : World} {q : Nat} (h : Below (w.drewN q).heap.size (w.drewN q) w') : Below w.heap.size w w' := ⟨h.os, h.tape, h.output, h.size, h.block⟩

/-- Not enough bytes: an error; the reader stands where it stood. -/
theorem number_short (F : Interp) (rb n c : Nat) (ao : Option Addr) (pos at_ size : Int) (w : World) (hF : F.answers w.tape)
    (h0 : w.cell? ⟨rb, 0, none⟩ = some (.slice ao n c)) (h1 : w.cell? ⟨rb, 1, none⟩ = some (.int .i64 pos)) (hn : n ≤ 1048576) (hp0 : 0 ≤ pos) (hp : pos ≤ n) (hs0 : 0 ≤ size) (hs : size ≤ 8) (h : (n : Int) - pos < size) :
    Calls Tryf.prog 23 #[.pointer (some ⟨rb, 0, none⟩), .int .i64 at_, .int .i64 size] w fun e w' => (∃ p, e = .returned (.tuple #[.int .u64 0, .iface 68 p])) ∧ Below w.heap.size w w' := by
  go_enter Tryf.func23, Tryf.ntmps23
  go_wp2_with fail
  go_quiet (fail)
  go_wp2_with fail
  refine (fault_any F _ at_ _ (by exact hF)).mono ?_
  rintro e w' ⟨rfl, hb⟩
  go_wp2_with fail
  go_ret2
  exact ⟨⟨_, rfl⟩, below_drewN hb⟩

theorem below_any (w : World) (B q : Nat) : Below B w (w.drewN q) := ⟨rfl, rfl, rfl, Nat.le_refl _, fun _ _ => rfl⟩

theorem be_bd {X : Nat → Int} (hX : ∀ i, 0 ≤ X i ∧ X i < 256) (p k : Nat) : 0 ≤ be X p k ∧ be X p k < 256 ^ k := by
  induction k with
  | zero => simp [be]
  | succ k ih =>
    have := hX (p + k)
    rw [be, Int.pow_succ]
    omega

theorem be_lt56 {X : Nat → Int} (hX : ∀ i, 0 ≤ X i ∧ X i < 256) (p k : Nat) (hk : k < 8) : 0 ≤ be X p k ∧ be X p k < 72057594037927936 := by
  have h := be_bd hX p k
  refine ⟨h.1, ?_⟩
  have h2 := h.2
  rcases (show k = 0 ∨ k = 1 ∨ k = 2 ∨ k = 3 ∨ k = 4 ∨ k = 5 ∨ k = 6 ∨ k = 7 by omega) with rfl | rfl | rfl | rfl | rfl | rfl | rfl | rfl <;> omega
theorem be_lt64 {X : Nat → Int} (hX : ∀ i, 0 ≤ X i ∧ X i < 256) (p k : Nat) (hk : k ≤ 8) : 0 ≤ be X p k ∧ be X p k < 18446744073709551616 := by
  have h := be_bd hX p k
  refine ⟨h.1, ?_⟩
  have h2 := h.2
  rcases (show k = 0 ∨ k = 1 ∨ k = 2 ∨ k = 3 ∨ k = 4 ∨ k = 5 ∨ k = 6 ∨ k = 7 ∨ k = 8 by omega) with rfl | rfl | rfl | rfl | rfl | rfl | rfl | rfl | rfl <;> omega
theorem or_step {u x : Int} (h0 : 0 ≤ u) (h1 : u < 72057594037927936) (x0 : 0 ≤ x) (x1 : x < 256) : bits .or .u64 (IntKind.u64.wrap (u * 256)) x = u * 256 + x := by
  have e : IntKind.u64.wrap (u * 256) = u * 256 := by rw [IntKind.wrap_u64]; omega
  rw [e, u64_or _ _ (by omega) (by omega) x0 (by omega)]
  obtain ⟨u, rfl⟩ := Int.eq_ofNat_of_zero_le h0
  obtain ⟨x, rfl⟩ := Int.eq_ofNat_of_zero_le x0
  have h := Nat.two_pow_add_eq_or_of_lt (i := 8) (b := x) (by omega) u
  have e1 : ((u : Int) * 256).toNat = 2 ^ 8 * u := by omega
  have e2 : ((x : Int)).toNat = x := by omega
  rw [e1, e2, ← h]
  omega

set_option maxHeartbeats 400000 in
theorem number_ok (rb b n c : Nat) (p sz : Nat) (X : Nat → Int) (at_ : Int) (w : World)
    (h0 : w.cell? ⟨rb, 0, none⟩ = some (.slice (some ⟨b, 0, none⟩) n c)) (h1 : w.cell? ⟨rb, 1, none⟩ = some (.int .i64 (p : Int))) (hf : w.frozen? ⟨rb, 1, none⟩ = false) (hn : n ≤ 1048576) (hnc : n ≤ c) (hc : c ≤ 9223372036854775807)
    (hs0 : 0 < sz) (hs : sz ≤ 8) (h : p + sz ≤ n) (hX : ∀ i, 0 ≤ X i ∧ X i < 256) (hcell : ∀ i, i < n → w.cell? ⟨b, i, none⟩ = some (.int .u8 (X i))) :
    Calls Tryf.prog 23 #[.pointer (some ⟨rb, 0, none⟩), .int .i64 at_, .int .i64 (sz : Int)] w fun e w' =>
      e = .returned (.tuple #[.int .u64 (be X p sz), .nilIface]) ∧ Below rb w w' ∧ w'.cell? ⟨rb, 1, none⟩ = some (.int .i64 ((p : Int) + (sz : Int))) ∧ w'.heap.size = w.heap.size := by
  have HC : Hid (∀ i, i < n → w.cell? ⟨b, i, none⟩ = some (.int .u8 (X i))) := hcell
  have HX : Hid (∀ i, 0 ≤ X i ∧ X i < 256) := hX
  clear hcell hX
  have t1 : decide ((n : Int) - (p : Int) < (sz : Int)) = false := by simp; omega
  have t2 : ¬ c = p := by omega
  have he : p + sz - p = sz := by omega
  go_enter Tryf.func23, Tryf.ntmps23
  go_wp2_with fail
  go_quiet (fail)
  go_wp2_with fail
  go_quiet (fail)
  go_wp2_with fail
  go_loop [8, 42] (fun u i => ∃ k : Nat, k ≤ sz ∧ i = .int .i64 k ∧ u = .int .u64 (be X p k)) (fun _ i => sz - (intOf i).toNat)
  case atStart => exact ⟨0, Nat.zero_le _, rfl, rfl⟩
  case round =>
    obtain ⟨k, hk, rfl, rfl⟩ := hrel
    by_cases hlt : k < sz
    · have hcc := HC.out (p + k) (by omega)
      have hx := HX.out (p + k)
      have hb := be_lt56 HX.out p k (by omega)
      have hor := or_step hb.1 hb.2 hx.1 hx.2
      have hi' : (k : Int) < (sz : Int) := by omega
      have ebe : be X p (k + 1) = be X p k * 256 + X (p + k) := rfl
      have HB : Hid (be X p (k + 1) = be X p k * 256 + X (p + k)) := ebe
      clear hb ebe
      go_wp2_with fail
      exact ⟨⟨_, _, _, ⟨k + 1, by omega, rfl, rfl⟩, by rw [HB.out], rfl, by go_num⟩, by simp [intOf]; omega⟩
    · have hd : decide ((k : Int) < (sz : Int)) = false := by simp; omega
      obtain rfl : k = sz := by omega
      go_wp2_with fail
      go_ret2
      refine ⟨rfl, ?_, ?_, ?_⟩
      · exact Below.setCell (p := ⟨rb, 1, none⟩) (below_any w rb _) (Nat.le_refl _) _
      · go_simp
      · simp [World.setCell]

set_option maxHeartbeats 400000 in
theorem number_zero (rb n c : Nat) (ao : Option Addr) (p : Nat) (at_ : Int) (w : World)
    (h0 : w.cell? ⟨rb, 0, none⟩ = some (.slice ao n c)) (h1 : w.cell? ⟨rb, 1, none⟩ = some (.int .i64 (p : Int))) (hf : w.frozen? ⟨rb, 1, none⟩ = false) (hn : n ≤ 1048576) (hnc : n ≤ c) (hc : c ≤ 9223372036854775807)
    (h : p ≤ n) :
    Calls Tryf.prog 23 #[.pointer (some ⟨rb, 0, none⟩), .int .i64 at_, .int .i64 0] w fun e w' =>
      e = .returned (.tuple #[.int .u64 0, .nilIface]) ∧ Below rb w w' ∧ w'.cell? ⟨rb, 1, none⟩ = some (.int .i64 (p : Int)) ∧ w'.heap.size = w.heap.size := by
  have t1 : decide ((n : Int) - (p : Int) < 0) = false := by simp; omega
  have hd : decide ((0 : Int) < 0) = false := by decide
  by_cases hcp : c = p
  · subst hcp
    go_enter Tryf.func23, Tryf.ntmps23
    go_wp2_with fail
    go_quiet (fail)
    go_wp2_with fail
    go_quiet (fail)
    go_wp2_with fail
    refine wp_loop_rounds 1 ?_
    rw [rounds_succ]
    go_wp2_with fail
    go_ret2
    refine ⟨rfl, ?_, ?_, ?_⟩
    · exact Below.setCell (p := ⟨rb, 1, none⟩) (below_any w rb _) (Nat.le_refl _) _
    · go_simp
    · simp [World.setCell]
  · have he : p + 0 - p = 0 := by omega
    go_enter Tryf.func23, Tryf.ntmps23
    go_wp2_with fail
    go_quiet (fail)
    go_wp2_with fail
    go_quiet (fail)
    go_wp2_with fail
    refine wp_loop_rounds 1 ?_
    rw [rounds_succ]
    go_wp2_with fail
    go_ret2
    refine ⟨rfl, ?_, ?_, ?_⟩
    · exact Below.setCell (p := ⟨rb, 1, none⟩) (below_any w rb _) (Nat.le_refl _) _
    · go_simp
    · simp [World.setCell]
end Go.Proofs.Qxb6003873aFmt
