/- The walks of ZZNumber, zzCloneBytes. -/
import Derived.Test.Qxb6003873aFmtWalkA
namespace Go.Proofs.Qxb6003873aFmt
open Go.RowKit Go.Extern.Stop Go.Stop Go.Extern
set_option linter.unusedVariables false

/-- The bytes of a slice can be read. -/
def Dat (w : World) (ao : Option Addr) (n : Nat) (X : Nat → Int) : Prop := n = 0 ∨ ∃ b, ao = some ⟨b, 0, none⟩ ∧ ∀ i, i < n → w.cell? ⟨b, i, none⟩ = some (.int .u8 (X i))
theorem Dat.keep {w w' : World} {ao : Option Addr} {n : Nat} {X : Nat → Int} (h : Dat w ao n X) (hb : Below w.heap.size w w') : Dat w' ao n X := by
  rcases h with h | ⟨b, rfl, hc⟩
  · exact .inl h
  · exact .inr ⟨b, rfl, fun i hi => (hb.cell (p := ⟨b, i, none⟩) (block_lt_of_cell (hc i hi))).trans (hc i hi)⟩

set_option maxHeartbeats 400000 in
theorem zznumber_short (F : Interp) (n c : Nat) (ao : Option Addr) (pos at_ size : Int) (w : World) (hF : F.answers w.tape)
    (hn : n ≤ 1048576) (hp0 : 0 ≤ pos) (hp : pos ≤ n) (hs0 : 0 ≤ size) (hs : size ≤ 8) (h : (n : Int) - pos < size) :
    Calls Tryf.prog 15 #[.slice ao n c, .int .i64 pos, .int .i64 at_, .int .i64 size] w fun e w' => (∃ p, e = .returned (.tuple #[.int .u64 0, .int .i64 pos, .iface 68 p])) ∧ Below w.heap.size w w' := by
  go_enter Tryf.func15, Tryf.ntmps15
  go_wp2_with fail
  refine (number_short F w.heap.size n c ao pos at_ size _ (by exact hF) (by go_simp) (by go_simp) hn hp0 hp hs0 hs h).mono ?_
  rintro e w' ⟨⟨p, rfl⟩, hb⟩
  have hc1 : w'.cell? ⟨w.heap.size, 1, none⟩ = some (.int .i64 pos) := by
    rw [hb.cell (p := ⟨w.heap.size, 1, none⟩) (by simp)]; go_simp
  have HB : Hid (Below w.heap.size w w') := ((Below.refl _ _).alloc (Nat.le_refl _) _).trans (hb.mono (by simp))
  clear hb
  go_wp2_with fail
  go_quiet (fail)
  go_wp2_with fail
  go_ret3
  exact ⟨⟨p, rfl⟩, HB.out.trans (below_any w' _ _)⟩

set_option maxHeartbeats 400000 in
theorem zznumber_ok (n c : Nat) (ao : Option Addr) (p sz : Nat) (X : Nat → Int) (at_ : Int) (w : World)
    (hn : n ≤ 1048576) (hnc : n ≤ c) (hc : c ≤ 9223372036854775807) (hs : sz ≤ 8) (h : p + sz ≤ n) (hX : ∀ i, 0 ≤ X i ∧ X i < 256) (hd : Dat w ao n X) :
    Calls Tryf.prog 15 #[.slice ao n c, .int .i64 (p : Int), .int .i64 at_, .int .i64 (sz : Int)] w fun e w' => e = .returned (.tuple #[.int .u64 (be X p sz), .int .i64 ((p : Int) + (sz : Int)), .nilIface]) ∧ Below w.heap.size w w' := by
  have J : Hid (∀ W : World, Below w.heap.size w W → W.cell? ⟨w.heap.size, 0, none⟩ = some (.slice ao n c) → W.cell? ⟨w.heap.size, 1, none⟩ = some (.int .i64 (p : Int)) → W.frozen? ⟨w.heap.size, 1, none⟩ = false →
      Calls Tryf.prog 23 #[.pointer (some ⟨w.heap.size, 0, none⟩), .int .i64 at_, .int .i64 (sz : Int)] W fun e w' =>
        e = .returned (.tuple #[.int .u64 (be X p sz), .nilIface]) ∧ Below w.heap.size W w' ∧ w'.cell? ⟨w.heap.size, 1, none⟩ = some (.int .i64 ((p : Int) + (sz : Int))) ∧ w'.heap.size = W.heap.size) := by
    intro W hW h0 h1 hf
    by_cases hz : sz = 0
    · subst hz
      refine (number_zero w.heap.size n c ao p at_ W h0 h1 hf hn hnc hc (by omega)).mono ?_
      rintro e w' ⟨rfl, a, b, d⟩
      exact ⟨rfl, a, by simpa using b, d⟩
    · rcases hd.keep hW with hd | ⟨b, rfl, hcell⟩
      · omega
      · exact number_ok w.heap.size b n c p sz X at_ W h0 h1 hf hn hnc hc (by omega) hs h hX hcell
  clear hd hX
  go_enter Tryf.func15, Tryf.ntmps15
  go_wp2_with fail
  refine (J.out _ ((Below.refl _ _).alloc (Nat.le_refl _) _) (by go_simp) (by go_simp) (by go_simp)).mono ?_
  rintro e w' ⟨rfl, hb, hc1, hz⟩
  have HB : Hid (Below w.heap.size w w') := ((Below.refl _ _).alloc (Nat.le_refl _) _).trans hb
  clear hb hz J
  go_wp2_with fail
  go_quiet (fail)
  go_wp2_with fail
  go_ret3
  exact ⟨rfl, HB.out.trans (below_any w' _ _)⟩

/-! ### zzCloneBytes -/
theorem info5 : (Tryf.prog.info? 5).map (fun i => (i.zero, i.size, i.bytes)) = some (some (.int .u8 0), 1, 1) := by kernel_rfl
/-- A row of bytes, by the index. -/
def U (X : Nat → Int) : Nat → Value := fun i => .int .u8 (X i)

theorem clone_nil (w : World) : Calls Tryf.prog 14 #[.slice none 0 0] w fun e w' => e = .returned (.slice none 0 0) ∧ w' = w := by
  have hnil := fun w => Lib.run_eql_slice_nil (P := Tryf.prog) w 25 5 none 0 0 0 0 Tryf.underlying25
  go_enter Tryf.func14, Tryf.ntmps14
  go_wp2
  go_ret
  exact ⟨rfl, rfl⟩

/-- The row that is being filled. -/
def fillF (X : Nat → Int) (k : Nat) (i : Nat) : Int := if i < k then X i else 0
theorem fill_step {w : World} {b n k : Nat} {X : Nat → Int} (h : w.rowIs b 5 n (U (fillF X k))) : (w.setCell ⟨b, k, none⟩ (.int .u8 (X k))).rowIs b 5 n (U (fillF X (k + 1))) := by
  refine (h.set k _).congr fun j _ => ?_
  by_cases e : j = k
  · subst e; simp [U, fillF]
  · rw [if_neg e]
    simp only [U, fillF, show (j < k + 1) = (j < k) by simp; omega]
theorem fill_all {w : World} {b n : Nat} {X : Nat → Int} (h : w.rowIs b 5 n (U (fillF X n))) : w.rowIs b 5 n (U X) := h.congr fun i hi => by simp [U, fillF, hi]

set_option maxHeartbeats 400000 in
theorem clone_some (x : Addr) (n c : Nat) (X : Nat → Int) (hn : n ≤ 1048576) (w : World) (hcell : ∀ i, i < n → w.cell? (x.add i) = some (.int .u8 (X i))) :
    Calls Tryf.prog 14 #[.slice (some x) n c] w fun e w' => e = .returned (.slice (some ⟨w.heap.size, 0, none⟩) n n) ∧ w'.rowIs w.heap.size 5 n (U X) ∧ Below w.heap.size w w' := by
  have hnil := fun w => Lib.run_eql_slice_nil (P := Tryf.prog) w 25 5 (some x) n c 0 0 Tryf.underlying25
  have hmk := run_make_row' (P := Tryf.prog) 25 5 (.int .u8 0) 1 Tryf.underlying25 info5 rfl .i64 .i64 n (by omega) (by omega)
  have HC : Hid (∀ i, i < n → w.cell? (x.add i) = some (.int .u8 (X i))) := hcell
  clear hcell
  go_enter Tryf.func14, Tryf.ntmps14
  go_wp2_with fail
  go_loopw [4] (fun i wr => ∃ k : Nat, k ≤ n ∧ i = .int .i64 k ∧ wr.rowIs w.heap.size 5 n (U (fillF X k)) ∧ Below w.heap.size w wr) (fun i _ => n - (intOf i).toNat)
  case atStart => exact ⟨0, Nat.zero_le _, rfl, (World.rowIs_made w (.int .u8 0) n 5).congr (fun i _ => by simp [U, fillF]), (Below.refl _ _).alloc (Nat.le_refl _) _⟩
  case round =>
    obtain ⟨k, hk, rfl, hr, hb⟩ := hrel
    have HR : Hid (wr.rowIs w.heap.size 5 n (U (fillF X k))) := hr
    have HB : Hid (Below w.heap.size w wr) := hb
    have hfr : wr.frozen? ⟨w.heap.size, k, none⟩ = false := hr.frozen k
    clear hr hb hmk hnil
    by_cases hlt : k < n
    · have hi : (k : Int) < (n : Int) := by omega
      have hcx : wr.cell? (x.add k) = some (.int .u8 (X k)) := (HB.out.cell (block_lt_of_cell (HC.out k hlt))).trans (HC.out k hlt)
      obtain ⟨v0, hv0⟩ : ∃ v0, wr.cell? ⟨w.heap.size, k, none⟩ = some v0 := ⟨_, HR.out.cell hlt⟩
      go_wp2_with fail
      go_roundw
      case rel => exact ⟨k + 1, by omega, by go_num, fill_step HR.out, HB.out.setCell (p := ⟨w.heap.size, k, none⟩) (Nat.le_refl _) _⟩
      case measure => simp [intOf]; omega
    · have hd : decide ((k : Int) < (n : Int)) = false := by simp; omega
      obtain rfl : k = n := by omega
      go_wp2_with fail
      go_ret
      exact ⟨rfl, fill_all HR.out, HB.out⟩

/-- A slice of the call's own: nil and without elements, or the row of block b. -/
def Row' (w : World) (ao : Option Addr) (b n : Nat) (X : Nat → Int) : Prop := (ao = none ∧ n = 0) ∨ (ao = some ⟨b, 0, none⟩ ∧ w.rowIs b 5 n (U X))
/-- A slice whose elements can be read. -/
def Src (w : World) (ao : Option Addr) (n c : Nat) (X : Nat → Int) : Prop := (ao = none ∧ n = 0 ∧ c = 0) ∨ ∃ x, ao = some x ∧ ∀ i, i < n → w.cell? (x.add i) = some (.int .u8 (X i))
theorem Row'.keep {w w' : World} {ao : Option Addr} {b n : Nat} {X : Nat → Int} (h : Row' w ao b n X) (hb : Below w.heap.size w w') : Row' w' ao b n X := by
  rcases h with h | ⟨rfl, hr⟩
  · exact .inl h
  · exact .inr ⟨rfl, hr.of_block (hb.block _ hr.lt)⟩
theorem Row'.pos {w : World} {ao : Option Addr} {b n : Nat} {X : Nat → Int} (h : Row' w ao b n X) (hn : 0 < n) : ao = some ⟨b, 0, none⟩ ∧ w.rowIs b 5 n (U X) := by
  rcases h with ⟨rfl, rfl⟩ | h
  · omega
  · exact h
theorem Row'.dat {w : World} {ao : Option Addr} {b n : Nat} {X : Nat → Int} (h : Row' w ao b n X) : Dat w ao n X := by
  rcases h with ⟨rfl, rfl⟩ | ⟨rfl, hr⟩
  · exact .inl rfl
  · exact .inr ⟨b, rfl, fun i hi => hr.cell hi⟩
/-- The element k of a slice of the call's own: its place. -/
theorem Row'.index {w : World} {ao : Option Addr} {b n : Nat} {X : Nat → Int} (h : Row' w ao b n X) (i : Int) (k : Nat) (hi : i = k) (hk : k < n) (wx : World) :
    (Instr.indexAt 25 (.slice ao n n) (.int .i64 i)).run Tryf.prog wx = .ok (.pointer (some ⟨b, k, none⟩)) wx := by
  subst hi
  obtain ⟨rfl, _⟩ := h.pos (by omega)
  simp [Instr.indexAt, run_underlying Tryf.underlying25, asIntOf, go_sem, hk]
theorem Row'.cell {w : World} {ao : Option Addr} {b n : Nat} {X : Nat → Int} (h : Row' w ao b n X) (k : Nat) (hk : k < n) : w.cell? ⟨b, k, none⟩ = some (.int .u8 (X k)) := by
  obtain ⟨rfl, hr⟩ := h.pos (by omega)
  exact hr.cell hk
theorem clone_any (ao : Option Addr) (n c : Nat) (X : Nat → Int) (hn : n ≤ 1048576) (w : World) (h : Src w ao n c X) :
    Calls Tryf.prog 14 #[.slice ao n c] w fun e w' => ∃ ao', e = .returned (.slice ao' n n) ∧ Row' w' ao' w.heap.size n X ∧ Below w.heap.size w w' := by
  rcases h with ⟨rfl, rfl, rfl⟩ | ⟨x, rfl, hc⟩
  · refine (clone_nil w).mono ?_
    rintro e w' ⟨rfl, rfl⟩
    exact ⟨none, rfl, .inl ⟨rfl, rfl⟩, Below.refl _ _⟩
  · refine (clone_some x n c X hn w hc).mono ?_
    rintro e w' ⟨rfl, hr, hb⟩
    exact ⟨_, rfl, .inr ⟨rfl, hr⟩, hb⟩

theorem bytes13_yes (a0 : Option Addr) (n c0 : Nat) (p q r : Value) (h : n ≤ 1048576) (w : World) :
    Calls Tryf.prog 13 #[.slice a0 n c0, p, q, r] w fun e w' => e = .returned (.bool true) ∧ w' = w := by
  go_enter Tryf.func13, Tryf.ntmps13
  go_wp2
  go_ret
  exact ⟨rfl, rfl⟩
theorem bytes13_no (a0 : Option Addr) (n c0 : Nat) (p q r : Value) (h : ¬ n ≤ 1048576) (w : World) :
    Calls Tryf.prog 13 #[.slice a0 n c0, p, q, r] w fun e w' => e = .returned (.bool false) ∧ w' = w := by
  go_enter Tryf.func13, Tryf.ntmps13
  go_wp2
  go_ret
  exact ⟨rfl, rfl⟩
theorem bytes16_yes (a0 : Option Addr) (n c0 : Nat) (p q : Value) (h : n ≤ 1048576) (w : World) :
    Calls Tryf.prog 16 #[.slice a0 n c0, p, q] w fun e w' => e = .returned (.bool true) ∧ w' = w := by
  go_enter Tryf.func16, Tryf.ntmps16
  go_wp2
  go_ret
  exact ⟨rfl, rfl⟩
theorem bytes16_no (a0 : Option Addr) (n c0 : Nat) (p q : Value) (h : ¬ n ≤ 1048576) (w : World) :
    Calls Tryf.prog 16 #[.slice a0 n c0, p, q] w fun e w' => e = .returned (.bool false) ∧ w' = w := by
  go_enter Tryf.func16, Tryf.ntmps16
  go_wp2
  go_ret
  exact ⟨rfl, rfl⟩
end Go.Proofs.Qxb6003873aFmt
