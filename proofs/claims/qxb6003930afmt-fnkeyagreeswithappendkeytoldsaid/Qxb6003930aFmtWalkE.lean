/- The walks of zzCloneG1, isLCAlpha, isDigit, isKeyChar, isKey. -/
import Derived.Test.Qxb6003930aFmtWalkC
namespace Go.Proofs.Qxb6003930aFmt
open Go.RowKit Go.Extern.Stop Go.Stop Go.Extern
set_option linter.unusedVariables false

theorem info5 : (Tryf.prog.info? 5).map (fun i => (i.zero, i.size, i.bytes)) = some (some (.int .u8 0), 1, 1) := by kernel_rfl
/-- A row of bytes, by the index. -/
def U (X : Nat → Int) : Nat → Value := fun i => .int .u8 (X i)

theorem clone_nil (w : World) : Calls Tryf.prog 7 #[.slice none 0 0] w fun e w' => e = .returned (.slice none 0 0) ∧ w' = w := by
  have hnil := fun w => Lib.run_eql_slice_nil (P := Tryf.prog) w 22 5 none 0 0 0 0 Tryf.underlying22
  go_enter Tryf.func7, Tryf.ntmps7
  go_wp2
  go_ret
  exact ⟨rfl, rfl⟩

/-- The row that is being filled. -/
def fillF (X : Nat → Int) (k : Nat) (i : Nat) : Int := if i < k then X i else 0
theorem fill_step {w : World} {b n k : Nat} {X : Nat → Int} (h : w.rowIs b 5 n (U (fillF X k))) : (w.setCell ⟨b, k, none⟩ (.int .u8 (X k))).rowIs b 5 n (U (fillF X (k + 1))) := by
  refine (h.set k _).congr fun j _ => ?_
  by_cases e : j = k
  · subst e; simp [U, fillF]
  · rw [if_neg e]
    simp only [U, fillF, show (j < k + 1) = (j < k) by simp; omega]
theorem fill_all {w : World} {b n : Nat} {X : Nat → Int} (h : w.rowIs b 5 n (U (fillF X n))) : w.rowIs b 5 n (U X) := h.congr fun i hi => by simp [U, fillF, hi]

set_option maxHeartbeats 400000 in
theorem clone_some (x : Addr) (n c : Nat) (X : Nat → Int) (hn : n ≤ 1048576) (w : World) (hcell : ∀ i, i < n → w.cell? (x.add i) = some (.int .u8 (X i))) :
    Calls Tryf.prog 7 #[.slice (some x) n c] w fun e w' => e = .returned (.slice (some ⟨w.heap.size, 0, none⟩) n n) ∧ w'.rowIs w.heap.size 5 n (U X) ∧ Below w.heap.size w w' := by
  have hnil := fun w => Lib.run_eql_slice_nil (P := Tryf.prog) w 22 5 (some x) n c 0 0 Tryf.underlying22
  have hmk := run_make_row' (P := Tryf.prog) 22 5 (.int .u8 0) 1 Tryf.underlying22 info5 rfl .i64 .i64 n (by omega) (by omega)
  have HC : Hid (∀ i, i < n → w.cell? (x.add i) = some (.int .u8 (X i))) := hcell
  clear hcell
  go_enter Tryf.func7, Tryf.ntmps7
  go_wp2_with fail
  go_loopw [4] (fun i wr => ∃ k : Nat, k ≤ n ∧ i = .int .i64 k ∧ wr.rowIs w.heap.size 5 n (U (fillF X k)) ∧ Below w.heap.size w wr) (fun i _ => n - (intOf i).toNat)
  case atStart => exact ⟨0, Nat.zero_le _, rfl, (World.rowIs_made w (.int .u8 0) n 5).congr (fun i _ => by simp [U, fillF]), (Below.refl _ _).alloc (Nat.le_refl _) _⟩
  case round =>
    obtain ⟨k, hk, rfl, hr, hb⟩ := hrel
    have HR : Hid (wr.rowIs w.heap.size 5 n (U (fillF X k))) := hr
    have HB : Hid (Below w.heap.size w wr) := hb
    have hfr : wr.frozen? ⟨w.heap.size, k, none⟩ = false := hr.frozen k
    clear hr hb hmk hnil
    by_cases hlt : k < n
    · have hi : (k : Int) < (n : Int) := by omega
      have hcx : wr.cell? (x.add k) = some (.int .u8 (X k)) := (HB.out.cell (block_lt_of_cell (HC.out k hlt))).trans (HC.out k hlt)
      obtain ⟨v0, hv0⟩ : ∃ v0, wr.cell? ⟨w.heap.size, k, none⟩ = some v0 := ⟨_, HR.out.cell hlt⟩
      go_wp2_with fail
      go_roundw
      case rel => exact ⟨k + 1, by omega, by go_num, fill_step HR.out, HB.out.setCell (p := ⟨w.heap.size, k, none⟩) (Nat.le_refl _) _⟩
      case measure => simp [intOf]; omega
    · have hd : decide ((k : Int) < (n : Int)) = false := by simp; omega
      obtain rfl : k = n := by omega
      go_wp2_with fail
      go_ret
      exact ⟨rfl, fill_all HR.out, HB.out⟩

/-- The bytes of a slice can be read. -/
def Dat (w : World) (ao : Option Addr) (n : Nat) (X : Nat → Int) : Prop := n = 0 ∨ ∃ b, ao = some ⟨b, 0, none⟩ ∧ ∀ i, i < n → w.cell? ⟨b, i, none⟩ = some (.int .u8 (X i))
theorem Dat.keep {w w' : World} {ao : Option Addr} {n : Nat} {X : Nat → Int} (h : Dat w ao n X) (hb : Below w.heap.size w w') : Dat w' ao n X := by
  rcases h with h | ⟨b, rfl, hc⟩
  · exact .inl h
  · exact .inr ⟨b, rfl, fun i hi => (hb.cell (p := ⟨b, i, none⟩) (block_lt_of_cell (hc i hi))).trans (hc i hi)⟩
/-- A slice of the call's own: nil and without elements, or the row of block b. -/
def Row' (w : World) (ao : Option Addr) (b n : Nat) (X : Nat → Int) : Prop := (ao = none ∧ n = 0) ∨ (ao = some ⟨b, 0, none⟩ ∧ w.rowIs b 5 n (U X))
/-- A slice whose elements can be read. -/
def Srd (w : World) (ao : Option Addr) (n c : Nat) (X : Nat → Int) : Prop := (ao = none ∧ n = 0 ∧ c = 0) ∨ ∃ x, ao = some x ∧ ∀ i, i < n → w.cell? (x.add i) = some (.int .u8 (X i))
theorem Row'.keep {w w' : World} {ao : Option Addr} {b n : Nat} {X : Nat → Int} (h : Row' w ao b n X) (hb : Below w.heap.size w w') : Row' w' ao b n X := by
  rcases h with h | ⟨rfl, hr⟩
  · exact .inl h
  · exact .inr ⟨rfl, hr.of_block (hb.block _ hr.lt)⟩
theorem Row'.src {w : World} {ao : Option Addr} {b n : Nat} {X : Nat → Int} (h : Row' w ao b n X) : Srd w ao n n X := by
  rcases h with ⟨rfl, rfl⟩ | ⟨rfl, hr⟩
  · exact .inl ⟨rfl, rfl, rfl⟩
  · exact .inr ⟨_, rfl, fun i hi => by rw [Addr.add_lit, Nat.zero_add, hr.cell hi]; rfl⟩
theorem Row'.dat {w : World} {ao : Option Addr} {b n : Nat} {X : Nat → Int} (h : Row' w ao b n X) : Dat w ao n X := by
  rcases h with ⟨rfl, rfl⟩ | ⟨rfl, hr⟩
  · exact .inl rfl
  · exact .inr ⟨b, rfl, fun i hi => hr.cell hi⟩
theorem clone_any (ao : Option Addr) (n c : Nat) (X : Nat → Int) (hn : n ≤ 1048576) (w : World) (h : Srd w ao n c X) :
    Calls Tryf.prog 7 #[.slice ao n c] w fun e w' => ∃ ao', e = .returned (.slice ao' n n) ∧ Row' w' ao' w.heap.size n X ∧ Below w.heap.size w w' := by
  rcases h with ⟨rfl, rfl, rfl⟩ | ⟨x, rfl, hc⟩
  · refine (clone_nil w).mono ?_
    rintro e w' ⟨rfl, rfl⟩
    exact ⟨none, rfl, .inl ⟨rfl, rfl⟩, Below.refl _ _⟩
  · refine (clone_some x n c X hn w hc).mono ?_
    rintro e w' ⟨rfl, hr, hb⟩
    exact ⟨_, rfl, .inr ⟨rfl, hr⟩, hb⟩

/-! ### The classes of bytes -/
def lc (c : Int) : Bool := decide (97 ≤ c) && decide (c ≤ 122)
def dg (c : Int) : Bool := decide (48 ≤ c) && decide (c ≤ 57)
def kc (c : Int) : Bool := lc c || dg c || c == 95 || c == 45 || c == 46 || c == 42
/-- What a key may begin with. -/
def fst (c : Int) : Bool := lc c || c == 42
theorem fst_kc {c : Int} (h : fst c = true) : kc c = true := by
  unfold fst at h; unfold kc
  cases hl : lc c
  · rw [hl] at h; simp at h; simp [h]
  · simp
theorem fst_zero : fst 0 = false := by decide
theorem ret_bool {a b : Bool} (h : a = b) : Ending.returned (.bool a) = .returned (.bool b) := by rw [h]

theorem lc_any (c : Int) (w : World) : Calls Tryf.prog 22 #[.int .u8 c] w fun e w' => e = .returned (.bool (lc c)) ∧ w' = w := by
  by_cases h1 : 97 ≤ c
  · by_cases h2 : c ≤ 122
    · have HE : Hid (true = lc c) := by simp [Hid, lc, h1, h2]
      go_enter Tryf.func22, Tryf.ntmps22
      go_wp2
      go_ret
      exact ⟨ret_bool HE.out, rfl⟩
    · have HE : Hid (false = lc c) := by simp [Hid, lc, h2]
      have hd : decide (c ≤ 122) = false := by simp; omega
      go_enter Tryf.func22, Tryf.ntmps22
      go_wp2
      go_ret
      exact ⟨ret_bool HE.out, rfl⟩
  · have HE : Hid (false = lc c) := by simp [Hid, lc, h1]
    have hd : decide (97 ≤ c) = false := by simp; omega
    go_enter Tryf.func22, Tryf.ntmps22
    go_wp2
    go_ret
    exact ⟨ret_bool HE.out, rfl⟩
theorem dg_any (c : Int) (w : World) : Calls Tryf.prog 31 #[.int .u8 c] w fun e w' => e = .returned (.bool (dg c)) ∧ w' = w := by
  by_cases h1 : 48 ≤ c
  · by_cases h2 : c ≤ 57
    · have HE : Hid (true = dg c) := by simp [Hid, dg, h1, h2]
      go_enter Tryf.func31, Tryf.ntmps31
      go_wp2
      go_ret
      exact ⟨ret_bool HE.out, rfl⟩
    · have HE : Hid (false = dg c) := by simp [Hid, dg, h2]
      have hd : decide (c ≤ 57) = false := by simp; omega
      go_enter Tryf.func31, Tryf.ntmps31
      go_wp2
      go_ret
      exact ⟨ret_bool HE.out, rfl⟩
  · have HE : Hid (false = dg c) := by simp [Hid, dg, h1]
    have hd : decide (48 ≤ c) = false := by simp; omega
    go_enter Tryf.func31, Tryf.ntmps31
    go_wp2
    go_ret
    exact ⟨ret_bool HE.out, rfl⟩
set_option maxHeartbeats 800000 in
theorem kc_any (c : Int) (w : World) : Calls Tryf.prog 25 #[.int .u8 c] w fun e w' => e = .returned (.bool (kc c)) ∧ w' = w := by
  cases h1 : lc c
  · cases h2 : dg c
    · have HK : Hid (kc c = (c == 95 || c == 45 || c == 46 || c == 42)) := by simp [Hid, kc, h1, h2]
      have step : ∀ b : Bool, Hid (b = kc c) → (c == 95) = b ∧ b = true ∨ (c == 95) = false ∧ ((c == 45) = b ∧ b = true ∨ (c == 45) = false ∧ ((c == 46) = b ∧ b = true ∨ (c == 46) = false ∧ (c == 42) = b)) →
          Calls Tryf.prog 25 #[.int .u8 c] w fun e w' => e = .returned (.bool (kc c)) ∧ w' = w := by
        intro b HE hb
        rcases hb with ⟨e1, rfl⟩ | ⟨e1, ⟨e2, rfl⟩ | ⟨e2, ⟨e3, rfl⟩ | ⟨e3, e4⟩⟩⟩
        all_goals
          go_enter Tryf.func25, Tryf.ntmps25
          go_wp2_with fail
          refine (lc_any c _).mono ?_
          rintro e w1 ⟨rfl, rfl⟩
          go_wp2_with fail
          refine (dg_any c _).mono ?_
          rintro e w2 ⟨rfl, rfl⟩
          go_wp2_with fail
          go_ret
          exact ⟨ret_bool HE.out, rfl⟩
      refine step (kc c) rfl ?_
      rw [HK.out]
      cases (c == 95) <;> cases (c == 45) <;> cases (c == 46) <;> cases (c == 42) <;> simp
    · have HE : Hid (true = kc c) := by simp [Hid, kc, h2]
      go_enter Tryf.func25, Tryf.ntmps25
      go_wp2_with fail
      refine (lc_any c _).mono ?_
      rintro e w1 ⟨rfl, rfl⟩
      go_wp2_with fail
      refine (dg_any c _).mono ?_
      rintro e w2 ⟨rfl, rfl⟩
      go_wp2_with fail
      go_ret
      exact ⟨ret_bool HE.out, rfl⟩
  · have HE : Hid (true = kc c) := by simp [Hid, kc, h1]
    go_enter Tryf.func25, Tryf.ntmps25
    go_wp2_with fail
    refine (lc_any c _).mono ?_
    rintro e w1 ⟨rfl, rfl⟩
    go_wp2_with fail
    go_ret
    exact ⟨ret_bool HE.out, rfl⟩
end Go.Proofs.Qxb6003930aFmt
