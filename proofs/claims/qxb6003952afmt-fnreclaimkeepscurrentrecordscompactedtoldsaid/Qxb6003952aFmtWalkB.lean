/- The walks of rcClone, rcClone32, rcStateByte, rcName, rcGUID, rcEqual, rcTotal. -/
import Derived.Test.Qxb6003952aFmtWalkA
namespace Go.Proofs.Qxb6003952aFmt
open Go.RowKit Go.Extern.Stop Go.Stop Go.Extern
set_option linter.unusedVariables false

theorem info5 : (Tryf.prog.info? 5).map (fun i => (i.zero, i.size, i.bytes)) = some (some (.int .u8 0), 1, 1) := by kernel_rfl
theorem info44 : (Tryf.prog.info? 44).map (fun i => (i.zero, i.size, i.bytes)) = some (some (.int .u32 0), 1, 4) := by kernel_rfl
theorem info3 : (Tryf.prog.info? 3).map (fun i => (i.zero, i.size, i.bytes)) = some (some (.int .i64 0), 1, 8) := by kernel_rfl
theorem info4 : (Tryf.prog.info? 4).map (fun i => (i.zero, i.size, i.bytes)) = some (some (.bool false), 1, 1) := by kernel_rfl
/-- A row of integers, by the index. -/
def V (q : IntKind) (X : Nat → Int) : Nat → Value := fun i => .int q (X i)

/-- The row that is being filled. -/
def fillF (X : Nat → Int) (k : Nat) (i : Nat) : Int := if i < k then X i else 0
theorem fill_step {w : World} {q : IntKind} {t b n k : Nat} {X : Nat → Int} (h : w.rowIs b t n (V q (fillF X k))) : (w.setCell ⟨b, k, none⟩ (.int q (X k))).rowIs b t n (V q (fillF X (k + 1))) := by
  refine (h.set k _).congr fun j _ => ?_
  by_cases e : j = k
  · subst e; simp [V, fillF]
  · rw [if_neg e]
    simp only [V, fillF, show (j < k + 1) = (j < k) by simp; omega]
theorem fill_all {w : World} {q : IntKind} {t b n : Nat} {X : Nat → Int} (h : w.rowIs b t n (V q (fillF X n))) : w.rowIs b t n (V q X) := h.congr fun i hi => by simp [V, fillF, hi]
theorem fill_none {w : World} {q : IntKind} {t b n : Nat} {X : Nat → Int} (h : w.rowIs b t n fun _ => .int q 0) : w.rowIs b t n (V q (fillF X 0)) := h.congr fun i hi => by simp [V, fillF]

theorem clone_nil (w : World) : Calls Tryf.prog 18 #[.slice none 0 0] w fun e w' => e = .returned (.slice none 0 0) ∧ w' = w := by
  have hnil := fun w => Lib.run_eql_slice_nil (P := Tryf.prog) w 22 5 none 0 0 0 0 Tryf.underlying22
  go_enter Tryf.func18, Tryf.ntmps18
  go_wp2
  go_ret
  exact ⟨rfl, rfl⟩

set_option maxHeartbeats 400000 in
theorem clone_some (x : Addr) (n c : Nat) (X : Nat → Int) (hn : n ≤ 4194304) (w : World) (hcell : ∀ i, i < n → w.cell? (x.add i) = some (.int .u8 (X i))) :
    Calls Tryf.prog 18 #[.slice (some x) n c] w fun e w' => e = .returned (.slice (some ⟨w.heap.size, 0, none⟩) n n) ∧ w'.rowIs w.heap.size 5 n (V .u8 X) ∧ Below w.heap.size w w' := by
  have hnil := fun w => Lib.run_eql_slice_nil (P := Tryf.prog) w 22 5 (some x) n c 0 0 Tryf.underlying22
  have hmk := run_make_row' (P := Tryf.prog) 22 5 (.int .u8 0) 1 Tryf.underlying22 info5 rfl .i64 .i64 n (by omega) (by omega)
  have HC : Hid (∀ i, i < n → w.cell? (x.add i) = some (.int .u8 (X i))) := hcell
  clear hcell
  go_enter Tryf.func18, Tryf.ntmps18
  go_wp2_with fail
  go_loopw [4] (fun i wr => ∃ k : Nat, k ≤ n ∧ i = .int .i64 k ∧ wr.rowIs w.heap.size 5 n (V .u8 (fillF X k)) ∧ Below w.heap.size w wr) (fun i _ => n - (intOf i).toNat)
  case atStart => exact ⟨0, Nat.zero_le _, rfl, fill_none (World.rowIs_made w (.int .u8 0) n 5), (Below.refl _ _).alloc (Nat.le_refl _) _⟩
  case round =>
    obtain ⟨k, hk, rfl, hr, hb⟩ := hrel
    have HR : Hid (wr.rowIs w.heap.size 5 n (V .u8 (fillF X k))) := hr
    have HB : Hid (Below w.heap.size w wr) := hb
    have hfr : wr.frozen? ⟨w.heap.size, k, none⟩ = false := hr.frozen k
    clear hr hb hmk hnil
    by_cases hlt : k < n
    · have hi : (k : Int) < (n : Int) := by omega
      have hcx : wr.cell? (x.add k) = some (.int .u8 (X k)) := (HB.out.cell (block_lt_of_cell (HC.out k hlt))).trans (HC.out k hlt)
      obtain ⟨v0, hv0⟩ : ∃ v0, wr.cell? ⟨w.heap.size, k, none⟩ = some v0 := ⟨_, HR.out.cell hlt⟩
      go_wp2_with fail
      go_roundw
      case rel => exact ⟨k + 1, by omega, by go_num, fill_step HR.out, HB.out.setCell (p := ⟨w.heap.size, k, none⟩) (Nat.le_refl _) _⟩
      case measure => simp [intOf]; omega
    · have hd : decide ((k : Int) < (n : Int)) = false := by simp; omega
      obtain rfl : k = n := by omega
      go_wp2_with fail
      go_ret
      exact ⟨rfl, fill_all HR.out, HB.out⟩

theorem clone32_nil (w : World) : Calls Tryf.prog 19 #[.slice none 0 0] w fun e w' => e = .returned (.slice none 0 0) ∧ w' = w := by
  have hnil := fun w => Lib.run_eql_slice_nil (P := Tryf.prog) w 35 44 none 0 0 0 0 Tryf.underlying35
  go_enter Tryf.func19, Tryf.ntmps19
  go_wp2
  go_ret
  exact ⟨rfl, rfl⟩

set_option maxHeartbeats 400000 in
theorem clone32_some (x : Addr) (n c : Nat) (X : Nat → Int) (hn : n ≤ 4194304) (w : World) (hcell : ∀ i, i < n → w.cell? (x.add i) = some (.int .u32 (X i))) :
    Calls Tryf.prog 19 #[.slice (some x) n c] w fun e w' => e = .returned (.slice (some ⟨w.heap.size, 0, none⟩) n n) ∧ w'.rowIs w.heap.size 44 n (V .u32 X) ∧ Below w.heap.size w w' := by
  have hnil := fun w => Lib.run_eql_slice_nil (P := Tryf.prog) w 35 44 (some x) n c 0 0 Tryf.underlying35
  have hmk := run_make_row' (P := Tryf.prog) 35 44 (.int .u32 0) 4 Tryf.underlying35 info44 rfl .i64 .i64 n (by omega) (by omega)
  have HC : Hid (∀ i, i < n → w.cell? (x.add i) = some (.int .u32 (X i))) := hcell
  clear hcell
  go_enter Tryf.func19, Tryf.ntmps19
  go_wp2_with fail
  go_loopw [4] (fun i wr => ∃ k : Nat, k ≤ n ∧ i = .int .i64 k ∧ wr.rowIs w.heap.size 44 n (V .u32 (fillF X k)) ∧ Below w.heap.size w wr) (fun i _ => n - (intOf i).toNat)
  case atStart => exact ⟨0, Nat.zero_le _, rfl, fill_none (World.rowIs_made w (.int .u32 0) n 44), (Below.refl _ _).alloc (Nat.le_refl _) _⟩
  case round =>
    obtain ⟨k, hk, rfl, hr, hb⟩ := hrel
    have HR : Hid (wr.rowIs w.heap.size 44 n (V .u32 (fillF X k))) := hr
    have HB : Hid (Below w.heap.size w wr) := hb
    have hfr : wr.frozen? ⟨w.heap.size, k, none⟩ = false := hr.frozen k
    clear hr hb hmk hnil
    by_cases hlt : k < n
    · have hi : (k : Int) < (n : Int) := by omega
      have hcx : wr.cell? (x.add k) = some (.int .u32 (X k)) := (HB.out.cell (block_lt_of_cell (HC.out k hlt))).trans (HC.out k hlt)
      obtain ⟨v0, hv0⟩ : ∃ v0, wr.cell? ⟨w.heap.size, k, none⟩ = some v0 := ⟨_, HR.out.cell hlt⟩
      go_wp2_with fail
      go_roundw
      case rel => exact ⟨k + 1, by omega, by go_num, fill_step HR.out, HB.out.setCell (p := ⟨w.heap.size, k, none⟩) (Nat.le_refl _) _⟩
      case measure => simp [intOf]; omega
    · have hd : decide ((k : Int) < (n : Int)) = false := by simp; omega
      obtain rfl : k = n := by omega
      go_wp2_with fail
      go_ret
      exact ⟨rfl, fill_all HR.out, HB.out⟩

/-- A slice whose elements can be read. -/
def Srd (q : IntKind) (w : World) (ao : Option Addr) (n c : Nat) (X : Nat → Int) : Prop := (ao = none ∧ n = 0 ∧ c = 0) ∨ ∃ x, ao = some x ∧ ∀ i, i < n → w.cell? (x.add i) = some (.int q (X i))
/-- A slice of the call's own: without elements, or the row of block b. -/
def Row' (q : IntKind) (t : Nat) (w : World) (ao : Option Addr) (b n : Nat) (X : Nat → Int) : Prop := n = 0 ∨ (ao = some ⟨b, 0, none⟩ ∧ w.rowIs b t n (V q X))
theorem Row'.keep {q : IntKind} {t : Nat} {w w' : World} {ao : Option Addr} {b n : Nat} {X : Nat → Int} (h : Row' q t w ao b n X) (hb : Below w.heap.size w w') : Row' q t w' ao b n X := by
  rcases h with h | ⟨rfl, hr⟩
  · exact .inl h
  · exact .inr ⟨rfl, hr.of_block (hb.block _ hr.lt)⟩
theorem clone_any (ao : Option Addr) (n c : Nat) (X : Nat → Int) (hn : n ≤ 4194304) (w : World) (h : Srd .u8 w ao n c X) :
    Calls Tryf.prog 18 #[.slice ao n c] w fun e w' => ∃ ao', e = .returned (.slice ao' n n) ∧ Row' .u8 5 w' ao' w.heap.size n X ∧ Below w.heap.size w w' := by
  rcases h with ⟨rfl, rfl, rfl⟩ | ⟨x, rfl, hc⟩
  · refine (clone_nil w).mono ?_
    rintro e w' ⟨rfl, rfl⟩
    exact ⟨none, rfl, .inl rfl, Below.refl _ _⟩
  · refine (clone_some x n c X hn w hc).mono ?_
    rintro e w' ⟨rfl, hr, hb⟩
    exact ⟨_, rfl, .inr ⟨rfl, hr⟩, hb⟩
theorem clone32_any (ao : Option Addr) (n c : Nat) (X : Nat → Int) (hn : n ≤ 4194304) (w : World) (h : Srd .u32 w ao n c X) :
    Calls Tryf.prog 19 #[.slice ao n c] w fun e w' => ∃ ao', e = .returned (.slice ao' n n) ∧ Row' .u32 44 w' ao' w.heap.size n X ∧ Below w.heap.size w w' := by
  rcases h with ⟨rfl, rfl, rfl⟩ | ⟨x, rfl, hc⟩
  · refine (clone32_nil w).mono ?_
    rintro e w' ⟨rfl, rfl⟩
    exact ⟨none, rfl, .inl rfl, Below.refl _ _⟩
  · refine (clone32_some x n c X hn w hc).mono ?_
    rintro e w' ⟨rfl, hr, hb⟩
    exact ⟨_, rfl, .inr ⟨rfl, hr⟩, hb⟩

/-! ### State, name, GUID -/
def stOf (c : Int) : Int := if c = 0 then 63 else if c = 1 then 62 else 60
theorem ret_u8 {a b : Int} (h : a = b) : Ending.returned (.int .u8 a) = .returned (.int .u8 b) := by rw [h]
theorem stateByte (c : Int) (w : World) : Calls Tryf.prog 21 #[.int .u8 c] w fun e w' => e = .returned (.int .u8 (stOf c)) ∧ w' = w := by
  by_cases h0 : c = 0
  · subst h0
    go_enter Tryf.func21, Tryf.ntmps21
    go_wp2
    go_ret
    exact ⟨rfl, rfl⟩
  · have e0 : (c == 0) = false := by simp [h0]
    by_cases h1 : c = 1
    · subst h1
      go_enter Tryf.func21, Tryf.ntmps21
      go_wp2
      go_ret
      exact ⟨rfl, rfl⟩
    · have e1 : (c == 1) = false := by simp [h1]
      have HE : Hid ((60 : Int) = stOf c) := by simp [Hid, stOf, h0, h1]
      go_enter Tryf.func21, Tryf.ntmps21
      go_wp2
      go_ret
      exact ⟨ret_u8 HE.out, rfl⟩
def nmOf (x : Int) : ByteArray := if x % 4 = 0 then ⟨#[65]⟩ else if x % 4 = 1 then ⟨#[66]⟩ else if x % 4 = 2 then ⟨#[67]⟩ else ⟨#[68]⟩
theorem ret_str {a b : ByteArray} (h : a = b) : Ending.returned (.string a) = .returned (.string b) := by rw [h]
theorem and3 (x : Int) (h0 : 0 ≤ x) (h1 : x < 256) : bits .and .u8 x 3 = x % 4 := by
  obtain ⟨x, rfl⟩ := Int.eq_ofNat_of_zero_le h0
  have := u8_and_nat x 3 (by omega) (by omega)
  rw [show ((3 : Nat) : Int) = 3 from rfl] at this
  rw [this, show (3 : Nat) = 2 ^ 2 - 1 from rfl, Nat.and_two_pow_sub_one_eq_mod]
  omega
theorem and7 (x : Int) (h0 : 0 ≤ x) (h1 : x < 256) : bits .and .u8 x 7 = x % 8 := by
  obtain ⟨x, rfl⟩ := Int.eq_ofNat_of_zero_le h0
  have := u8_and_nat x 7 (by omega) (by omega)
  rw [show ((7 : Nat) : Int) = 7 from rfl] at this
  rw [this, show (7 : Nat) = 2 ^ 3 - 1 from rfl, Nat.and_two_pow_sub_one_eq_mod]
  omega
theorem name (x : Int) (h0 : 0 ≤ x) (h1 : x < 256) (w : World) : Calls Tryf.prog 22 #[.int .u8 x] w fun e w' => e = .returned (.string (nmOf x)) ∧ w' = w := by
  have ha := and3 x h0 h1
  have hb0 : 0 ≤ x % 4 := by omega
  have hb1 : x % 4 < 4 := by omega
  have HE : Hid (nmOf x = if x % 4 = 0 then ⟨#[65]⟩ else if x % 4 = 1 then ⟨#[66]⟩ else if x % 4 = 2 then ⟨#[67]⟩ else ⟨#[68]⟩) := rfl
  generalize hy : x % 4 = y at *
  have hc : y = 0 ∨ y = 1 ∨ y = 2 ∨ y = 3 := by omega
  clear hb0 hb1 h0 h1
  rcases hc with rfl | rfl | rfl | rfl
  all_goals
    go_enter Tryf.func22, Tryf.ntmps22
    go_wp2_with fail
    go_ret
    exact ⟨ret_str HE.out.symm, rfl⟩
def gOf (x : Int) : Int := x / 4 % 2
/-- A GUID's cells. -/
def gc (g : Int) : List Value := [.int .u8 g, .int .u8 0, .int .u8 0, .int .u8 0, .int .u8 0, .int .u8 0, .int .u8 0, .int .u8 0, .int .u8 0, .int .u8 0, .int .u8 0, .int .u8 0, .int .u8 0, .int .u8 0, .int .u8 0, .int .u8 0]
theorem and1 (x : Int) (h0 : 0 ≤ x) (h1 : x < 256) : bits .and .u8 x 1 = x % 2 := by
  obtain ⟨x, rfl⟩ := Int.eq_ofNat_of_zero_le h0
  have := u8_and_nat x 1 (by omega) (by omega)
  rw [show ((1 : Nat) : Int) = 1 from rfl] at this
  rw [this, show (1 : Nat) = 2 ^ 1 - 1 from rfl, Nat.and_two_pow_sub_one_eq_mod]
  omega
theorem guid (x : Int) (h0 : 0 ≤ x) (h1 : x < 256) (w : World) : Calls Tryf.prog 23 #[.int .u8 x] w fun e w' => e = .returned (.agg (gc (gOf x)).toArray) ∧ w' = (w.alloc (.cells (gc (gOf x)).toArray 47)).alloc (.cells (gc (gOf x)).toArray 47) := by
  have ha := and1 (x / 4) (by omega) (by omega)
  go_enter Tryf.func23, Tryf.ntmps23
  go_wp2_with fail
  refine bodyPost_ret (v := .agg (gc (gOf x)).toArray) (by simp [results, Tryf.results23, go_sem, gc, gOf]) rfl ⟨rfl, rfl⟩

/-! ### rcEqual: two slices that hold the same -/
theorem index22 {ao : Option Addr} {b o n c k : Nat} (hk : k < n) (ha : ao = some ⟨b, o, none⟩) (wx : World) :
    (Instr.indexAt 22 (.slice ao n c) (.int .i64 (k : Int))).run Tryf.prog wx = .ok (.pointer (some ⟨b, o + k, none⟩)) wx := by
  subst ha
  simp [Instr.indexAt, run_underlying Tryf.underlying22, asIntOf, go_sem, hk]
def Same (w w' : World) : Prop := ∃ q, w' = w.drewN q
theorem Same.refl (w : World) : Same w w := ⟨0, rfl⟩
theorem Same.drewN {w w' : World} (h : Same w w') (q : Nat) : Same w (w'.drewN q) := by obtain ⟨z, rfl⟩ := h; exact ⟨z + q, by simp [World.drewN, Nat.add_assoc]⟩
theorem Same.heap {w w' : World} (h : Same w w') : w'.heap = w.heap := by obtain ⟨z, rfl⟩ := h; rfl
theorem Same.below {w w0 w' : World} (h : Same w w') {B : Nat} (hb : Below B w0 w) : Below B w0 w' := by obtain ⟨z, rfl⟩ := h; exact hb.trans ⟨rfl, rfl, rfl, Nat.le_refl _, fun _ _ => rfl⟩
theorem Same.trans {w w' w'' : World} (h : Same w w') (k : Same w' w'') : Same w w'' := by obtain ⟨z, rfl⟩ := h; obtain ⟨y, rfl⟩ := k; exact ⟨z + y, by simp [World.drewN, Nat.add_assoc]⟩
/-- The bytes of a slice can be read. -/
def Dat (q : IntKind) (w : World) (ao : Option Addr) (n : Nat) (X : Nat → Int) : Prop := n = 0 ∨ ∃ b o, ao = some ⟨b, o, none⟩ ∧ ∀ i, i < n → w.cell? ⟨b, o + i, none⟩ = some (.int q (X i))
theorem Dat.same {q : IntKind} {w w' : World} {ao : Option Addr} {n : Nat} {X : Nat → Int} (h : Dat q w ao n X) (hs : Same w w') : Dat q w' ao n X := by
  obtain ⟨z, rfl⟩ := hs; exact h
theorem Row'.dat {q : IntKind} {t : Nat} {w : World} {ao : Option Addr} {b n : Nat} {X : Nat → Int} (h : Row' q t w ao b n X) : Dat q w ao n X := by
  rcases h with h | ⟨rfl, hr⟩
  · exact .inl h
  · exact .inr ⟨b, 0, rfl, fun i hi => by rw [Nat.zero_add, hr.cell hi]; rfl⟩
set_option maxHeartbeats 400000 in
theorem equal_yes (a0 a1 : Option Addr) (n c0 c1 : Nat) (X : Nat → Int) (w : World) (hn : n ≤ 4194304) (hx : Dat .u8 w a0 n X) (hy : Dat .u8 w a1 n X) :
    Calls Tryf.prog 27 #[.slice a0 n c0, .slice a1 n c1] w fun e w' => e = .returned (.bool true) ∧ Same w w' := by
  have HX : Hid (Dat .u8 w a0 n X) := hx
  have HY : Hid (Dat .u8 w a1 n X) := hy
  clear hx hy
  go_enter Tryf.func27, Tryf.ntmps27
  go_wp2_with fail
  go_loopw [5] (fun i wr => ∃ k : Nat, k ≤ n ∧ i = .int .i64 (k : Int) ∧ Same w wr) (fun i _ => n - (intOf i).toNat)
  case atStart => exact ⟨0, Nat.zero_le _, rfl, Same.refl _⟩
  case round =>
    obtain ⟨k, hk, rfl, hsm⟩ := hrel
    have HS : Hid (Same w wr) := hsm
    clear hsm
    by_cases hlt : k < n
    · have hl : (k : Int) < (n : Int) := by omega
      obtain ⟨b, o, ha, hcx⟩ : ∃ b o, a0 = some ⟨b, o, none⟩ ∧ wr.cell? ⟨b, o + k, none⟩ = some (.int .u8 (X k)) := by
        rcases HX.out.same HS.out with h | ⟨b, o, h, hc⟩
        · omega
        · exact ⟨b, o, h, hc k hlt⟩
      obtain ⟨b', o', ha', hcy⟩ : ∃ b o, a1 = some ⟨b, o, none⟩ ∧ wr.cell? ⟨b, o + k, none⟩ = some (.int .u8 (X k)) := by
        rcases HY.out.same HS.out with h | ⟨b, o, h, hc⟩
        · omega
        · exact ⟨b, o, h, hc k hlt⟩
      have hix := index22 (c := c0) hlt ha
      have hiy := index22 (c := c1) hlt ha'
      clear ha ha'
      go_wp2_with fail
      go_quiet (fail)
      go_wp2_with fail
      go_roundw
      case rel => exact ⟨k + 1, by omega, by go_num, HS.out.drewN _⟩
      case measure => simp [intOf]; omega
    · have hl : decide ((k : Int) < (n : Int)) = false := by simp; omega
      have hln : n ≤ k := by omega
      go_wp2_with fail
      go_ret
      exact ⟨rfl, HS.out⟩

/-! ### The layout of the records -/
/-- Where record i starts and ends. -/
def enAt (start : Nat) (L : Nat → Nat) : Nat → Nat
  | 0 => start + 12 + L 0
  | i + 1 => al (enAt start L i) + 12 + L (i + 1)
def offAt (start : Nat) (L : Nat → Nat) : Nat → Nat
  | 0 => start
  | i + 1 => al (enAt start L i)
theorem en_eq (start : Nat) (L : Nat → Nat) (i : Nat) : enAt start L i = offAt start L i + 12 + L i := by cases i <;> rfl
/-- Where the records end. -/
def frAt (start : Nat) (L : Nat → Nat) (n : Nat) : Nat := offAt start L n
theorem off_bd (start : Nat) (L : Nat → Nat) (hL : ∀ i, L i < 256) (i : Nat) : offAt start L i ≤ start + 280 * i := by
  induction i with
  | zero => exact Nat.le_refl _
  | succ i ih =>
    have h1 := al_lt (enAt start L i)
    rw [en_eq] at h1
    have := hL i
    show al (enAt start L i) ≤ _
    rw [en_eq]
    omega
theorem off_le_en (start : Nat) (L : Nat → Nat) (i : Nat) : offAt start L i + 12 ≤ enAt start L i := by rw [en_eq]; omega
theorem en_le_off (start : Nat) (L : Nat → Nat) (i : Nat) : enAt start L i ≤ offAt start L (i + 1) := le_al _
theorem off_mono (start : Nat) (L : Nat → Nat) {i j : Nat} (h : i ≤ j) : offAt start L i ≤ offAt start L j := by
  induction j with
  | zero => obtain rfl : i = 0 := by omega
            exact Nat.le_refl _
  | succ j ih =>
    by_cases e : i = j + 1
    · subst e; exact Nat.le_refl _
    · have h1 := ih (by omega)
      have h2 := off_le_en start L j
      have h3 := en_le_off start L j
      omega
theorem en_le (start : Nat) (L : Nat → Nat) {i j : Nat} (h : i < j) : enAt start L i ≤ offAt start L j :=
  Nat.le_trans (en_le_off start L i) (off_mono start L h)

set_option maxHeartbeats 400000 in
theorem total_any (start n c slack post : Nat) (ao : Option Addr) (L : Nat → Nat) (hL : ∀ i, L i < 256) (w : World) (hs : start ≤ 65536) (hn : n ≤ 4096) (hsl : slack ≤ 65535) (hp : post ≤ 65536) (hd : Dat .u8 w ao n fun i => (L i : Int)) :
    Calls Tryf.prog 17 #[.int .i64 (start : Int), .slice ao n c, .int .u16 (slack : Int), .int .i64 (post : Int)] w fun e w' => e = .returned (.int .i64 ((offAt start L n + slack + post : Nat) : Int)) ∧ w' = w := by
  have HD : Hid (Dat .u8 w ao n fun i => (L i : Int)) := hd
  have HL : Hid (∀ i, L i < 256) := hL
  clear hd hL
  go_enter Tryf.func17, Tryf.ntmps17
  go_wp2_with fail
  go_loop [9, 10, 11] (fun p l i => ∃ k : Nat, k ≤ n ∧ i = .int .i64 (k : Int) ∧ (∃ y : Int, p = .int .i64 y ∧ (k = 0 → y = start)) ∧ (∃ x : Nat, l = .int .i64 (x : Int) ∧ (0 < k → x = enAt start L (k - 1)) ∧ x ≤ 2000000)) (fun _ _ i => n - (intOf i).toNat)
  case atStart => exact ⟨0, Nat.zero_le _, rfl, ⟨_, rfl, fun _ => rfl⟩, start, rfl, fun h => by omega, by omega⟩
  case round =>
    obtain ⟨k, hk, rfl, ⟨y, rfl, hy⟩, x, rfl, hx, hxb⟩ := hrel
    have HX : Hid (0 < k → x = enAt start L (k - 1)) := hx
    clear hx
    have HAL : Hid (0 < k → al x = offAt start L k) := fun h => by
      rw [HX.out h]; cases k with
      | zero => omega
      | succ k => rfl
    have HOB : Hid (offAt start L k ≤ start + 280 * k) := off_bd start L HL.out k
    by_cases hlt : k < n
    · have hl : (k : Int) < (n : Int) := by omega
      obtain ⟨b, o, ha, hcx⟩ : ∃ b o, ao = some ⟨b, o, none⟩ ∧ w.cell? ⟨b, o + k, none⟩ = some (.int .u8 (L k : Int)) := by
        rcases HD.out with h | ⟨b, o, h, hc⟩
        · omega
        · exact ⟨b, o, h, hc k hlt⟩
      have hix := index22 (c := c) hlt ha
      have hlk := HL.out k
      have HEN : Hid (enAt start L k = offAt start L k + 12 + L k) := en_eq start L k
      have HEB : Hid (enAt start L k ≤ 2000000) := by have h1 := HOB.out; have h2 := HEN.out; unfold Hid; omega
      clear ha
      rcases Nat.eq_zero_or_pos k with hk0 | hk0
      · have hk0' : decide ((0 : Int) < (k : Int)) = false := by simp; omega
        have hk0n : decide (0 < k) = false := by simp; omega
        obtain rfl := hy hk0
        clear hy
        have HE0 : Hid (((start : Int) + 12 + (L k : Int)) = ((enAt start L k : Nat) : Int)) := by rw [HEN.out]; subst hk0; simp [Hid, offAt]
        clear hk0
        go_wp2_with fail
        go_round
        case rel => exact ⟨k + 1, by omega, by go_num, ⟨_, rfl, fun h => by omega⟩, enAt start L k, by rw [HE0.out], fun _ => rfl, HEB.out⟩
        case measure => simp [intOf]; omega
      · have hk0' : (0 : Int) < (k : Int) := by omega
        clear hy
        go_wp2_with fail
        refine (align4 x (by omega) _).mono ?_
        rintro e w1 ⟨rfl, rfl⟩
        have halb := al_lt x
        have HE0 : Hid (((al x : Nat) : Int) + 12 + (L k : Int) = ((enAt start L k : Nat) : Int)) := by rw [HEN.out, HAL.out hk0]; simp [Hid]
        go_wp2_with fail
        go_round
        case rel => exact ⟨k + 1, by omega, by go_num, ⟨_, rfl, fun h => by omega⟩, enAt start L k, by rw [HE0.out], fun _ => rfl, HEB.out⟩
        case measure => simp [intOf]; omega
    · have hl : decide ((k : Int) < (n : Int)) = false := by simp; omega
      obtain rfl : k = n := by omega
      rcases Nat.eq_zero_or_pos k with hk0 | hk0
      · subst hk0
        clear hy
        have HE0 : Hid ((start : Int) + (slack : Int) + (post : Int) = ((offAt start L 0 + slack + post : Nat) : Int)) := by simp [Hid, offAt]
        go_wp2_with fail
        go_ret
        exact ⟨ret_int HE0.out, rfl⟩
      · have hk0' : (0 : Int) < (k : Int) := by omega
        clear hy
        have HE0 : Hid (((al x : Nat) : Int) + (slack : Int) + (post : Int) = ((offAt start L k + slack + post : Nat) : Int)) := by rw [HAL.out hk0]; simp [Hid]
        go_wp2_with fail
        refine (align4 x (by omega) _).mono ?_
        rintro e w1 ⟨rfl, rfl⟩
        have halb := al_lt x
        go_wp2_with fail
        go_ret
        exact ⟨ret_int HE0.out, rfl⟩
end Go.Proofs.Qxb6003952aFmt
