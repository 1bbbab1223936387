/- The walk of FnNumberRefusesExactlyShortAndReadsOnlyItsWindow. -/
import Derived.Test.Qxb6003873aFmtWalkB
namespace Go.Proofs.Qxb6003873aFmt
open Go.RowKit Go.Extern.Stop Go.Stop Go.Extern
set_option linter.unusedVariables false

set_option maxHeartbeats 400000 in
theorem law1_out (a0 : Option Addr) (n c : Nat) (pos at_ size : Int) (w : World) (h : ¬ (n ≤ 65536 ∧ 0 ≤ pos ∧ pos ≤ n ∧ 0 ≤ size ∧ size ≤ 8)) :
    Calls Tryf.prog 5 #[.slice a0 n c, .int .i64 pos, .int .i64 at_, .int .i64 size] w fun e w' => e = .returned (.bool true) ∧ Below w.heap.size w w' := by
  by_cases hb : n ≤ 1048576
  · by_cases h1 : n ≤ 65536
    · by_cases h2 : pos < 0
      · go_enter Tryf.func5, Tryf.ntmps5
        go_wp2_with fail
        refine (bytes13_yes a0 n c _ _ _ hb _).mono ?_
        rintro e w ⟨rfl, rfl⟩
        go_wp2_with fail
        go_ret
        exact ⟨rfl, Below.refl _ _⟩
      · by_cases h3 : (n : Int) < pos
        · go_enter Tryf.func5, Tryf.ntmps5
          go_wp2_with fail
          refine (bytes13_yes a0 n c _ _ _ hb _).mono ?_
          rintro e w ⟨rfl, rfl⟩
          go_wp2_with fail
          go_ret
          exact ⟨rfl, Below.refl _ _⟩
        · by_cases h4 : size < 0
          · go_enter Tryf.func5, Tryf.ntmps5
            go_wp2_with fail
            refine (bytes13_yes a0 n c _ _ _ hb _).mono ?_
            rintro e w ⟨rfl, rfl⟩
            go_wp2_with fail
            go_ret
            exact ⟨rfl, Below.refl _ _⟩
          · have h5 : 8 < size := by omega
            go_enter Tryf.func5, Tryf.ntmps5
            go_wp2_with fail
            refine (bytes13_yes a0 n c _ _ _ hb _).mono ?_
            rintro e w ⟨rfl, rfl⟩
            go_wp2_with fail
            go_ret
            exact ⟨rfl, Below.refl _ _⟩
    · go_enter Tryf.func5, Tryf.ntmps5
      go_wp2_with fail
      refine (bytes13_yes a0 n c _ _ _ hb _).mono ?_
      rintro e w ⟨rfl, rfl⟩
      go_wp2_with fail
      go_ret
      exact ⟨rfl, Below.refl _ _⟩
  · go_enter Tryf.func5, Tryf.ntmps5
    go_wp2_with fail
    refine (bytes13_no a0 n c _ _ _ hb _).mono ?_
    rintro e w ⟨rfl, rfl⟩
    go_wp2_with fail
    go_ret
    exact ⟨rfl, Below.refl _ _⟩

set_option maxHeartbeats 400000 in
theorem law1_short (F : Interp) (a0 : Option Addr) (n c : Nat) (pos at_ size : Int) (X : Nat → Int) (w : World) (hF : F.answers w.tape) (hn : n ≤ 65536) (hp0 : 0 ≤ pos) (hp : pos ≤ n) (hs0 : 0 ≤ size) (hs : size ≤ 8)
    (hsh : (n : Int) < pos + size) (hsrc : Src w a0 n c X) :
    Calls Tryf.prog 5 #[.slice a0 n c, .int .i64 pos, .int .i64 at_, .int .i64 size] w fun e w' => e = .returned (.bool true) ∧ Below w.heap.size w w' := by
  have t1 : decide ((65536 : Int) < (n : Int)) = false := by simp; omega
  have t2 : decide (pos < 0) = false := by simp; omega
  have t3 : decide ((n : Int) < pos) = false := by simp; omega
  have t4 : decide (size < 0) = false := by simp; omega
  have t5 : decide (8 < size) = false := by simp; omega
  have HS : Hid (Src w a0 n c X) := hsrc
  clear hsrc
  go_enter Tryf.func5, Tryf.ntmps5
  go_wp2_with fail
  refine (bytes13_yes a0 n c _ _ _ (by omega) _).mono ?_
  rintro e w ⟨rfl, rfl⟩
  go_wp2_with fail
  refine (clone_any a0 n c X (by omega) w HS.out).mono ?_
  rintro e w1 ⟨ax, rfl, rx1, bel1⟩
  have HB : Hid (Below w.heap.size w w1) := bel1
  have hF1 : F.answers w1.tape := by rw [bel1.tape]; exact hF
  clear rx1 bel1 HS
  go_wp2_with fail
  refine (zznumber_short F n n ax pos at_ size w1 hF1 (by omega) hp0 hp hs0 hs (by omega)).mono ?_
  rintro e w2 ⟨⟨p, rfl⟩, bel2⟩
  have HB2 : Hid (Below w.heap.size w w2) := HB.out.trans (bel2.mono HB.out.size)
  clear bel2 HB hF hF1
  go_wp2_with fail
  go_ret
  exact ⟨rfl, HB2.out⟩

theorem be_congr {X Y : Nat → Int} {p q k : Nat} (h : ∀ i, i < k → X (p + i) = Y (q + i)) : be X p k = be Y q k := by
  induction k with
  | zero => rfl
  | succ k ih => rw [be, be, ih (fun i hi => h i (by omega)), h k (by omega)]
theorem be_shr {X : Nat → Int} (hX : ∀ i, 0 ≤ X i ∧ X i < 256) (p k : Nat) : be X p k / 2 ^ (8 * k) = 0 := by
  have h := be_bd hX p k
  have e : (256 : Int) ^ k = 2 ^ (8 * k) := by rw [Int.pow_mul]; rfl
  rw [e] at h
  exact Int.ediv_eq_zero_of_lt h.1 h.2

theorem zznumber_ok0 (n c : Nat) (ao : Option Addr) (sz : Nat) (X : Nat → Int) (w : World)
    (hn : n ≤ 1048576) (hnc : n ≤ c) (hc : c ≤ 9223372036854775807) (hs : sz ≤ 8) (h : sz ≤ n) (hX : ∀ i, 0 ≤ X i ∧ X i < 256) (hd : Dat w ao n X) :
    Calls Tryf.prog 15 #[.slice ao n c, .int .i64 0, .int .i64 0, .int .i64 (sz : Int)] w fun e w' => e = .returned (.tuple #[.int .u64 (be X 0 sz), .int .i64 (sz : Int), .nilIface]) ∧ Below w.heap.size w w' := by
  have h1 := zznumber_ok n c ao 0 sz X 0 w hn hnc hc hs (by omega) hX hd
  simpa using h1

set_option maxHeartbeats 800000 in
theorem law1_ok (a0 : Option Addr) (n c : Nat) (p sz : Nat) (at_ : Int) (X : Nat → Int) (w : World) (hn : n ≤ 65536) (hs : sz ≤ 8)
    (h : p + sz ≤ n) (hX : ∀ i, 0 ≤ X i ∧ X i < 256) (hsrc : Src w a0 n c X) :
    Calls Tryf.prog 5 #[.slice a0 n c, .int .i64 (p : Int), .int .i64 at_, .int .i64 (sz : Int)] w fun e w' => e = .returned (.bool true) ∧ Below w.heap.size w w' := by
  have t1 : decide ((65536 : Int) < (n : Int)) = false := by simp; omega
  have t2 : decide ((p : Int) < 0) = false := by simp
  have t3 : decide ((n : Int) < (p : Int)) = false := by simp; omega
  have t4 : decide ((sz : Int) < 0) = false := by simp
  have t5 : decide (8 < (sz : Int)) = false := by simp; omega
  have t6 : decide ((n : Int) < (p : Int) + (sz : Int)) = false := by simp; omega
  have t7 : (((p : Int) + (sz : Int)) != ((p : Int) + (sz : Int))) = false := by simp
  have HS : Hid (Src w a0 n c X) := hsrc
  have HX : Hid (∀ i, 0 ≤ X i ∧ X i < 256) := hX
  have hu := be_lt64 hX p sz hs
  clear hsrc hX
  go_enter Tryf.func5, Tryf.ntmps5
  go_wp2_with fail
  refine (bytes13_yes a0 n c _ _ _ (by omega) _).mono ?_
  rintro e w ⟨rfl, rfl⟩
  go_wp2_with fail
  refine (clone_any a0 n c X (by omega) w HS.out).mono ?_
  rintro e w1 ⟨ax, rfl, rx1, bel1⟩
  have HB : Hid (Below w.heap.size w w1) := bel1
  have HR : Hid (Row' w1 ax w.heap.size n X) := rx1
  clear rx1 bel1 HS
  go_wp2_with fail
  refine (zznumber_ok n n ax p sz X at_ w1 (by omega) (Nat.le_refl _) (by omega) hs h HX.out HR.out.dat).mono ?_
  rintro e w2 ⟨rfl, bel2⟩
  have HB2 : Hid (Below w.heap.size w w2) := HB.out.trans (bel2.mono HB.out.size)
  have HR2 : Hid (Row' w2 ax w.heap.size n X) := HR.out.keep bel2
  clear bel2 HB HR
  have hmk := run_make_row' (P := Tryf.prog) 25 5 (.int .u8 0) 1 Tryf.underlying25 info5 rfl .i64 .i64 sz (by omega) (by omega)
  have HE : Hid (be (fun i => X (p + i)) 0 sz = be X p sz) := be_congr (fun i _ => by simp)
  have hq : decide ((sz : Int) < 8) = true ∨ decide ((sz : Int) < 8) = false := by cases decide ((sz : Int) < 8) <;> simp
  have e8 : (be X p sz / 2 ^ (8 * sz) != 0) = false := by rw [be_shr HX.out]; rfl
  have t9 : (be X p sz == be X p sz) = true := by simp
  rcases hq with hq | hq
  all_goals
    go_wp2_with fail
    go_loopw [14] (fun i wr => ∃ k : Nat, k ≤ sz ∧ i = .int .i64 k ∧ wr.rowIs w2.heap.size 5 sz (U (fillF (fun i => X (p + i)) k)) ∧ Below w2.heap.size w2 wr) (fun i _ => sz - (intOf i).toNat)
    case atStart => exact ⟨0, Nat.zero_le _, rfl, (World.rowIs_made w2 (.int .u8 0) sz 5).congr (fun i _ => by simp [U, fillF]), (Below.refl _ _).alloc (Nat.le_refl _) _⟩
    case round =>
      obtain ⟨k, hk, rfl, hr, hb⟩ := hrel
      have HR : Hid (wr.rowIs w2.heap.size 5 sz (U (fillF (fun i => X (p + i)) k))) := hr
      have HB : Hid (Below w2.heap.size w2 wr) := hb
      have hfr : wr.frozen? ⟨w2.heap.size, k, none⟩ = false := hr.frozen k
      clear hr hb hmk
      by_cases hlt : k < sz
      · have hi : (k : Int) < (sz : Int) := by omega
        have hix := HR2.out.index ((p : Int) + (k : Int)) (p + k) (by omega) (by omega)
        have hcx : wr.cell? ⟨w.heap.size, p + k, none⟩ = some (.int .u8 (X (p + k))) := (HR2.out.keep HB.out).cell (p + k) (by omega)
        obtain ⟨v0, hv0⟩ : ∃ v0, wr.cell? ⟨w2.heap.size, k, none⟩ = some v0 := ⟨_, HR.out.cell hlt⟩
        go_wp2_with fail
        go_roundw
        case rel => exact ⟨k + 1, by omega, by go_num, fill_step (X := fun i => X (p + i)) HR.out, HB.out.setCell (p := ⟨w2.heap.size, k, none⟩) (Nat.le_refl _) _⟩
        case measure => simp [intOf]; omega
      · have hd : decide ((k : Int) < (sz : Int)) = false := by simp; omega
        obtain rfl : k = sz := by omega
        have HF := fill_all HR.out
        have HD : Hid (Dat wr (some ⟨w2.heap.size, 0, none⟩) k (fun i => X (p + i))) := .inr ⟨_, rfl, fun i hi => HF.cell hi⟩
        clear HF HR
        go_wp2_with fail
        refine (zznumber_ok0 k k _ k (fun i => X (p + i)) wr (by omega) (Nat.le_refl _) (by omega) hs (Nat.le_refl _) (fun i => HX.out _) HD.out).mono ?_
        rw [HE.out]
        rintro e w3 ⟨rfl, bel3⟩
        have HB3 : Hid (Below w.heap.size w w3) := HB2.out.trans ((HB.out.mono HB2.out.size).trans (bel3.mono (Nat.le_trans HB2.out.size HB.out.size)))
        clear bel3 HB
        go_wp2_with fail
        go_ret
        exact ⟨rfl, HB3.out⟩
end Go.Proofs.Qxb6003873aFmt
