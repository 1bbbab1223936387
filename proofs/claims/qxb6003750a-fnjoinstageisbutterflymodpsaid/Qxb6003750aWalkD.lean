/- The walk of FnJoinStageIsButterflyModP. -/
import Derived.Test.Qxb6003750aWalkC
namespace Go.Proofs.Qxb6003750a
open Go.RowKit Pl
set_option linter.unusedVariables false

/-- The element k of a slice of the call's own: its place. -/
theorem Row'.index {w : World} {ao : Option Addr} {b n : Nat} {X : Nat → Int} (h : Row' w ao b n X) (k : Nat) (hk : k < n) (wx : World) :
    (Instr.indexAt 26 (.slice ao n n) (.int .i64 (k : Int))).run Try.prog wx = .ok (.pointer (some ⟨b, k, none⟩)) wx := by
  obtain ⟨rfl, _⟩ := h.pos (by omega)
  simp [Instr.indexAt, run_underlying Try.underlying26, asIntOf, go_sem, hk]
theorem Row'.cell {w : World} {ao : Option Addr} {b n : Nat} {X : Nat → Int} (h : Row' w ao b n X) (k : Nat) (hk : k < n) : w.cell? ⟨b, k, none⟩ = some (.int .u64 (X k)) := by
  obtain ⟨rfl, hr⟩ := h.pos (by omega)
  exact hr.cell hk

/-- The same world but for draws. -/
def Same (w w' : World) : Prop := ∃ q, w' = w.drewN q
theorem Same.row {w w' : World} (h : Same w w') {ao : Option Addr} {b n : Nat} {X : Nat → Int} (r : Row' w ao b n X) : Row' w' ao b n X := by
  obtain ⟨q, rfl⟩ := h; exact r
theorem Same.next {w w' : World} (h : Same w w') (q : Nat) : Same w (w'.drewN q) := by
  obtain ⟨q', rfl⟩ := h; exact ⟨q' + q, by rw [World.drewN_drewN]⟩
theorem Same.below {w w' : World} (h : Same w w') {W : World} {B : Nat} (hb : Below B W w) : Below B W w' := by
  obtain ⟨q, rfl⟩ := h; exact ⟨hb.os, hb.tape, hb.output, hb.size, hb.block⟩

set_option maxHeartbeats 1000000 in
theorem law_go (a0 a1 a2 : Option Addr) (n m l c0 c1 c2 : Nat) (X Y Z : Nat → Int) (hs : (n + m + l) * 8 ≤ 1048576) (hnm : n ≤ m) (hnl : n ≤ l)
    (wX : ∀ i, Word (X i)) (wY : ∀ i, Word (Y i)) (wZ : ∀ i, Word (Z i)) (w : World) (s0 : Src w a0 n c0 X) (s1 : Src w a1 m c1 Y) (s2 : Src w a2 l c2 Z) :
    Calls Try.prog 5 #[.slice a0 n c0, .slice a1 m c1, .slice a2 l c2] w fun e w' => e = .returned (.bool true) ∧ Below w.heap.size w w' := by
  have S0 : Hid (Src w a0 n c0 X) := s0
  have S1 : Hid (Src w a1 m c1 Y) := s1
  have S2 : Hid (Src w a2 l c2 Z) := s2
  clear s0 s1 s2
  have t1 : decide ((131072 : Int) < (n : Int)) = false := by simp; omega
  have t2 : decide ((131072 : Int) < (m : Int)) = false := by simp; omega
  have t3 : decide ((131072 : Int) < (l : Int)) = false := by simp; omega
  have t4 : decide ((m : Int) < (n : Int)) = false := by simp; omega
  have t5 : decide ((l : Int) < (n : Int)) = false := by simp; omega
  have t6 : decide ((1048576 : Int) < ((n : Int) + (m : Int) + (l : Int)) * 8) = false := by simp; omega
  go_enter Try.func5, Try.ntmps5
  go_wp2_with fail
  refine (bytes_yes a0 a1 a2 n m l c0 c1 c2 (by omega) _).mono ?_
  rintro e w ⟨rfl, rfl⟩
  go_wp2_with fail
  refine (clone_any a0 n c0 X (by omega) w S0.out).mono ?_
  rintro e w1 ⟨ax, rfl, rx1, bel1⟩
  have S1' : Hid (Src w1 a1 m c1 Y) := S1.out.keep bel1
  have S2' : Hid (Src w1 a2 l c2 Z) := S2.out.keep bel1
  have RX1 : Hid (Row' w1 ax w.heap.size n X) := rx1
  have B1 : Hid (Below w.heap.size w w1) := bel1
  have z1 : w.heap.size ≤ w1.heap.size := bel1.size
  have Z1 : Hid (0 < n → w.heap.size < w1.heap.size) := fun h => (rx1.pos h).2.lt
  clear rx1 bel1 S0 S1 S2
  go_wp2_with fail
  refine (clone_any a1 m c1 Y (by omega) w1 S1'.out).mono ?_
  rintro e w2 ⟨ay, rfl, ry1, bel2⟩
  have S2 : Hid (Src w2 a2 l c2 Z) := S2'.out.keep bel2
  have RX2 : Hid (Row' w2 ax w.heap.size n X) := RX1.out.keep bel2
  have RY2 : Hid (Row' w2 ay w1.heap.size m Y) := ry1
  have B2 : Hid (Below w.heap.size w w2) := B1.out.trans (bel2.mono z1)
  have z2 : w1.heap.size ≤ w2.heap.size := bel2.size
  have Z2 : Hid (0 < m → w1.heap.size < w2.heap.size) := fun h => (ry1.pos h).2.lt
  clear ry1 bel2 S1' S2' RX1 B1
  go_wp2_with fail
  refine (clone_any a2 l c2 Z (by omega) w2 S2.out).mono ?_
  rintro e w3 ⟨az, rfl, rz1, bel3⟩
  have RX3 : Hid (Row' w3 ax w.heap.size n X) := RX2.out.keep bel3
  have RY3 : Hid (Row' w3 ay w1.heap.size m Y) := RY2.out.keep bel3
  have RZ3 : Hid (Row' w3 az w2.heap.size l Z) := rz1
  have B3 : Hid (Below w.heap.size w w3) := B2.out.trans (bel3.mono (by omega))
  have z3 : w2.heap.size ≤ w3.heap.size := bel3.size
  have Z3 : Hid (0 < l → w2.heap.size < w3.heap.size) := fun h => (rz1.pos h).2.lt
  clear rz1 bel3 RX2 RY2 B2 S2
  go_wp2_with fail
  refine (clone_any ax n n X (by omega) w3 RX3.out.src).mono ?_
  rintro e w4 ⟨ax0, rfl, rx1, bel4⟩
  have RX4 : Hid (Row' w4 ax w.heap.size n X) := RX3.out.keep bel4
  have RY4 : Hid (Row' w4 ay w1.heap.size m Y) := RY3.out.keep bel4
  have RZ4 : Hid (Row' w4 az w2.heap.size l Z) := RZ3.out.keep bel4
  have RP4 : Hid (Row' w4 ax0 w3.heap.size n X) := rx1
  have B4 : Hid (Below w.heap.size w w4) := B3.out.trans (bel4.mono (by omega))
  have z4 : w3.heap.size ≤ w4.heap.size := bel4.size
  clear rx1 bel4 RX3 RY3 RZ3 B3
  go_wp2_with fail
  refine (clone_any ay m m Y (by omega) w4 RY4.out.src).mono ?_
  rintro e w5 ⟨ay0, rfl, ry1, bel5⟩
  have RX5 : Hid (Row' w5 ax w.heap.size n X) := RX4.out.keep bel5
  have RY5 : Hid (Row' w5 ay w1.heap.size m Y) := RY4.out.keep bel5
  have RZ5 : Hid (Row' w5 az w2.heap.size l Z) := RZ4.out.keep bel5
  have RP5 : Hid (Row' w5 ax0 w3.heap.size n X) := RP4.out.keep bel5
  have RQ5 : Hid (Row' w5 ay0 w4.heap.size m Y) := ry1
  have B5 : Hid (Below w.heap.size w w5) := B4.out.trans (bel5.mono (by omega))
  have z5 : w4.heap.size ≤ w5.heap.size := bel5.size
  clear ry1 bel5 RX4 RY4 RZ4 RP4 B4
  go_wp2_with fail
  refine (clone_any az l l Z (by omega) w5 RZ5.out.src).mono ?_
  rintro e w6 ⟨az0, rfl, rz1, bel6⟩
  have RX6 : Hid (Row' w6 ax w.heap.size n X) := RX5.out.keep bel6
  have RY6 : Hid (Row' w6 ay w1.heap.size m Y) := RY5.out.keep bel6
  have RZ6 : Hid (Row' w6 az w2.heap.size l Z) := RZ5.out.keep bel6
  have RP6 : Hid (Row' w6 ax0 w3.heap.size n X) := RP5.out.keep bel6
  have RQ6 : Hid (Row' w6 ay0 w4.heap.size m Y) := RQ5.out.keep bel6
  have RR6 : Hid (Row' w6 az0 w5.heap.size l Z) := rz1
  have B6 : Hid (Below w.heap.size w w6) := B5.out.trans (bel6.mono (by omega))
  clear rz1 bel6 RX5 RY5 RZ5 RP5 RQ5 B5
  go_wp2_with fail
  refine (zzjoinStage_any ax ay az w.heap.size w1.heap.size w2.heap.size n m l X Y Z hnm hnl (by omega) (by omega) (by omega) wX wY wZ (fun h => by have a := Z1.out h; have b := Z2.out (by omega); omega) w6 RX6.out RY6.out RZ6.out).mono ?_
  rintro e w7 ⟨rfl, rx, ry, on⟩
  have RX : Hid (Row' w7 ax w.heap.size n (jX X Y Z n)) := rx
  have RY : Hid (Row' w7 ay w1.heap.size m (jY X Y Z n)) := ry
  have RZ : Hid (Row' w7 az w2.heap.size l Z) := RZ6.out.only on (fun h => by have a := Z1.out h.1; have b := Z2.out (by omega); omega)
  have RP : Hid (Row' w7 ax0 w3.heap.size n X) := RP6.out.only on (fun h => by have a := Z1.out h.1; have b := Z2.out (by omega); have c := Z3.out (by omega); omega)
  have RQ : Hid (Row' w7 ay0 w4.heap.size m Y) := RQ6.out.only on (fun h => by have a := Z1.out h.1; have b := Z2.out (by omega); have c := Z3.out (by omega); omega)
  have RR : Hid (Row' w7 az0 w5.heap.size l Z) := RR6.out.only on (fun h => by have a := Z1.out h.1; have b := Z2.out (by omega); have c := Z3.out (by omega); omega)
  have B7 : Hid (Below w.heap.size w w7) := B6.out.trans (on.below (fun k h => by omega))
  clear rx ry on RX6 RY6 RZ6 RP6 RQ6 RR6 B6
  generalize w1.heap.size = b_y at *
  generalize w2.heap.size = bz at *
  generalize w3.heap.size = bx0 at *
  generalize w4.heap.size = by0 at *
  generalize w5.heap.size = bz0 at *
  clear z1 z2 z3 z4 z5 Z1 Z2 Z3
  go_wp2_with fail
  clear t1 t2 t3 t4 t5 t6
  go_loopw [10] (fun i wr => ∃ k : Nat, k ≤ n ∧ i = .int .i64 k ∧ Same w7 wr) (fun i _ => n - (intOf i).toNat)
  case atStart => exact ⟨0, Nat.zero_le _, rfl, 0, rfl⟩
  case round =>
    obtain ⟨k, hk, rfl, hsm⟩ := hrel
    have HS : Hid (Same w7 wr) := hsm
    clear hsm
    by_cases hlt : k < n
    · have hi1 : (k : Int) < (n : Int) := by omega
      have hi2 : (k : Int) < (m : Int) := by omega
      have hi3 : (k : Int) < (l : Int) := by omega
      have ix := (HS.out.row RX.out).index k hlt
      have iy := (HS.out.row RY.out).index k (by omega)
      have ip := (HS.out.row RP.out).index k hlt
      have iq := (HS.out.row RQ.out).index k (by omega)
      have ir := (HS.out.row RR.out).index k (by omega)
      have cx := (HS.out.row RX.out).cell k hlt
      have cy := (HS.out.row RY.out).cell k (by omega)
      have cp := (HS.out.row RP.out).cell k hlt
      have cq := (HS.out.row RQ.out).cell k (by omega)
      have cr := (HS.out.row RR.out).cell k (by omega)
      have ex : jX X Y Z n k = addM (X k) (mulM (Y k) (Z k)) := by simp [jX, hlt]
      have ey : jY X Y Z n k = subM (X k) (mulM (Y k) (Z k)) := by simp [jY, hlt]
      rw [ex] at cx
      rw [ey] at cy
      clear ex ey
      have W1 : Hid (Word (addM (X k) (mulM (Y k) (Z k)))) := addM_word (wX k) (mulM_word (wY k) (wZ k))
      have W2 : Hid (Word (subM (X k) (mulM (Y k) (Z k)))) := subM_word (wX k) (mulM_word (wY k) (wZ k))
      have e1 : (cn (addM (X k) (mulM (Y k) (Z k))) != cn (cn (X k) + cn (cn (Y k) * cn (Z k)))) = false := by rw [law_join_add (wX k) (wY k) (wZ k)]; simp
      have e2 : (cn (subM (X k) (mulM (Y k) (Z k))) != cn (cn (X k) - cn (cn (Y k) * cn (Z k)))) = false := by rw [law_join_sub (wX k) (wY k) (wZ k)]; simp
      go_wp2_with fail
      go_quiet ((first
        | (go_at_call_of 7 (Y k); exact Calls.quiet_of_same (canon_any (Y k) (wY k) _))
        | (go_at_call_of 7 (Z k); exact Calls.quiet_of_same (canon_any (Z k) (wZ k) _))
        | (go_at_call 14; exact Calls.quiet_of_same (modelMul_any (cn (Y k)) (cn (Z k)) (cn_res _) (cn_res _) _))))
      go_wp2_with fail
      refine (canon_any (X k) (wX k) _).mono ?_
      rintro e w' ⟨rfl, rfl⟩
      go_wp2_with fail
      refine (canon_any _ W1.out _).mono ?_
      rintro e w' ⟨rfl, rfl⟩
      go_wp2_with fail
      refine (modelAdd_any _ _ (cn_res _) (cn_res _) _).mono ?_
      rintro e w' ⟨rfl, rfl⟩
      go_wp2_with fail
      refine (canon_any _ W2.out _).mono ?_
      rintro e w' ⟨rfl, rfl⟩
      go_wp2_with fail
      refine (modelSub_any _ _ (cn_res _) (cn_res _) _).mono ?_
      rintro e w' ⟨rfl, rfl⟩
      go_wp2_with fail
      go_roundw
      case rel => exact ⟨k + 1, by omega, by go_num, HS.out.next _⟩
      case measure => simp [intOf]; omega
    · have hd : decide ((k : Int) < (n : Int)) = false := by simp; omega
      go_wp2_with fail
      go_loopw [13] (fun i wr' => ∃ k : Nat, n ≤ k ∧ k ≤ m ∧ i = .int .i64 k ∧ Same w7 wr') (fun i _ => m - (intOf i).toNat)
      case atStart => exact ⟨n, Nat.le_refl _, hnm, rfl, HS.out⟩
      case round =>
        obtain ⟨k2, hk1, hk2, rfl, hsm⟩ := hrel
        clear HS
        have HS : Hid (Same w7 wr) := hsm
        clear hsm hd hlt hk
        by_cases hlt2 : k2 < m
        · have hi2 : (k2 : Int) < (m : Int) := by omega
          have iy := (HS.out.row RY.out).index k2 (by omega)
          have iq := (HS.out.row RQ.out).index k2 (by omega)
          have cy := (HS.out.row RY.out).cell k2 (by omega)
          have cq := (HS.out.row RQ.out).cell k2 (by omega)
          have ey : jY X Y Z n k2 = Y k2 := by simp [jY]; omega
          rw [ey] at cy
          clear ey
          go_wp2_with fail
          go_quiet (fail)
          go_wp2_with fail
          go_roundw
          case rel => exact ⟨k2 + 1, by omega, by omega, by go_num, HS.out.next _⟩
          case measure => simp [intOf]; omega
        · have hd : decide ((k2 : Int) < (m : Int)) = false := by simp; omega
          go_wp2_with fail
          go_loopw [14] (fun i wr' => ∃ k : Nat, k ≤ l ∧ i = .int .i64 k ∧ Same w7 wr') (fun i _ => l - (intOf i).toNat)
          case atStart => exact ⟨0, Nat.zero_le _, rfl, HS.out⟩
          case round =>
            obtain ⟨k3, hk3, rfl, hsm⟩ := hrel
            clear HS
            have HS : Hid (Same w7 wr) := hsm
            clear hsm hd hlt2 hk1 hk2
            by_cases hlt3 : k3 < l
            · have hi2 : (k3 : Int) < (l : Int) := by omega
              have iy := (HS.out.row RZ.out).index k3 (by omega)
              have iq := (HS.out.row RR.out).index k3 (by omega)
              have cy := (HS.out.row RZ.out).cell k3 (by omega)
              have cq := (HS.out.row RR.out).cell k3 (by omega)
              go_wp2_with fail
              go_quiet (fail)
              go_wp2_with fail
              go_roundw
              case rel => exact ⟨k3 + 1, by omega, by go_num, HS.out.next _⟩
              case measure => simp [intOf]; omega
            · have hd : decide ((k3 : Int) < (l : Int)) = false := by simp; omega
              go_wp2_with fail
              go_ret
              exact ⟨rfl, HS.out.below B7.out⟩

set_option maxHeartbeats 1000000 in
/-- The ways out ahead of the clones. -/
theorem law_out (a0 a1 a2 : Option Addr) (n m l c0 c1 c2 : Nat) (hn : n ≤ maxLen) (hm : m ≤ maxLen) (hl : l ≤ maxLen) (h : ¬ ((n + m + l) * 8 ≤ 1048576 ∧ n ≤ m ∧ n ≤ l)) (w : World) :
    Calls Try.prog 5 #[.slice a0 n c0, .slice a1 m c1, .slice a2 l c2] w fun e w' => e = .returned (.bool true) ∧ Below w.heap.size w w' := by
  by_cases hb : n + m + l ≤ 1048576
  · go_enter Try.func5, Try.ntmps5
    go_wp2_with fail
    refine (bytes_yes a0 a1 a2 n m l c0 c1 c2 hb _).mono ?_
    rintro e w ⟨rfl, rfl⟩
    by_cases h1 : (131072 : Int) < (n : Int)
    · go_wp2_with fail
      go_ret
      exact ⟨rfl, Below.refl _ _⟩
    by_cases h2 : (131072 : Int) < (m : Int)
    · go_wp2_with fail
      go_ret
      exact ⟨rfl, Below.refl _ _⟩
    by_cases h3 : (131072 : Int) < (l : Int)
    · go_wp2_with fail
      go_ret
      exact ⟨rfl, Below.refl _ _⟩
    by_cases h4 : (1048576 : Int) < ((n : Int) + (m : Int) + (l : Int)) * 8
    · go_wp2_with fail
      go_ret
      exact ⟨rfl, Below.refl _ _⟩
    by_cases h5 : (m : Int) < (n : Int)
    · go_wp2_with fail
      go_ret
      exact ⟨rfl, Below.refl _ _⟩
    have h6 : (l : Int) < (n : Int) := by omega
    go_wp2_with fail
    go_ret
    exact ⟨rfl, Below.refl _ _⟩
  · go_enter Try.func5, Try.ntmps5
    go_wp2_with fail
    refine (bytes_no a0 a1 a2 n m l c0 c1 c2 hb hn hm hl _).mono ?_
    rintro e w ⟨rfl, rfl⟩
    go_wp2_with fail
    go_ret
    exact ⟨rfl, Below.refl _ _⟩
end Go.Proofs.Qxb6003750a
