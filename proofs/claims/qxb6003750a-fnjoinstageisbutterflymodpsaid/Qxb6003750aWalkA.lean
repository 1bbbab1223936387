/- The walks of addMod, subMod, their exports, zzCanon, zzModelAdd, zzModelSub. -/
import Derived.Test.Qxb6003750aRows
import Derived.Test.Qxb6003750aPlain
import Derived.WalkKit
import Derived.WalkSpells
import Derived.WalkLawsBesides
import Derived.Laws.Externs
import Derived.RowKit3
namespace Go.Proofs.Qxb6003750a
open Go.RowKit Pl

theorem add64_lo (x y : Int) (hx : 0 ≤ x) (hy : 0 ≤ y) (h : x + y < M) (w : World) :
    (callFunc 18 #[.int .u64 x, .int .u64 y, .int .u64 0]).run Try.prog w = .ok (.value (.tuple #[.int .u64 (x + y), .int .u64 0])) w := by
  rw [run_callFunc_extern Try.func18 (by kernel_rfl) (by kernel_rfl) (by kernel_rfl) (e := add64Entry) (by kernel_rfl), run_add64 x y 0 hx hy (by omega) (by omega)]
  unfold M at h
  rw [show (x + y + 0) % 18446744073709551616 = x + y by omega, show (x + y + 0) / 18446744073709551616 = 0 by omega]
  rfl
theorem add64_hi (x y : Int) (hx : 0 ≤ x) (hy : 0 ≤ y) (h : M ≤ x + y) (h2 : x + y < M + M) (w : World) :
    (callFunc 18 #[.int .u64 x, .int .u64 y, .int .u64 0]).run Try.prog w = .ok (.value (.tuple #[.int .u64 (x + y - M), .int .u64 1])) w := by
  rw [run_callFunc_extern Try.func18 (by kernel_rfl) (by kernel_rfl) (by kernel_rfl) (e := add64Entry) (by kernel_rfl), run_add64 x y 0 hx hy (by omega) (by omega)]
  unfold M at *
  rw [show (x + y + 0) % 18446744073709551616 = x + y - 18446744073709551616 by omega, show (x + y + 0) / 18446744073709551616 = 1 by omega]
  rfl

theorem run_sub64 (x y : Nat) (w : World) :
    (callFunc 19 #[.int .u64 x, .int .u64 y, .int .u64 0]).run Try.prog w =
      .ok (.value (.tuple #[.int .u64 (((x + 18446744073709551616 - y - 0) % 18446744073709551616 : Nat) : Int), .int .u64 ((if x < y + 0 then 1 else 0 : Nat) : Int)])) w := by kernel_rfl
theorem sub64_lo (x y : Int) (hy : 0 ≤ y) (h : y ≤ x) (hx : x < M) (w : World) :
    (callFunc 19 #[.int .u64 x, .int .u64 y, .int .u64 0]).run Try.prog w = .ok (.value (.tuple #[.int .u64 (x - y), .int .u64 0])) w := by
  obtain ⟨y, rfl⟩ := Int.eq_ofNat_of_zero_le hy
  obtain ⟨x, rfl⟩ := Int.eq_ofNat_of_zero_le (show 0 ≤ x by omega)
  unfold M at *
  rw [run_sub64 x y, if_neg (by omega)]
  rw [show (((x + 18446744073709551616 - y - 0) % 18446744073709551616 : Nat) : Int) = (x : Int) - y by omega]
  rfl
theorem sub64_hi (x y : Int) (hx : 0 ≤ x) (h : x < y) (hy : y < M) (w : World) :
    (callFunc 19 #[.int .u64 x, .int .u64 y, .int .u64 0]).run Try.prog w = .ok (.value (.tuple #[.int .u64 (x - y + M), .int .u64 1])) w := by
  obtain ⟨x, rfl⟩ := Int.eq_ofNat_of_zero_le hx
  obtain ⟨y, rfl⟩ := Int.eq_ofNat_of_zero_le (show 0 ≤ y by omega)
  unfold M at *
  rw [run_sub64 x y, if_pos (by omega)]
  rw [show (((x + 18446744073709551616 - y - 0) % 18446744073709551616 : Nat) : Int) = (x : Int) - y + 18446744073709551616 by omega]
  rfl

theorem mask0 : bits .and .u64 4294967295 0 = 0 := by kernel_rfl
theorem mask1 : bits .and .u64 4294967295 (IntKind.u64.wrap (-1)) = 4294967295 := by kernel_rfl
theorem wrapW {x : Int} (h : Word x) : IntKind.u64.wrap x = x := by
  obtain ⟨h1, h2⟩ := h; unfold M at h2; rw [IntKind.wrap_u64]; omega
theorem ret_int {k : IntKind} {a b : Int} (h : a = b) : Ending.returned (.int k a) = .returned (.int k b) := by rw [h]

set_option maxHeartbeats 400000 in
theorem addMod_any (a b : Int) (ha : Word a) (hb : Word b) (w : World) :
    Calls Try.prog 15 #[.int .u64 a, .int .u64 b] w fun e w' => e = .returned (.int .u64 (addM a b)) ∧ w' = w := by
  have HW : Hid (Word (addM a b)) := addM_word ha hb
  obtain ⟨a1, a2⟩ := ha; obtain ⟨b1, b2⟩ := hb
  have m0 := mask0
  have m1 := mask1
  have hM : (4294967295 : Int) < M := by unfold M; omega
  by_cases h : a + b < M
  · have HE : Hid (addM a b = a + b) := by unfold addM; rw [if_pos h]; rfl
    have s1 := add64_lo a b a1 b1 h
    have s2 := add64_lo (a + b) 0 (by omega) (by omega) (by omega)
    go_enter Try.func15, Try.ntmps15
    go_wp2
    go_ret
    exact ⟨ret_int (by have := HW.out; rw [HE.out] at this ⊢; try exact wrapW this), rfl⟩
  · by_cases h' : a + b - M + 4294967295 < M
    · have HE : Hid (addM a b = a + b - M + 4294967295) := by unfold addM; rw [if_neg h, if_pos h']; rfl
      have s1 := add64_hi a b a1 b1 (by omega) (by omega)
      have s2 := add64_lo (a + b - M) 4294967295 (by omega) (by omega) (by omega)
      go_enter Try.func15, Try.ntmps15
      go_wp2
      go_ret
      exact ⟨ret_int (by have := HW.out; rw [HE.out] at this ⊢; try exact wrapW this), rfl⟩
    · have HE : Hid (addM a b = a + b - M + 4294967295 - M + 4294967295) := by unfold addM; rw [if_neg h, if_neg h']; rfl
      have s1 := add64_hi a b a1 b1 (by omega) (by omega)
      have s2 := add64_hi (a + b - M) 4294967295 (by omega) (by omega) (by omega) (by omega)
      go_enter Try.func15, Try.ntmps15
      go_wp2
      go_ret
      exact ⟨ret_int (by have := HW.out; rw [HE.out] at this ⊢; try exact wrapW this), rfl⟩

set_option maxHeartbeats 400000 in
theorem subMod_any (a b : Int) (ha : Word a) (hb : Word b) (w : World) :
    Calls Try.prog 16 #[.int .u64 a, .int .u64 b] w fun e w' => e = .returned (.int .u64 (subM a b)) ∧ w' = w := by
  have HW : Hid (Word (subM a b)) := subM_word ha hb
  obtain ⟨a1, a2⟩ := ha; obtain ⟨b1, b2⟩ := hb
  have m0 := mask0
  have m1 := mask1
  have hM : (4294967295 : Int) < M := by unfold M; omega
  by_cases h : b ≤ a
  · have HE : Hid (subM a b = a - b) := by unfold subM; rw [if_pos h]; rfl
    have s1 := sub64_lo a b b1 h a2
    have s2 := sub64_lo (a - b) 0 (by omega) (by omega) (by omega)
    go_enter Try.func16, Try.ntmps16
    go_wp2
    go_ret
    exact ⟨ret_int (by have := HW.out; rw [HE.out] at this ⊢; try exact wrapW this), rfl⟩
  · by_cases h' : 4294967295 ≤ a - b + M
    · have HE : Hid (subM a b = a - b + M - 4294967295) := by unfold subM; rw [if_neg h, if_pos h']; rfl
      have s1 := sub64_hi a b a1 (by omega) b2
      have s2 := sub64_lo (a - b + M) 4294967295 (by omega) (by omega) (by omega)
      go_enter Try.func16, Try.ntmps16
      go_wp2
      go_ret
      exact ⟨ret_int (by have := HW.out; rw [HE.out] at this ⊢; try exact wrapW this), rfl⟩
    · have HE : Hid (subM a b = a - b + M - 4294967295 + M - 4294967295) := by unfold subM; rw [if_neg h, if_neg h']; rfl
      have s1 := sub64_hi a b a1 (by omega) b2
      have s2 := sub64_hi (a - b + M) 4294967295 (by omega) (by omega) (by omega)
      go_enter Try.func16, Try.ntmps16
      go_wp2
      go_ret
      exact ⟨ret_int (by have := HW.out; rw [HE.out] at this ⊢; try exact wrapW this), rfl⟩

theorem zzaddMod_any (a b : Int) (ha : Word a) (hb : Word b) (w : World) :
    Calls Try.prog 6 #[.int .u64 a, .int .u64 b] w fun e w' => e = .returned (.int .u64 (addM a b)) ∧ w' = w := by
  go_enter Try.func6, Try.ntmps6
  go_wp2_with (go_at_call 15; refine (addMod_any a b ha hb _).mono ?_; rintro e w' ⟨rfl, rfl⟩)
  go_ret
  exact ⟨rfl, rfl⟩
theorem zzsubMod_any (a b : Int) (ha : Word a) (hb : Word b) (w : World) :
    Calls Try.prog 9 #[.int .u64 a, .int .u64 b] w fun e w' => e = .returned (.int .u64 (subM a b)) ∧ w' = w := by
  go_enter Try.func9, Try.ntmps9
  go_wp2_with (go_at_call 16; refine (subMod_any a b ha hb _).mono ?_; rintro e w' ⟨rfl, rfl⟩)
  go_ret
  exact ⟨rfl, rfl⟩
theorem canon_any (x : Int) (hx : Word x) (w : World) :
    Calls Try.prog 7 #[.int .u64 x] w fun e w' => e = .returned (.int .u64 (cn x)) ∧ w' = w := by
  by_cases h : P ≤ x
  · have HE : Hid (cn x = x - P) := cn_of_ge hx h
    have HW : Hid (Word (x - P)) := by rw [← cn_of_ge hx h]; exact cn_word x
    unfold P at h
    go_enter Try.func7, Try.ntmps7
    go_wp2
    go_ret
    exact ⟨ret_int (by rw [HE.out]; exact wrapW HW.out), rfl⟩
  · have HE : Hid (cn x = x) := cn_of_lt hx (by omega)
    unfold P at h
    go_enter Try.func7, Try.ntmps7
    go_wp2
    go_ret
    exact ⟨ret_int (by rw [HE.out]), rfl⟩
theorem cn_sum_hi {a b : Int} (ha : Res a) (hb : Res b) (h : P - b ≤ a) : a - (P - b) = cn (a + b) := by unfold Res cn P at *; omega
theorem cn_sum_lo {a b : Int} (ha : Res a) (hb : Res b) (h : ¬ P - b ≤ a) : a + b = cn (a + b) := by unfold Res cn P at *; omega
theorem cn_dif_hi {a b : Int} (ha : Res a) (hb : Res b) (h : b ≤ a) : a - b = cn (a - b) := by unfold Res cn P at *; omega
theorem cn_dif_lo {a b : Int} (ha : Res a) (hb : Res b) (h : ¬ b ≤ a) : P - (b - a) = cn (a - b) := by unfold Res cn P at *; omega
theorem modelAdd_any (a b : Int) (ha : Res a) (hb : Res b) (w : World) :
    Calls Try.prog 8 #[.int .u64 a, .int .u64 b] w fun e w' => e = .returned (.int .u64 (cn (a + b))) ∧ w' = w := by
  have hw1 : IntKind.u64.wrap (18446744069414584321 - b) = 18446744069414584321 - b := by
    obtain ⟨h1, h2⟩ := hb; unfold P at h2; rw [IntKind.wrap_u64]; omega
  by_cases h : P - b ≤ a
  · have HE : Hid (a - (P - b) = cn (a + b)) := cn_sum_hi ha hb h
    have HW : Hid (Word (a - (P - b))) := by rw [cn_sum_hi ha hb h]; exact cn_word _
    unfold P at h HE HW
    go_enter Try.func8, Try.ntmps8
    go_wp2
    go_ret
    exact ⟨ret_int (by rw [← HE.out]; exact wrapW HW.out), rfl⟩
  · have HE : Hid (a + b = cn (a + b)) := cn_sum_lo ha hb h
    have HW : Hid (Word (a + b)) := by rw [cn_sum_lo ha hb h]; exact cn_word _
    unfold P at h
    go_enter Try.func8, Try.ntmps8
    go_wp2
    go_ret
    exact ⟨ret_int (by rw [← HE.out]; exact wrapW HW.out), rfl⟩
theorem modelSub_any (a b : Int) (ha : Res a) (hb : Res b) (w : World) :
    Calls Try.prog 10 #[.int .u64 a, .int .u64 b] w fun e w' => e = .returned (.int .u64 (cn (a - b))) ∧ w' = w := by
  by_cases h : b ≤ a
  · have HE : Hid (a - b = cn (a - b)) := cn_dif_hi ha hb h
    have HW : Hid (Word (a - b)) := by rw [cn_dif_hi ha hb h]; exact cn_word _
    go_enter Try.func10, Try.ntmps10
    go_wp2
    go_ret
    exact ⟨ret_int (by rw [← HE.out]; exact wrapW HW.out), rfl⟩
  · have HE : Hid (P - (b - a) = cn (a - b)) := cn_dif_lo ha hb h
    have HW : Hid (Word (P - (b - a))) := by rw [cn_dif_lo ha hb h]; exact cn_word _
    have hw1 : IntKind.u64.wrap (b - a) = b - a := by
      obtain ⟨h1, h2⟩ := ha; obtain ⟨h3, h4⟩ := hb; unfold P at h4; rw [IntKind.wrap_u64]; omega
    unfold P at HE HW
    go_enter Try.func10, Try.ntmps10
    go_wp2
    go_ret
    exact ⟨ret_int (by rw [← HE.out]; exact wrapW HW.out), rfl⟩

set_option maxHeartbeats 400000 in
theorem lawAdd (a b : Int) (ha : Word a) (hb : Word b) (w : World) :
    Calls Try.prog 3 #[.int .u64 a, .int .u64 b] w fun e w' => e = .returned (.bool true) ∧ w' = w := by
  have e1 : (cn (addM a b) == cn (cn a + cn b)) = true := by rw [law_add ha hb]; simp
  have e1' : (cn (addM a b) != cn (cn a + cn b)) = false := by rw [law_add ha hb]; simp
  have e2 : (cn (subM (addM a b) b) == cn a) = true := by rw [back_add ha hb]; simp
  go_enter Try.func3, Try.ntmps3
  go_wp2_with (first
    | (go_at_call 6; refine (zzaddMod_any a b ha hb _).mono ?_; rintro e w' ⟨rfl, rfl⟩)
    | (go_at_call 9; refine (zzsubMod_any _ b (addM_word ha hb) hb _).mono ?_; rintro e w' ⟨rfl, rfl⟩)
    | (go_at_call 8; refine (modelAdd_any _ _ (cn_res a) (cn_res b) _).mono ?_; rintro e w' ⟨rfl, rfl⟩)
    | (go_at_call 7; refine (canon_any _ (by first | exact addM_word ha hb | exact subM_word (addM_word ha hb) hb | exact ha | exact hb) _).mono ?_; rintro e w' ⟨rfl, rfl⟩))
  go_ret
  exact ⟨rfl, rfl⟩
set_option maxHeartbeats 400000 in
theorem lawSub (a b : Int) (ha : Word a) (hb : Word b) (w : World) :
    Calls Try.prog 4 #[.int .u64 a, .int .u64 b] w fun e w' => e = .returned (.bool true) ∧ w' = w := by
  have e1' : (cn (subM a b) != cn (cn a - cn b)) = false := by rw [law_sub ha hb]; simp
  have e2 : (cn (addM (subM a b) b) == cn a) = true := by rw [back_sub ha hb]; simp
  go_enter Try.func4, Try.ntmps4
  go_wp2_with (first
    | (go_at_call 9; refine (zzsubMod_any a b ha hb _).mono ?_; rintro e w' ⟨rfl, rfl⟩)
    | (go_at_call 6; refine (zzaddMod_any _ b (subM_word ha hb) hb _).mono ?_; rintro e w' ⟨rfl, rfl⟩)
    | (go_at_call 10; refine (modelSub_any _ _ (cn_res a) (cn_res b) _).mono ?_; rintro e w' ⟨rfl, rfl⟩)
    | (go_at_call 7; refine (canon_any _ (by first | exact subM_word ha hb | exact addM_word (subM_word ha hb) hb | exact ha | exact hb) _).mono ?_; rintro e w' ⟨rfl, rfl⟩))
  go_ret
  exact ⟨rfl, rfl⟩
end Go.Proofs.Qxb6003750a
