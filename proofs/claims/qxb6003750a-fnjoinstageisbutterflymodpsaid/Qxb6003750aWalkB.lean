/- The walks of Mul64, mulMod, zzModelMul. -/
import Derived.Test.Qxb6003750aWalkA
import Derived.Lib.Mul64
import Derived.Laws.Bits64b
import Derived.Laws.MathBits
namespace Go.Proofs.Qxb6003750a
open Go.RowKit Pl

theorem maskN (a : Nat) (ha : a < 18446744073709551616) : bits .and .u64 (a : Int) 4294967295 = ((a % 4294967296 : Nat) : Int) := by
  rw [and_low32 _ (by omega) (by omega)]; omega
theorem divN (a : Nat) : (a : Int) / 4294967296 = ((a / 4294967296 : Nat) : Int) := by omega
theorem mulN (a b : Nat) : (a : Int) * (b : Int) = ((a * b : Nat) : Int) := (Int.natCast_mul a b).symm
theorem addN (a b : Nat) : (a : Int) + (b : Int) = ((a + b : Nat) : Int) := (Int.natCast_add a b).symm
theorem wrapN (a : Nat) (ha : a < 18446744073709551616) : IntKind.u64.wrap (a : Int) = (a : Int) := by rw [IntKind.wrap_u64]; omega
theorem wrapM (a : Nat) : IntKind.u64.wrap (a : Int) = ((a % 18446744073709551616 : Nat) : Int) := by rw [IntKind.wrap_u64]; omega

set_option maxHeartbeats 1000000 in
theorem mul64_nat (x y : Nat) (hx : x < 18446744073709551616) (hy : y < 18446744073709551616) (w : World) :
    Calls Try.prog 21 #[.int .u64 x, .int .u64 y] w fun e w' => e = .returned (.tuple #[.int .u64 ((x * y / 18446744073709551616 : Nat) : Int), .int .u64 ((x * y % 18446744073709551616 : Nat) : Int)]) ∧ w' = w := by
  obtain ⟨bd, bt, bw, hhi⟩ := Lib.mul64_hi x y hx hy
  have ba := Lib.half_mul_le (a := x / 4294967296) (b := y / 4294967296) (by omega) (by omega)
  have bb := Lib.half_mul_le (a := x / 4294967296) (b := y % 4294967296) (by omega) (by omega)
  have bc := Lib.half_mul_le (a := x % 4294967296) (b := y / 4294967296) (by omega) (by omega)
  have ba' : x / 4294967296 * (y / 4294967296) < 18446744073709551616 := by omega
  have bb' : x / 4294967296 * (y % 4294967296) < 18446744073709551616 := by omega
  have bc' : x % 4294967296 * (y / 4294967296) < 18446744073709551616 := by omega
  have bh1 : x / 4294967296 * (y / 4294967296) + (x / 4294967296 * (y % 4294967296) + x % 4294967296 * (y % 4294967296) / 4294967296) / 4294967296 < 18446744073709551616 := by omega
  have bh : x / 4294967296 * (y / 4294967296) + (x / 4294967296 * (y % 4294967296) + x % 4294967296 * (y % 4294967296) / 4294967296) / 4294967296 + ((x / 4294967296 * (y % 4294967296) + x % 4294967296 * (y % 4294967296) / 4294967296) % 4294967296 + x % 4294967296 * (y / 4294967296)) / 4294967296 < 18446744073709551616 := by omega
  go_enter Try.func21, Try.ntmps21
  go_wp2
  simp only [maskN x hx, maskN y hy, divN, mulN, addN, wrapN _ bd, wrapN _ bb', wrapN _ bt, maskN _ bt, wrapN _ bc', wrapN _ bw, wrapN _ ba', wrapN _ bh1, wrapN _ bh, wrapM (x * y)]
  rw [hhi]
  go_ret2
  exact ⟨rfl, rfl⟩

theorem mul64_any (x y : Int) (hx : Word x) (hy : Word y) (w : World) :
    Calls Try.prog 21 #[.int .u64 x, .int .u64 y] w fun e w' => e = .returned (.tuple #[.int .u64 (x * y / M), .int .u64 (x * y % M)]) ∧ w' = w := by
  obtain ⟨x, rfl⟩ := Int.eq_ofNat_of_zero_le hx.1
  obtain ⟨y, rfl⟩ := Int.eq_ofNat_of_zero_le hy.1
  have h1 := hx.2; have h2 := hy.2
  unfold M at *
  refine (mul64_nat x y (by omega) (by omega) w).mono ?_
  rintro e w' ⟨rfl, rfl⟩
  exact ⟨by simp, rfl⟩

theorem mul64_any' (x y : Int) (hx : Word x) (hy : Word y) (w : World) :
    Calls Try.prog 21 #[.int .u64 x, .int .u64 y] w fun e w' => e = .returned (.tuple #[.int .u64 (hiM x y), .int .u64 (loM x y)]) ∧ w' = w := mul64_any x y hx hy w

set_option maxHeartbeats 400000 in
theorem mulMod_core (a b hi lo h0 t : Int) (bh1 : 0 ≤ hi) (bh2 : hi < M) (bl1 : 0 ≤ lo) (bl2 : lo < M) (HH : Hid (h0 = hi % 4294967296)) (HT : Hid (t = redT hi lo))
    (C : Hid (∀ w, Calls Try.prog 21 #[.int .u64 a, .int .u64 b] w fun e w' => e = .returned (.tuple #[.int .u64 hi, .int .u64 lo]) ∧ w' = w)) (w : World) :
    Calls Try.prog 20 #[.int .u64 a, .int .u64 b] w fun e w' => e = .returned (.int .u64 (redS t h0)) ∧ w' = w := by
  have m0 := mask0
  have m1 := mask1
  have HM : Hid (M = 18446744073709551616) := rfl
  have mh := and_low32 hi bh1 (by have := HM.out; omega)
  rw [← HH.out] at mh
  have b0 : 0 ≤ h0 := by have := HH.out; omega
  have b1 : h0 < 4294967296 := by have := HH.out; omega
  have hM' : 18446744073709551615 < M := by have := HM.out; omega
  have hb1 : hi / 4294967296 < 4294967296 := by have := HM.out; omega
  have hb0 : 0 ≤ hi / 4294967296 := by omega
  have HTW : Hid (Word t) := by rw [HT.out]; exact redT_word ⟨bh1, bh2⟩ ⟨bl1, bl2⟩
  have bt1 : 0 ≤ t := HTW.out.1
  have bt2 : t < M := HTW.out.2
  have HW : Hid (Word (redS t h0)) := redS_word HTW.out b0 b1
  have bs : h0 * 4294967296 - h0 ≤ 18446744065119617025 := by omega
  by_cases h : hi / 4294967296 ≤ lo
  · have s1 := sub64_lo lo (hi / 4294967296) hb0 h bl2
    have hw1 : IntKind.u64.wrap (lo - hi / 4294967296) = t := by
      have e := HT.out; unfold redT at e; rw [if_pos h] at e; rw [e, wrapW]; exact ⟨by omega, by omega⟩
    by_cases h' : t + (h0 * 4294967296 - h0) < M
    · have HE : Hid (redS t h0 = t + (h0 * 4294967296 - h0)) := by unfold redS; rw [if_pos h']; rfl
      have s2 := add64_lo t (h0 * 4294967296 - h0) bt1 (by omega) h'
      go_enter Try.func20, Try.ntmps20
      go_wp2_with (first
        | (go_at_call 21; refine (C.out _).mono ?_; rintro e w' ⟨rfl, rfl⟩))
      go_ret
      exact ⟨ret_int (by have := HW.out; rw [HE.out] at this ⊢; try exact wrapW this), rfl⟩
    · have HE : Hid (redS t h0 = t + (h0 * 4294967296 - h0) - M + 4294967295) := by unfold redS; rw [if_neg h']; rfl
      have s2 := add64_hi t (h0 * 4294967296 - h0) bt1 (by omega) (by omega) (by omega)
      go_enter Try.func20, Try.ntmps20
      go_wp2_with (first
        | (go_at_call 21; refine (C.out _).mono ?_; rintro e w' ⟨rfl, rfl⟩))
      go_ret
      exact ⟨ret_int (by have := HW.out; rw [HE.out] at this ⊢; try exact wrapW this), rfl⟩
  · have s1 := sub64_hi lo (hi / 4294967296) bl1 (by omega) (by omega)
    have hw1 : IntKind.u64.wrap (lo - hi / 4294967296 + M - 4294967295) = t := by
      have e := HT.out; unfold redT at e; rw [if_neg h] at e; rw [e, wrapW]; exact ⟨by omega, by omega⟩
    by_cases h' : t + (h0 * 4294967296 - h0) < M
    · have HE : Hid (redS t h0 = t + (h0 * 4294967296 - h0)) := by unfold redS; rw [if_pos h']; rfl
      have s2 := add64_lo t (h0 * 4294967296 - h0) bt1 (by omega) h'
      go_enter Try.func20, Try.ntmps20
      go_wp2_with (first
        | (go_at_call 21; refine (C.out _).mono ?_; rintro e w' ⟨rfl, rfl⟩))
      go_ret
      exact ⟨ret_int (by have := HW.out; rw [HE.out] at this ⊢; try exact wrapW this), rfl⟩
    · have HE : Hid (redS t h0 = t + (h0 * 4294967296 - h0) - M + 4294967295) := by unfold redS; rw [if_neg h']; rfl
      have s2 := add64_hi t (h0 * 4294967296 - h0) bt1 (by omega) (by omega) (by omega)
      go_enter Try.func20, Try.ntmps20
      go_wp2_with (first
        | (go_at_call 21; refine (C.out _).mono ?_; rintro e w' ⟨rfl, rfl⟩))
      go_ret
      exact ⟨ret_int (by have := HW.out; rw [HE.out] at this ⊢; try exact wrapW this), rfl⟩

theorem mulMod_any (a b : Int) (ha : Word a) (hb : Word b) (w : World) :
    Calls Try.prog 20 #[.int .u64 a, .int .u64 b] w fun e w' => e = .returned (.int .u64 (mulM a b)) ∧ w' = w :=
  mulMod_core a b (hiM a b) (loM a b) _ _ (hiM_bd ha hb).1 (hiM_bd ha hb).2 (loM_bd a b).1 (loM_bd a b).2 rfl rfl (fun w => mul64_any' a b ha hb w) w

set_option maxHeartbeats 400000 in
theorem modelMul_any (a b : Int) (ha : Res a) (hb : Res b) (w : World) :
    Calls Try.prog 14 #[.int .u64 a, .int .u64 b] w fun e w' => e = .returned (.int .u64 (cn (a * b))) ∧ w' = w := by
  go_enter Try.func14, Try.ntmps14
  go_wp2_with fail
  go_loop [5, 6] (fun r i => ∃ k : Nat, k ≤ 64 ∧ i = .int .i64 ((k : Int) - 1) ∧ r = .int .u64 (cn (a / 2 ^ k * b))) (fun _ i => (intOf i + 1).toNat)
  case atStart => exact ⟨64, by omega, rfl, by rw [top_zero ha]; simp [cn, P]⟩
  case round =>
    obtain ⟨k, hk, rfl, rfl⟩ := hrel
    by_cases h0 : k = 0
    · subst h0
      have HE : Hid (cn (a / 2 ^ 0 * b) = cn (a * b)) := by simp [Hid]
      go_wp2_with fail
      go_ret
      exact ⟨ret_int (by simp), rfl⟩
    · have hk1 : 1 ≤ k := by omega
      have R := cn_res (a / 2 ^ k * b)
      have HQ : Hid (a / 2 ^ k = a / 2 ^ (k - 1) / 2) := half_pow a k hk1
      have hq0 : 0 ≤ a / 2 ^ (k - 1) := Int.ediv_nonneg ha.1 (Int.le_of_lt (Int.pow_pos (by decide)))
      have hq1 : a / 2 ^ (k - 1) ≤ a := Int.ediv_le_self _ ha.1
      have hqb : bits .and .u64 (a / 2 ^ (k - 1)) 1 = a / 2 ^ (k - 1) % 2 := and_one_u64 _ hq0 (by have := ha.2; unfold P at this; omega)
      have HR : Hid (cn (a / 2 ^ k * b) = cn (a / 2 ^ (k - 1) / 2 * b)) := by rw [HQ.out]; rfl
      by_cases hbit : a / 2 ^ (k - 1) % 2 = 1
      · have HS : Hid (cn (cn (cn (a / 2 ^ k * b) + cn (a / 2 ^ k * b)) + b) = cn (a / 2 ^ (k - 1) * b)) := by rw [HR.out]; exact step_odd hbit
        generalize cn (a / 2 ^ k * b) = r at *
        have hbb : (bits .and .u64 (a / 2 ^ (k - 1)) 1 == 1) = true := by rw [hqb, hbit]; rfl
        clear hqb hbit
        go_wp2_with fail
        refine (modelAdd_any r r R R _).mono ?_
        rintro e w' ⟨rfl, rfl⟩
        go_wp2_with fail
        refine (modelAdd_any _ b (cn_res _) hb _).mono ?_
        rintro e w' ⟨rfl, rfl⟩
        go_wp2_with fail
        go_round
        case rel => exact ⟨k - 1, by omega, by go_num, by rw [HS.out]⟩
        case measure => simp [intOf]; omega
      · have hev : a / 2 ^ (k - 1) % 2 = 0 := by omega
        have HS : Hid (cn (cn (a / 2 ^ k * b) + cn (a / 2 ^ k * b)) = cn (a / 2 ^ (k - 1) * b)) := by rw [HR.out]; exact step_even hev
        generalize cn (a / 2 ^ k * b) = r at *
        have hbb : (bits .and .u64 (a / 2 ^ (k - 1)) 1 == 1) = false := by rw [hqb, hev]; rfl
        clear hqb hbit hev
        go_wp2_with fail
        refine (modelAdd_any r r R R _).mono ?_
        rintro e w' ⟨rfl, rfl⟩
        go_wp2_with fail
        go_round
        case rel => exact ⟨k - 1, by omega, by go_num, by rw [HS.out]⟩
        case measure => simp [intOf]; omega
end Go.Proofs.Qxb6003750a
