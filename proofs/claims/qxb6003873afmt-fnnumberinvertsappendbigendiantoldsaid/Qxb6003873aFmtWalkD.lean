/- The walks of appendBigEndian and FnNumberInvertsAppendBigEndian. -/
import Derived.Test.Qxb6003873aFmtWalkC
namespace Go.Proofs.Qxb6003873aFmt
open Go.RowKit Go.Extern.Stop Go.Stop Go.Extern
set_option linter.unusedVariables false

/-- The byte that stands at place j of the sz low bytes of x, big-endian. -/
def dig (x : Int) (sz j : Nat) : Int := x / 2 ^ (8 * (sz - 1 - j)) % 256
def news (x : Int) (sz k : Nat) : List Value := (List.range k).map fun j => .int .u8 (dig x sz j)
theorem news_succ (x : Int) (sz k : Nat) : news x sz (k + 1) = news x sz k ++ [.int .u8 (x / 2 ^ (8 * (sz - 1 - k)) % 256)] := by simp [news, List.range_succ, dig]
theorem news_zero (x : Int) (sz : Nat) : news x sz 0 = [] := rfl

set_option maxHeartbeats 400000 in
theorem append_any (B n : Nat) (v : Value) (xs : List Value) (x : Int) (sz : Nat) (hx0 : 0 ≤ x) (hx : x < 18446744073709551616) (hs : sz ≤ 8) (hn : n ≤ 65536) (w : World) (hown : w.ownsRow B 5 1 v n xs) (hB : B ≤ w.heap.size) :
    Calls Tryf.prog 24 #[v, .int .u64 x, .int .i64 (sz : Int)] w fun e w' => ∃ v', e = .returned v' ∧ w'.ownsRow B 5 1 v' (n + sz) (xs ++ news x sz sz) ∧ Below B w w' := by
  obtain ⟨i0, hi, hz0, hz1, hz2⟩ := info_parts info5
  have HO : Hid (w.ownsRow B 5 1 v n xs) := hown
  clear hown
  go_enter Tryf.func24, Tryf.ntmps24
  go_wp2_with fail
  go_loopw [0, 7] (fun u i wr => ∃ k : Nat, k ≤ sz ∧ i = .int .i64 ((sz : Int) - 1 - (k : Int)) ∧ wr.ownsRow B 5 1 u (n + k) (xs ++ news x sz k) ∧ Below B w wr) (fun _ i _ => (intOf i + 1).toNat)
  case atStart => exact ⟨0, Nat.zero_le _, by go_num, by simpa [news] using HO.out, Below.refl _ _⟩
  case round =>
    obtain ⟨k, hk, rfl, ho, hb⟩ := hrel
    by_cases hlt : k < sz
    · have hi0 : 0 ≤ (sz : Int) - 1 - (k : Int) := by omega
      have hi1 : (sz : Int) - 1 - (k : Int) ≤ 7 := by omega
      have HW : Hid (wr.ownsRow B 5 1 u0 (n + k) (xs ++ news x sz k)) := ho
      have HB : Hid (Below B w wr) := hb
      have hBr : B ≤ wr.heap.size := Nat.le_trans hB hb.size
      clear ho hb
      go_wp2_with (at_builtin; go_must (refine wpList_append_own _ rfl (.tmp 14) (.tmp 20) 25 rfl B 5 i0 (.int .u8 0) 1 1 Tryf.underlying25 hi hz0 hz1 hz2 rfl (by decide) u0 (n + k) (xs ++ news x sz k) rfl (HW.out.alloc _) ⟨wr.heap.size, 0, none⟩ 1 1 [.int .u8 (x / 2 ^ (8 * (sz - 1 - k)) % 256)] rfl rfl (cell_one_new _ _ _) ?_ ?_ ?_ ?_ ?_))
      · intro u hu; simp at hu; subst hu; rfl
      · unfold maxLen; omega
      · omega
      · simp; omega
      · intro v' w1 hown' hgrow _
        have HW1 : Hid (w1.ownsRow B 5 1 v' (n + (k + 1)) (xs ++ news x sz (k + 1))) := by
          rw [news_succ, ← Nat.add_assoc]; exact hown'
        have HB1 : Hid (Below B w w1) := by
          refine (HB.out.alloc hBr _).grown hgrow (by simp; omega) ?_
          intro j hj
          rcases HW.out.2 with ⟨rfl, _⟩ | ⟨g, cap, cur, rfl, hg, _⟩
          · simp [Value.ownBlock] at hj
          · simp [Value.ownBlock] at hj; omega
        clear hown' hgrow
        go_wp2_with fail
        go_roundw
        case rel => exact ⟨k + 1, by omega, by go_num, HW1.out, HB1.out⟩
        case measure => simp [intOf]; omega
    · obtain rfl : k = sz := by omega
      have HW : Hid (wr.ownsRow B 5 1 u0 (n + k) (xs ++ news x k k)) := ho
      have HB : Hid (Below B w wr) := hb
      clear ho hb
      have hd : decide (0 ≤ (k : Int) - 1 - (k : Int)) = false := by simp; omega
      go_wp2_with fail
      go_ret
      exact ⟨_, rfl, HW.out, HB.out⟩

/-! ### The plain law -/
theorem dig_nat (x sz j : Nat) : dig (x : Int) sz j = ((x / 2 ^ (8 * (sz - 1 - j)) % 256 : Nat) : Int) := by
  simp [dig]
theorem be_dig_nat (X : Nat → Int) (p x sz : Nat) (hX : ∀ j, j < sz → X (p + j) = ((x / 2 ^ (8 * (sz - 1 - j)) % 256 : Nat) : Int)) : ∀ k, k ≤ sz → be X p k = ((x / 2 ^ (8 * (sz - k)) % 2 ^ (8 * k) : Nat) : Int) := by
  intro k
  induction k with
  | zero => intro _; simp [be, Nat.mod_one]
  | succ k ih =>
    intro hk
    rw [be, ih (by omega), hX k (by omega)]
    have e1 : sz - (k + 1) = sz - 1 - k := by omega
    have e2 : 8 * (sz - k) = 8 * (sz - 1 - k) + 8 := by omega
    have e3 : 8 * (k + 1) = 8 + 8 * k := by omega
    rw [e1, e2, e3, Nat.pow_add 2 8 (8 * k), Nat.mod_mul, Nat.pow_add 2 (8 * (sz - 1 - k)) 8, ← Nat.div_div_eq_div_mul]
    generalize x / 2 ^ (8 * (sz - 1 - k)) = y
    generalize 2 ^ (8 * k) = m
    have : (2 : Nat) ^ 8 = 256 := rfl
    rw [this]
    generalize y / 256 % m = z
    omega
theorem be_dig {X : Nat → Int} {p sz : Nat} {x : Int} (hx : 0 ≤ x) (hX : ∀ j, j < sz → X (p + j) = dig x sz j) : be X p sz = x % 2 ^ (8 * sz) := by
  obtain ⟨x, rfl⟩ := Int.eq_ofNat_of_zero_le hx
  rw [be_dig_nat X p x sz (fun j hj => by rw [hX j hj, dig_nat]) sz (Nat.le_refl _)]
  simp
theorem dig_byte (x : Int) (sz j : Nat) : 0 ≤ dig x sz j ∧ dig x sz j < 256 := by unfold dig; omega

/-- The bytes behind the append. -/
def appX (X : Nat → Int) (n : Nat) (x : Int) (sz : Nat) (i : Nat) : Int := if i < n then X i else dig x sz (i - n)
theorem appX_byte {X : Nat → Int} (hX : ∀ i, 0 ≤ X i ∧ X i < 256) (n : Nat) (x : Int) (sz : Nat) : ∀ i, 0 ≤ appX X n x sz i ∧ appX X n x sz i < 256 := by
  intro i; unfold appX; split
  · exact hX i
  · exact dig_byte _ _ _
theorem appX_be (X : Nat → Int) (n : Nat) (x : Int) (sz : Nat) (hx : 0 ≤ x) : be (appX X n x sz) n sz = x % 2 ^ (8 * sz) := by
  refine be_dig hx fun j _ => ?_
  rw [appX, if_neg (by omega), Nat.add_sub_cancel_left]

theorem Row'.owns {w : World} {ao : Option Addr} {b n B : Nat} {X : Nat → Int} (h : Row' w ao b n X) (hB : B ≤ b) (hn : n ≤ maxLen) : w.ownsRow B 5 1 (.slice ao n n) n ((List.range n).map (U X)) := by
  refine ⟨by simp, ?_⟩
  rcases h with ⟨rfl, rfl⟩ | ⟨rfl, c, hb, hs, hc⟩
  · exact .inl ⟨rfl, rfl⟩
  · refine .inr ⟨b, n, c, rfl, hB, hb, Nat.le_refl _, hn, by omega, ?_⟩
    apply List.ext_getElem?
    intro i
    by_cases hi : i < n
    · rw [List.getElem?_take_of_lt (by omega), Array.getElem?_toList, hc i hi, List.getElem?_map, List.getElem?_range hi]; rfl
    · rw [List.getElem?_eq_none (by simp; omega), List.getElem?_eq_none (by simp; omega)]

theorem owns_dat {w : World} {B n sz : Nat} {v : Value} {X : Nat → Int} {x : Int} (hsz : 0 < sz) (h : w.ownsRow B 5 1 v (n + sz) ((List.range n).map (U X) ++ news x sz sz)) :
    ∃ g cap, v = .slice (some ⟨g, 0, none⟩) (n + sz) cap ∧ n + sz ≤ cap ∧ cap ≤ maxLen ∧ Dat w (some ⟨g, 0, none⟩) (n + sz) (appX X n x sz) := by
  rcases h.2 with ⟨_, h0⟩ | ⟨g, cap, cur, rfl, _, _, h1, h2, _, _⟩
  · omega
  · refine ⟨g, cap, rfl, h1, h2, .inr ⟨g, rfl, fun i hi => ?_⟩⟩
    rw [h.cellAt i (by omega)]
    by_cases hin : i < n
    · rw [List.getElem?_append_left (by simpa using hin), List.getElem?_map, List.getElem?_range hin]
      simp [U, appX, hin]
    · rw [List.getElem?_append_right (by simp; omega)]
      simp only [List.length_map, List.length_range, news, List.getElem?_map]
      rw [List.getElem?_range (by omega)]
      simp [appX, hin]

theorem zzappend_any (B n b : Nat) (ao : Option Addr) (X : Nat → Int) (x : Int) (sz : Nat) (hx0 : 0 ≤ x) (hx : x < 18446744073709551616) (hs0 : 0 < sz) (hs : sz ≤ 8) (hn : n ≤ 65536) (w : World) (hr : Row' w ao b n X) (hBb : B ≤ b) (hB : B ≤ w.heap.size) :
    Calls Tryf.prog 17 #[.slice ao n n, .int .u64 x, .int .i64 (sz : Int)] w fun e w' => ∃ g cap, e = .returned (.slice (some ⟨g, 0, none⟩) (n + sz) cap) ∧ n + sz ≤ cap ∧ cap ≤ maxLen ∧ Dat w' (some ⟨g, 0, none⟩) (n + sz) (appX X n x sz) ∧ Below B w w' := by
  have HO : Hid (w.ownsRow B 5 1 (.slice ao n n) n ((List.range n).map (U X))) := hr.owns hBb (by unfold maxLen; omega)
  clear hr
  go_enter Tryf.func17, Tryf.ntmps17
  go_wp2_with fail
  refine (append_any B n (.slice ao n n) _ x sz hx0 hx hs hn w HO.out hB).mono ?_
  rintro e w' ⟨v', rfl, ho, hb⟩
  obtain ⟨g, cap, rfl, h1, h2, hd⟩ := owns_dat hs0 ho
  have HD : Hid (Dat w' (some ⟨g, 0, none⟩) (n + sz) (appX X n x sz)) := hd
  have HB : Hid (Below B w w') := hb
  clear ho hb hd HO
  go_wp2_with fail
  go_ret
  exact ⟨g, cap, rfl, h1, h2, HD.out, HB.out⟩

theorem mask_eq {x : Int} (hx0 : 0 ≤ x) (hx : x < 18446744073709551616) {sz : Nat} (hs : sz < 8) : bits .and .u64 x (IntKind.u64.wrap (IntKind.u64.wrap (2 ^ (8 * sz)) - 1)) = x % 2 ^ (8 * sz) := by
  have hp : (2 : Nat) ^ (8 * sz) ≤ 2 ^ 56 := Nat.pow_le_pow_right (by decide) (by omega)
  have hp0 : 0 < (2 : Nat) ^ (8 * sz) := Nat.two_pow_pos _
  have hc : ((2 : Int) ^ (8 * sz)) = ((2 ^ (8 * sz) : Nat) : Int) := by simp
  have hn := Nat.and_two_pow_sub_one_eq_mod x.toNat (8 * sz)
  obtain ⟨x, rfl⟩ := Int.eq_ofNat_of_zero_le hx0
  rw [hc]
  generalize (2 : Nat) ^ (8 * sz) = m at *
  have e : IntKind.u64.wrap (IntKind.u64.wrap (m : Int) - 1) = ((m - 1 : Nat) : Int) := by
    rw [IntKind.wrap_u64, IntKind.wrap_u64]; omega
  rw [e, u64_and_nat x (m - 1) (by omega) (by omega)]
  rw [Int.toNat_natCast] at hn
  rw [hn]; simp

set_option maxHeartbeats 400000 in
theorem law2_ok (a0 : Option Addr) (n c : Nat) (x : Int) (sz : Nat) (X : Nat → Int) (w : World) (hn : n ≤ 65536) (hs0 : 0 < sz) (hs : sz ≤ 8) (hx0 : 0 ≤ x) (hx : x < 18446744073709551616)
    (hX : ∀ i, 0 ≤ X i ∧ X i < 256) (hsrc : Src w a0 n c X) :
    Calls Tryf.prog 6 #[.slice a0 n c, .int .u64 x, .int .i64 (sz : Int)] w fun e w' => e = .returned (.bool true) ∧ Below w.heap.size w w' := by
  have t1 : decide ((65536 : Int) < (n : Int)) = false := by simp; omega
  have t4 : decide ((sz : Int) < 1) = false := by simp; omega
  have t5 : decide (8 < (sz : Int)) = false := by simp; omega
  have HS : Hid (Src w a0 n c X) := hsrc
  have HX : Hid (∀ i, 0 ≤ X i ∧ X i < 256) := hX
  clear hsrc hX
  go_enter Tryf.func6, Tryf.ntmps6
  go_wp2_with fail
  refine (bytes16_yes a0 n c _ _ (by omega) _).mono ?_
  rintro e w ⟨rfl, rfl⟩
  go_wp2_with fail
  refine (clone_any a0 n c X (by omega) w HS.out).mono ?_
  rintro e w1 ⟨ax, rfl, rx1, bel1⟩
  have HB : Hid (Below w.heap.size w w1) := bel1
  have HR : Hid (Row' w1 ax w.heap.size n X) := rx1
  clear rx1 bel1 HS
  go_wp2_with fail
  refine (zzappend_any w.heap.size n w.heap.size ax X x sz hx0 hx hs0 hs hn w1 HR.out (Nat.le_refl _) HB.out.size).mono ?_
  rintro e w2 ⟨g, cap, rfl, h1, h2, hd, bel2⟩
  have HB2 : Hid (Below w.heap.size w w2) := HB.out.trans bel2
  have HD : Hid (Dat w2 (some ⟨g, 0, none⟩) (n + sz) (appX X n x sz)) := hd
  clear bel2 HB HR hd
  go_wp2_with fail
  refine (zznumber_ok (n + sz) cap _ n sz (appX X n x sz) 0 w2 (by omega) h1 (by unfold maxLen at h2; omega) hs (Nat.le_refl _) (appX_byte HX.out n x sz) HD.out).mono ?_
  rw [appX_be X n x sz hx0]
  rintro e w3 ⟨rfl, bel3⟩
  have HB3 : Hid (Below w.heap.size w w3) := HB2.out.trans (bel3.mono HB2.out.size)
  clear bel3 HB2 HD
  by_cases h8 : (sz : Int) < 8
  · have hm := mask_eq hx0 hx (sz := sz) (by omega)
    go_wp2_with fail
    go_ret
    exact ⟨rfl, HB3.out⟩
  · have hm : x % 2 ^ (8 * sz) = x := by
      obtain rfl : sz = 8 := by omega
      exact Int.emod_eq_of_lt hx0 hx
    go_wp2_with fail
    go_ret
    exact ⟨rfl, HB3.out⟩

set_option maxHeartbeats 400000 in
theorem law2_out (a0 : Option Addr) (n c : Nat) (x size : Int) (w : World) (h : ¬ (n ≤ 65536 ∧ 1 ≤ size ∧ size ≤ 8)) :
    Calls Tryf.prog 6 #[.slice a0 n c, .int .u64 x, .int .i64 size] w fun e w' => e = .returned (.bool true) ∧ Below w.heap.size w w' := by
  by_cases hb : n ≤ 1048576
  · by_cases h1 : n ≤ 65536
    · by_cases h2 : size < 1
      · go_enter Tryf.func6, Tryf.ntmps6
        go_wp2_with fail
        refine (bytes16_yes a0 n c _ _ hb _).mono ?_
        rintro e w ⟨rfl, rfl⟩
        go_wp2_with fail
        go_ret
        exact ⟨rfl, Below.refl _ _⟩
      · have h5 : 8 < size := by omega
        go_enter Tryf.func6, Tryf.ntmps6
        go_wp2_with fail
        refine (bytes16_yes a0 n c _ _ hb _).mono ?_
        rintro e w ⟨rfl, rfl⟩
        go_wp2_with fail
        go_ret
        exact ⟨rfl, Below.refl _ _⟩
    · go_enter Tryf.func6, Tryf.ntmps6
      go_wp2_with fail
      refine (bytes16_yes a0 n c _ _ hb _).mono ?_
      rintro e w ⟨rfl, rfl⟩
      go_wp2_with fail
      go_ret
      exact ⟨rfl, Below.refl _ _⟩
  · go_enter Tryf.func6, Tryf.ntmps6
    go_wp2_with fail
    refine (bytes16_no a0 n c _ _ hb _).mono ?_
    rintro e w ⟨rfl, rfl⟩
    go_wp2_with fail
    go_ret
    exact ⟨rfl, Below.refl _ _⟩
end Go.Proofs.Qxb6003873aFmt
