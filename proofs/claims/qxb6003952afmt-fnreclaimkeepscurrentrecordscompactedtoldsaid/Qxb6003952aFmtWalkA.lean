/- The walks of the small functions. -/
import Derived.Test.Qxb6003952aFmtRows
import Derived.WalkKit
import Derived.WalkSpells
import Derived.WalkLawsBesides
import Derived.Stop.CallBack
import Derived.Stop.IfaceNil
import Derived.Deep.QuietTactic
import Derived.BigQuiet
import Derived.Deep.OwnRows
import Derived.RowKit3
import Derived.Lib.QuoteBits
namespace Go.Proofs.Qxb6003952aFmt
open Go.RowKit Go.Extern.Stop Go.Stop Go.Extern
set_option linter.unusedVariables false

theorem bytes16_yes (a0 a1 a2 a3 a4 a5 : Option Addr) (n0 n1 n2 n3 n4 n5 c0 c1 c2 c3 c4 c5 : Nat) (p q r : Value) (h : n0 + n1 + n2 + n3 + n4 + n5 ≤ 1048576) (w : World) :
    Calls Tryf.prog 16 #[.slice a0 n0 c0, .slice a1 n1 c1, .slice a2 n2 c2, .slice a3 n3 c3, .slice a4 n4 c4, .slice a5 n5 c5, p, q, r] w fun e w' => e = .returned (.bool true) ∧ w' = w := by
  go_enter Tryf.func16, Tryf.ntmps16
  go_wp2
  go_ret
  exact ⟨rfl, rfl⟩
theorem bytes16_no (a0 a1 a2 a3 a4 a5 : Option Addr) (n0 n1 n2 n3 n4 n5 c0 c1 c2 c3 c4 c5 : Nat) (p q r : Value) (h : ¬ n0 + n1 + n2 + n3 + n4 + n5 ≤ 1048576)
    (h0 : n0 ≤ maxLen) (h1 : n1 ≤ maxLen) (h2 : n2 ≤ maxLen) (h3 : n3 ≤ maxLen) (h4 : n4 ≤ maxLen) (h5 : n5 ≤ maxLen) (w : World) :
    Calls Tryf.prog 16 #[.slice a0 n0 c0, .slice a1 n1 c1, .slice a2 n2 c2, .slice a3 n3 c3, .slice a4 n4 c4, .slice a5 n5 c5, p, q, r] w fun e w' => e = .returned (.bool false) ∧ w' = w := by
  unfold maxLen at *
  go_enter Tryf.func16, Tryf.ntmps16
  go_wp2
  all_goals (go_ret; exact ⟨rfl, rfl⟩)

/-- The next place where a record may start. -/
def al (x : Nat) : Nat := (x + 3) / 4 * 4
theorem al_lt (x : Nat) : al x < x + 4 := by unfold al; omega
theorem le_al (x : Nat) : x ≤ al x := by unfold al; omega
theorem al_mono {x y : Nat} (h : x ≤ y) : al x ≤ al y := by unfold al; omega
theorem ret_int {a b : Int} (h : a = b) : Ending.returned (.int .i64 a) = .returned (.int .i64 b) := by rw [h]

theorem align4 (x : Nat) (hx : x ≤ 1099511627776) (w : World) : Calls Tryf.prog 20 #[.int .i64 (x : Int)] w fun e w' => e = .returned (.int .i64 (al x : Int)) ∧ w' = w := by
  have hm : Int.tmod (x : Int) 4 = ((x % 4 : Nat) : Int) := by rw [Int.tmod_eq_emod_of_nonneg (by omega)]; simp
  by_cases h : x % 4 = 0
  · have HE : Hid ((x : Int) = (al x : Int)) := by unfold Hid al; omega
    have he : (Int.tmod (x : Int) 4 == 0) = true := by rw [hm, h]; rfl
    go_enter Tryf.func20, Tryf.ntmps20
    go_wp2_with fail
    go_ret
    exact ⟨ret_int HE.out, rfl⟩
  · have HE : Hid ((x : Int) + 4 - Int.tmod (x : Int) 4 = (al x : Int)) := by rw [hm]; unfold Hid al; omega
    have he : (Int.tmod (x : Int) 4 == 0) = false := by rw [hm]; simp; omega
    have hb1 : 0 ≤ Int.tmod (x : Int) 4 := by rw [hm]; omega
    have hb2 : Int.tmod (x : Int) 4 < 4 := by rw [hm]; omega
    go_enter Tryf.func20, Tryf.ntmps20
    go_wp2_with fail
    go_ret
    exact ⟨ret_int HE.out, rfl⟩
theorem alignUp (x : Nat) (hx : x ≤ 1099511627776) (w : World) : Calls Tryf.prog 47 #[.int .i64 (x : Int)] w fun e w' => e = .returned (.int .i64 (al x : Int)) ∧ w' = w := by
  have HE : Hid (bits BinOp.andNot IntKind.i64 ((x : Int) + 4 - 1) 3 = (al x : Int)) := by
    have e : ((x : Int) + 4 - 1) = ((x + 3 : Nat) : Int) := by omega
    rw [e]
    show IntKind.i64.wrap ((BitVec.ofInt 64 ((x + 3 : Nat) : Int) &&& ~~~BitVec.ofInt 64 ((3 : Nat) : Int)).toNat : Int) = _
    rw [BitVec.toNat_and, BitVec.toNat_not, ofInt_u64 (x + 3) (by omega), ofInt_u64 3 (by omega)]
    have e : 2 ^ 64 - 1 - 3 = 18446744073709551612 := by decide
    rw [e, nat_hi64_2, Nat.mod_eq_of_lt (by omega)]
    exact Lib.wrap_i64_small _ (by omega)
  go_enter Tryf.func47, Tryf.ntmps47
  go_wp2_with fail
  go_ret
  exact ⟨ret_int HE.out, rfl⟩

end Go.Proofs.Qxb6003952aFmt
