/- The keys of the map, and which record is a variable's winner: plain. -/
import Derived.Test.Qxb6003952aFmtWalkE
import Derived.Maps.OwnSet
import Derived.Maps.RangeWalk
import Derived.DeepKeys4
namespace Go.Proofs.Qxb6003952aFmt
open Go.RowKit Go.Extern.Stop Go.Stop Go.Extern Go.Maps
set_option linter.unusedVariables false

theorem laidOut : laidOutB Tryf.prog = true := by kernel_rfl
theorem keyed : Keyed Tryf.prog 93 := Keyed.of_law (deep_law_laid laidOut (m := 8) (by omega) (of_decide_eq_true (by kernel_rfl)) (by kernel_rfl) (by kernel_rfl))
/-- The cells of a key. -/
def kc (c : Int) : List Value := .string (nmOf c) :: gc (gOf c)
/-- What a key reads as. -/
def kl (c : Int) : Lit := .string ([0, 0, 0, 0, 0, 0, 0, 1] ++ (nmOf c).data.toList ++ [UInt8.ofNat (gOf c).toNat] ++ [0, 0, 0, 0, 0, 0, 0, 0, 0, 0, 0, 0, 0, 0, 0])
theorem key0 : keyOf Tryf.prog 93 (.agg (kc 0).toArray) = some (kl 0) := by kernel_rfl
theorem key1 : keyOf Tryf.prog 93 (.agg (kc 1).toArray) = some (kl 1) := by kernel_rfl
theorem key2 : keyOf Tryf.prog 93 (.agg (kc 2).toArray) = some (kl 2) := by kernel_rfl
theorem key3 : keyOf Tryf.prog 93 (.agg (kc 3).toArray) = some (kl 3) := by kernel_rfl
theorem key4 : keyOf Tryf.prog 93 (.agg (kc 4).toArray) = some (kl 4) := by kernel_rfl
theorem key5 : keyOf Tryf.prog 93 (.agg (kc 5).toArray) = some (kl 5) := by kernel_rfl
theorem key6 : keyOf Tryf.prog 93 (.agg (kc 6).toArray) = some (kl 6) := by kernel_rfl
theorem key7 : keyOf Tryf.prog 93 (.agg (kc 7).toArray) = some (kl 7) := by kernel_rfl
theorem key_of {c : Int} (h0 : 0 ≤ c) (h8 : c < 8) : keyOf Tryf.prog 93 (.agg (kc c).toArray) = some (kl c) := by
  have : c = 0 ∨ c = 1 ∨ c = 2 ∨ c = 3 ∨ c = 4 ∨ c = 5 ∨ c = 6 ∨ c = 7 := by omega
  rcases this with rfl | rfl | rfl | rfl | rfl | rfl | rfl | rfl
  · exact key0
  · exact key1
  · exact key2
  · exact key3
  · exact key4
  · exact key5
  · exact key6
  · exact key7
theorem nm_size {x : Int} : (nmOf x).size = 1 := by unfold nmOf; split <;> (try split) <;> (try split) <;> rfl
theorem nmOf_inj {x y : Int} (h : nmOf x = nmOf y) : x % 4 = y % 4 := by
  have hb : ∀ z : Int, (nmOf z).data.toList = if z % 4 = 0 then [65] else if z % 4 = 1 then [66] else if z % 4 = 2 then [67] else [68] := by
    intro z; unfold nmOf; split <;> (try split) <;> (try split) <;> rfl
  have h1 := hb x
  rw [h, hb y] at h1
  have hx : x % 4 = 0 ∨ x % 4 = 1 ∨ x % 4 = 2 ∨ x % 4 = 3 := by omega
  have hy : y % 4 = 0 ∨ y % 4 = 1 ∨ y % 4 = 2 ∨ y % 4 = 3 := by omega
  rcases hx with e | e | e | e <;> rcases hy with f | f | f | f <;> simp_all
theorem cls_inj {x y : Int} (hx0 : 0 ≤ x) (hx : x < 8) (hy0 : 0 ≤ y) (hy : y < 8) (hn : nmOf x = nmOf y) (hg : gOf x = gOf y) : x = y := by
  have := nmOf_inj hn
  unfold gOf at hg
  omega
theorem kl_inj {x y : Int} (hx0 : 0 ≤ x) (hx : x < 8) (hy0 : 0 ≤ y) (hy : y < 8) (h : kl x = kl y) : x = y := by
  have h1 := key_of hx0 hx
  rw [h] at h1
  have h2 := keyed.inj h1 (key_of hy0 hy)
  simp [kc, gc] at h2
  exact cls_inj hx0 hx hy0 hy h2.1 h2.2
theorem kl_key {c : Int} (h0 : 0 ≤ c) (h8 : c < 8) : WideAt.IsKeyLit (kl c) := keyed.key (key_of h0 h8)

/-! ### The winner of each class -/
/-- The record that holds class c's value once k records have been gone through. -/
def win (C S : Nat → Int) : Nat → Int → Option Nat
  | 0, _ => none
  | k + 1, c => if C k = c then (match win C S k c with | some j => if S j = 63 then some j else some k | none => some k) else win C S k c
theorem win_lt {C S : Nat → Int} {k : Nat} {c : Int} {j : Nat} (h : win C S k c = some j) : j < k ∧ C j = c := by
  induction k generalizing j with
  | zero => simp [win] at h
  | succ k ih =>
    unfold win at h
    split at h
    · next hc =>
      split at h
      · next i hi =>
        split at h
        · cases h; obtain ⟨h1, h2⟩ := ih hi; exact ⟨by omega, h2⟩
        · cases h; exact ⟨by omega, hc⟩
      · cases h; exact ⟨by omega, hc⟩
    · obtain ⟨h1, h2⟩ := ih h; exact ⟨by omega, h2⟩
/-- What the winner is: the first record in state 63, if there is one; else the last record of the class. -/
theorem win_spec {C S : Nat → Int} (k : Nat) (c : Int) (p : Nat) : win C S k c = some p ↔
    p < k ∧ C p = c ∧ ((S p = 63 ∧ ∀ j, j < p → C j = c → S j ≠ 63) ∨ (S p ≠ 63 ∧ ∀ j, j < k → C j = c → S j ≠ 63 ∧ j ≤ p)) := by
  induction k generalizing p with
  | zero => simp [win]
  | succ k ih =>
    unfold win
    by_cases hc : C k = c
    · rw [if_pos hc]
      cases hw : win C S k c with
      | none =>
        have hno : ∀ j, j < k → C j ≠ c := by
          intro j hj he
          -- some record of the class is there: then there is a winner
          have : ∀ m, j < m → (win C S m c).isSome = true := by
            intro m hm
            induction m with
            | zero => omega
            | succ m ihm =>
              unfold win
              by_cases hcm : C m = c
              · rw [if_pos hcm]; split
                · split <;> rfl
                · rfl
              · rw [if_neg hcm]
                refine ihm ?_
                rcases Nat.lt_or_ge j m with h | h
                · exact h
                · obtain rfl : j = m := by omega
                  exact absurd he hcm
          have := this k hj
          rw [hw] at this; cases this
        simp only [Option.some.injEq]
        constructor
        · rintro rfl
          refine ⟨by omega, hc, ?_⟩
          by_cases hs : S k = 63
          · exact .inl ⟨hs, fun j hj he => absurd he (hno j hj)⟩
          · refine .inr ⟨hs, fun j hj he => ?_⟩
            rcases Nat.lt_or_ge j k with h | h
            · exact absurd he (hno j h)
            · obtain rfl : j = k := by omega
              exact ⟨hs, Nat.le_refl _⟩
        · rintro ⟨h1, h2, _⟩
          rcases Nat.lt_or_ge p k with h | h
          · exact absurd h2 (hno p h)
          · omega
      | some i =>
        obtain ⟨hi1, hi2, hi3⟩ := (ih i).1 hw
        simp only
        by_cases hs : S i = 63
        · rw [if_pos hs]
          simp only [Option.some.injEq]
          have hfirst : ∀ j, j < i → C j = c → S j ≠ 63 := by
            rcases hi3 with ⟨_, h⟩ | ⟨h, _⟩
            · exact h
            · exact absurd hs h
          constructor
          · rintro rfl
            exact ⟨by omega, hi2, .inl ⟨hs, hfirst⟩⟩
          · rintro ⟨h1, h2, h3 | h3⟩
            · rcases Nat.lt_trichotomy i p with h | h | h
              · exact absurd hs (h3.2 i h hi2)
              · exact h
              · exact absurd h3.1 (hfirst p h h2)
            · exact absurd hs (h3.2 i (by omega) hi2).1
        · rw [if_neg hs]
          simp only [Option.some.injEq]
          have hnone : ∀ j, j < k → C j = c → S j ≠ 63 ∧ j ≤ i := by
            rcases hi3 with ⟨h, _⟩ | ⟨_, h⟩
            · exact absurd h hs
            · exact h
          constructor
          · rintro rfl
            refine ⟨by omega, hc, ?_⟩
            by_cases hk : S k = 63
            · exact .inl ⟨hk, fun j hj he => (hnone j hj he).1⟩
            · refine .inr ⟨hk, fun j hj he => ?_⟩
              rcases Nat.lt_or_ge j k with h | h
              · exact ⟨(hnone j h he).1, by omega⟩
              · obtain rfl : j = k := by omega
                exact ⟨hk, Nat.le_refl _⟩
          · rintro ⟨h1, h2, h3 | h3⟩
            · rcases Nat.lt_or_ge p k with h | h
              · exact absurd h3.1 (hnone p h h2).1
              · omega
            · have := (h3.2 k (by omega) hc).2
              omega
    · rw [if_neg hc, ih p]
      constructor
      · rintro ⟨h1, h2, h3⟩
        refine ⟨by omega, h2, ?_⟩
        rcases h3 with h3 | ⟨h3, h4⟩
        · exact .inl h3
        · refine .inr ⟨h3, fun j hj he => ?_⟩
          rcases Nat.lt_or_ge j k with h | h
          · exact h4 j h he
          · obtain rfl : j = k := by omega
            exact absurd he hc
      · rintro ⟨h1, h2, h3⟩
        have hp : p < k := by
          rcases Nat.lt_or_ge p k with h | h
          · exact h
          · obtain rfl : p = k := by omega
            exact absurd h2 hc
        refine ⟨hp, h2, ?_⟩
        rcases h3 with h3 | ⟨h3, h4⟩
        · exact .inl h3
        · exact .inr ⟨h3, fun j hj he => h4 j (by omega) he⟩
/-- The winners, in the order of the records. -/
def winners (C S : Nat → Int) (n : Nat) : List Nat := (List.range n).filter fun p => win C S n (C p) == some p
theorem mem_winners {C S : Nat → Int} {n p : Nat} : p ∈ winners C S n ↔ ∃ c, win C S n c = some p := by
  simp only [winners, List.mem_filter, List.mem_range, beq_iff_eq]
  constructor
  · rintro ⟨_, h⟩; exact ⟨_, h⟩
  · rintro ⟨c, h⟩
    obtain ⟨h1, h2⟩ := win_lt h
    exact ⟨h1, by rw [h2]; exact h⟩
/-- What was collected and sorted is the winners' list. -/
theorem sorted_winners {C S : Nat → Int} {n : Nat} {zs : List Int} (hnd : zs.Nodup) (hm : ∀ z, z ∈ zs ↔ ∃ p, p ∈ winners C S n ∧ z = (p : Int)) :
    zs.mergeSort (fun x y => decide (x ≤ y)) = (winners C S n).map (fun p : Nat => (p : Int)) := by
  have hp : (winners C S n).Pairwise (· < ·) := List.Pairwise.filter _ List.pairwise_lt_range
  have hp2 : ((winners C S n).map (fun p : Nat => (p : Int))).Pairwise (· < ·) := by
    rw [List.pairwise_map]
    exact hp.imp (by intro a b h; omega)
  have hnd2 : ((winners C S n).map (fun p : Nat => (p : Int))).Nodup := hp2.imp (by intro a b h; omega)
  have hperm : (zs.mergeSort (fun x y => decide (x ≤ y))).Perm ((winners C S n).map (fun p : Nat => (p : Int))) := by
    refine (List.mergeSort_perm _ _).trans ?_
    rw [List.perm_ext_iff_of_nodup hnd hnd2]
    intro a
    rw [hm a, List.mem_map]
    constructor
    · rintro ⟨p, h1, rfl⟩; exact ⟨p, h1, rfl⟩
    · rintro ⟨p, h1, rfl⟩; exact ⟨p, h1, rfl⟩
  have hs : (zs.mergeSort (fun x y => decide (x ≤ y))).Pairwise (fun x y => decide (x ≤ y) = true) := List.pairwise_mergeSort (by intro a b c; simp; omega) (by intro a b; simp; omega) zs
  exact hperm.eq_of_pairwise (fun a b _ _ h1 h2 => by simp at h1 h2; omega) hs (hp2.imp (by intro a b h; simp; omega))
end Go.Proofs.Qxb6003952aFmt
