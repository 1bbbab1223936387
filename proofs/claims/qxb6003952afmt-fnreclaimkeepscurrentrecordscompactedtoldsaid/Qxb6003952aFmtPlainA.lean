/- Where the kept records go: plain. -/
import Derived.Test.Qxb6003952aFmtWalkR
import Derived.Test.Qxb6003952aFmtWalkQ
namespace Go.Proofs.Qxb6003952aFmt
open Go.RowKit Go.Extern.Stop Go.Stop Go.Extern
set_option linter.unusedVariables false

/-- Where the k-th kept record begins, and where it ends. -/
def nO (start : Nat) (K : List Rec) (k : Nat) : Nat := frOf start (K.take k)
def nE (start : Nat) (K : List Rec) (k : Nat) : Nat := nO start K k + ((K[k]?).map ln).getD 0
theorem nE_at {start : Nat} {K : List Rec} {k : Nat} {r : Rec} (h : K[k]? = some r) : nE start K k = nO start K k + ln r := by rw [nE, h]; rfl
theorem nO_succ {start : Nat} {K : List Rec} {k : Nat} {r : Rec} (h : K[k]? = some r) : nO start K (k + 1) = al (nE start K k) := by
  rw [nE_at h, nO, List.take_add_one, h, Option.toList_some, frOf_append]; rfl
theorem nO_all (start : Nat) (K : List Rec) : nO start K K.length = frOf start K := by rw [nO, List.take_length]
theorem nO_le {start : Nat} (K : List Rec) (k : Nat) : nO start K k ≤ frOf start K := by
  have h := frOf_append start (K.take k) (K.drop k)
  rw [List.take_append_drop] at h
  rw [h]; exact frOf_ge _ _
theorem nE_le {start : Nat} {K : List Rec} {k : Nat} {r : Rec} (h : K[k]? = some r) : nE start K k ≤ frOf start K := by
  have h1 := nO_succ (start := start) h
  have h2 := nO_le (start := start) K (k + 1)
  have h3 := le_al (nE start K k)
  omega
theorem le_nO (start : Nat) (K : List Rec) (k : Nat) : start ≤ nO start K k := frOf_ge _ _
/-- What the copying lays, and what it leaves. -/
theorem copyAll_out {OB : Nat → Int} {f : Nat} {L : List Rec} {X : Nat → Int} {i : Nat} (h : ∀ k, k < L.length → ¬ (nO f L k ≤ i ∧ i < nE f L k)) : copyAll OB f L X i = X i := by
  induction L generalizing f X with
  | nil => rfl
  | cons r L ih =>
    have h0 := h 0 (by simp)
    have e0 : nO f (r :: L) 0 = f := rfl
    have e1 : nE f (r :: L) 0 = f + ln r := rfl
    rw [e0, e1] at h0
    show copyAll OB (al (f + ln r)) L (fun i => if f ≤ i ∧ i < f + ln r then OB (r.off + (i - f)) else X i) i = X i
    rw [ih fun k hk => ?_, if_neg h0]
    have := h (k + 1) (by simpa using hk)
    have e2 : nO f (r :: L) (k + 1) = nO (al (f + ln r)) L k := rfl
    have e3 : nE f (r :: L) (k + 1) = nE (al (f + ln r)) L k := rfl
    rwa [e2, e3] at this
theorem copyAll_low {OB : Nat → Int} {f : Nat} {L : List Rec} {X : Nat → Int} {i : Nat} (h : i < f) : copyAll OB f L X i = X i :=
  copyAll_out fun k _ hk => by have := le_nO f L k; omega
theorem copyAll_in {OB : Nat → Int} {f : Nat} {L : List Rec} {X : Nat → Int} {k j : Nat} {r : Rec} (hr : L[k]? = some r) (hj : j < ln r) : copyAll OB f L X (nO f L k + j) = OB (r.off + j) := by
  induction L generalizing f X k with
  | nil => simp at hr
  | cons q L ih =>
    cases k with
    | zero =>
      simp at hr; subst hr
      show copyAll OB (al (f + ln q)) L (fun i => if f ≤ i ∧ i < f + ln q then OB (q.off + (i - f)) else X i) (f + j) = _
      have h1 := le_al (f + ln q)
      rw [copyAll_low (by omega), if_pos (by omega), Nat.add_sub_cancel_left]
    | succ k =>
      have e2 : nO f (q :: L) (k + 1) = nO (al (f + ln q)) L k := rfl
      rw [e2]
      exact ih (by simpa using hr)
theorem newB_out {OB : Nat → Int} {start en_ T : Nat} {K : List Rec} (hse : start ≤ en_) (hf : frOf start K ≤ en_) {i : Nat} (hi : i < start ∨ (en_ ≤ i ∧ i < T)) : newB OB start en_ T K i = OB i := by
  rw [newB, copyAll_out fun k hk h => ?_]
  · rcases hi with hi | ⟨h1, h2⟩
    · rw [over, if_neg (by omega), over, if_neg (by omega), over, if_pos (by omega)]; rfl
    · rw [over, if_neg (by omega), over, if_pos (by omega), show en_ + (i - en_) = i by omega]
  · have h1 := nE_le (start := start) (List.getElem?_eq_getElem hk)
    have h2 := le_nO start K k
    omega
theorem newB_in {OB : Nat → Int} {start en_ T : Nat} {K : List Rec} {k j : Nat} {r : Rec} (hr : K[k]? = some r) (hj : j < ln r) : newB OB start en_ T K (nO start K k + j) = OB (r.off + j) := copyAll_in hr hj
theorem newB_free {OB : Nat → Int} {start en_ T : Nat} {K : List Rec} {i : Nat} (h1 : start ≤ i) (h2 : i < en_) (h : ∀ k, k < K.length → ¬ (nO start K k ≤ i ∧ i < nE start K k)) : newB OB start en_ T K i = 255 := by
  rw [newB, copyAll_out h, over, if_pos (by omega)]
/-- The records, packed, never pass where they stood. -/
theorem pack_le {start : Nat} {L : Nat → Nat} {I S A : Nat → Int} {n : Nat} (M : List Nat) (hp : M.Pairwise (· < ·)) (hm : ∀ i ∈ M, i < n) (f lo : Nat) (hlo : ∀ i ∈ M, lo ≤ i) (hln : lo ≤ n) (hf : f ≤ offAt start L lo) :
    frOf f (M.map (recOf start L I S A)) ≤ offAt start L n := by
  induction M generalizing f lo with
  | nil => exact Nat.le_trans hf (off_mono start L hln)
  | cons i M ih =>
    have hi := hm i (by simp)
    have hli := hlo i (by simp)
    have h1 := off_mono start L hli
    refine ih (List.pairwise_cons.1 hp).2 (fun j hj => hm j (by simp [hj])) (al (f + ln (recOf start L I S A i))) (i + 1) (fun j hj => (List.pairwise_cons.1 hp).1 j hj) hi ?_
    show al (f + (enAt start L i - offAt start L i)) ≤ al (enAt start L i)
    apply al_mono
    have := off_le_en start L i
    omega
end Go.Proofs.Qxb6003952aFmt
