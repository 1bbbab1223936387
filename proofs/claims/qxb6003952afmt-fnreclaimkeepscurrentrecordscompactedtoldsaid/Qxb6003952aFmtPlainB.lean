/- The records that reclaim keeps are the ones that the law keeps: plain. -/
import Derived.Test.Qxb6003952aFmtPlainA
import Derived.Test.Qxb6003952aFmtSegH
namespace Go.Proofs.Qxb6003952aFmt
open Go.RowKit Go.Extern.Stop Go.Stop Go.Extern
set_option linter.unusedVariables false

theorem lt_of_at {l : List Nat} (h : l.Pairwise (· < ·)) {p q i j : Nat} (hp : l[p]? = some i) (hq : l[q]? = some j) : p < q ↔ i < j := by
  obtain ⟨hp1, hp2⟩ := List.getElem?_eq_some_iff.1 hp
  obtain ⟨hq1, hq2⟩ := List.getElem?_eq_some_iff.1 hq
  have hg := List.pairwise_iff_getElem.1 h
  constructor
  · intro hpq
    have := hg p q hp1 hq1 hpq
    omega
  · intro hij
    rcases Nat.lt_trichotomy p q with h1 | h1 | h1
    · exact h1
    · subst h1; rw [hp2] at hq2; omega
    · have := hg q p hq1 hp1 h1
      omega
theorem sorted_ext {l m : List Nat} (hl : l.Pairwise (· < ·)) (hm : m.Pairwise (· < ·)) (h : ∀ i, i ∈ l ↔ i ∈ m) : l = m := by
  induction l generalizing m with
  | nil =>
    cases m with
    | nil => rfl
    | cons b m => exact absurd ((h b).2 (by simp)) (by simp)
  | cons a l ih =>
    cases m with
    | nil => exact absurd ((h a).1 (by simp)) (by simp)
    | cons b m =>
      have hl' := List.pairwise_cons.1 hl
      have hm' := List.pairwise_cons.1 hm
      have e : a = b := by
        rcases List.mem_cons.1 ((h a).1 (by simp)) with e | h1
        · exact e
        · rcases List.mem_cons.1 ((h b).2 (by simp)) with e | h2
          · exact e.symm
          · have := hl'.1 b h2; have := hm'.1 a h1; omega
      subst e
      rw [ih hl'.2 hm'.2 fun i => ?_]
      have := h i
      simp only [List.mem_cons] at this
      constructor
      · intro hi
        rcases this.1 (.inr hi) with e | h1
        · subst e; have := hl'.1 i hi; omega
        · exact h1
      · intro hi
        rcases this.2 (.inr hi) with e | h1
        · subst e; have := hm'.1 i hi; omega
        · exact h1
theorem live_sorted (S : Nat → Int) (n : Nat) : (liveI S n).Pairwise (· < ·) := List.Pairwise.filter _ List.pairwise_lt_range
theorem mem_live {S : Nat → Int} {n i : Nat} : i ∈ liveI S n ↔ i < n ∧ tOf S i ≠ 2 := by simp [liveI]
/-- Picking out of a sorted list by a sorted list of places. -/
theorem pick_sorted {l : List Nat} (hl : l.Pairwise (· < ·)) {ws : List Nat} (hw : ws.Pairwise (· < ·)) : (ws.filterMap fun p => l[p]?).Pairwise (· < ·) := by
  induction ws with
  | nil => exact List.Pairwise.nil
  | cons p ws ih =>
    have hw' := List.pairwise_cons.1 hw
    rw [List.filterMap_cons]
    cases hp : l[p]? with
    | none => exact ih hw'.2
    | some i =>
      refine List.pairwise_cons.2 ⟨fun j hj => ?_, ih hw'.2⟩
      obtain ⟨q, hq, hqj⟩ := List.mem_filterMap.1 hj
      exact (lt_of_at hl hp hqj).1 (hw'.1 q hq)
theorem winners_sorted (C S : Nat → Int) (n : Nat) : (winners C S n).Pairwise (· < ·) := List.Pairwise.filter _ List.pairwise_lt_range
theorem st63 {t : Int} (h0 : 0 ≤ t) (h3 : t < 3) : stOf t = 63 ↔ t = 0 := by
  unfold stOf
  split
  · simp_all
  · split <;> simp_all
theorem kept_same {start : Nat} {L : Nat → Nat} {I S A : Nat → Int} {n : Nat} {vk : Int} {M : List Nat} (hM : KeptI n I S vk n M) (hS : ∀ i, i < n → 0 ≤ S i) :
    keptOf vk ((winners (cOf (zl start L I S A n)) (sOf (zl start L I S A n)) (zl start L I S A n).length).filterMap fun p => (zl start L I S A n)[p]?) = M.map (recOf start L I S A) := by
  obtain ⟨Z, hZ⟩ : ∃ Z, Z = zl start L I S A n := ⟨_, rfl⟩
  obtain ⟨lv, hlv⟩ : ∃ lv, lv = liveI S n := ⟨_, rfl⟩
  have hZl : Z = lv.map (recOf start L I S A) := by rw [hZ, hlv]; rfl
  rw [← hZ]
  have hat : ∀ p : Nat, Z[p]? = (lv[p]?).map (recOf start L I S A) := fun p => by rw [hZl, List.getElem?_map]
  have hlen : Z.length = lv.length := by rw [hZl, List.length_map]
  have hsort : lv.Pairwise (· < ·) := by rw [hlv]; exact live_sorted S n
  have hmem : ∀ i, i ∈ lv ↔ i < n ∧ tOf S i ≠ 2 := fun i => by rw [hlv]; exact mem_live
  have ht : ∀ i, i < n → 0 ≤ tOf S i ∧ tOf S i < 3 := fun i hi => by
    have := hS i hi
    unfold tOf
    rw [Int.tmod_eq_emod_of_nonneg this]
    omega
  have e1 : ((winners (cOf Z) (sOf Z) Z.length).filterMap fun p => Z[p]?) = ((winners (cOf Z) (sOf Z) Z.length).filterMap fun p => lv[p]?).map (recOf start L I S A) := by
    rw [List.map_filterMap]
    congr 1
    funext p
    rw [hat p]
  rw [e1, keptOf, List.filter_map]
  congr 1
  refine sorted_ext (List.Pairwise.filter _ (pick_sorted hsort (winners_sorted _ _ _))) hM.1 fun i => ?_
  rw [List.mem_filter, hM.2 i, List.mem_filterMap]
  have hc : ∀ p j, lv[p]? = some j → cOf Z p = I j % 8 ∧ sOf Z p = stOf (tOf S j) := fun p j hp => by
    have : Z[p]? = some (recOf start L I S A j) := by rw [hat p, hp]; rfl
    exact ⟨cOf_eq this, sOf_eq this⟩
  have key : ∀ p j, lv[p]? = some j → ((∃ c, win (cOf Z) (sOf Z) Z.length c = some p) ↔ curP n (fun q => I q % 8) (tOf S) j) := by
    intro p j hp
    have hj := (hmem j).1 (List.mem_of_getElem? hp)
    obtain ⟨hcp, hsp⟩ := hc p j hp
    have hpl : p < Z.length := by rw [hlen]; exact (List.getElem?_eq_some_iff.1 hp).1
    have htj := ht j hj.1
    -- from an index to its place
    have place : ∀ i, i < n → tOf S i ≠ 2 → ∃ q, lv[q]? = some i := fun i hi hti => List.getElem?_of_mem ((hmem i).2 ⟨hi, hti⟩)
    constructor
    · rintro ⟨c, hw⟩
      obtain ⟨_, hc1, hcase⟩ := (win_spec Z.length c p).1 hw
      rw [hcp] at hc1
      subst hc1
      rw [hsp, ] at hcase
      refine ⟨hj.2, fun h0 i hi => ?_, fun h0 i hi hk => ?_⟩
      · rintro ⟨hk, hti⟩
        rcases hcase with ⟨_, h2⟩ | ⟨h1, _⟩
        · obtain ⟨q, hq⟩ := place i (by omega) (by omega)
          have hqp := (lt_of_at hsort hq hp).2 hi
          obtain ⟨hcq, hsq⟩ := hc q i hq
          refine h2 q hqp (by rw [hcq]; exact hk) ?_
          rw [hsq, hti]; rfl
        · exact h1 ((st63 htj.1 htj.2).2 h0)
      · rcases hcase with ⟨h1, _⟩ | ⟨_, h2⟩
        · exact absurd ((st63 htj.1 htj.2).1 h1) h0
        · by_cases hti : tOf S i = 2
          · exact ⟨by omega, fun h => by omega⟩
          · obtain ⟨q, hq⟩ := place i hi hti
            obtain ⟨hcq, hsq⟩ := hc q i hq
            have hql : q < Z.length := by rw [hlen]; exact (List.getElem?_eq_some_iff.1 hq).1
            obtain ⟨h3, h4⟩ := h2 q hql (by rw [hcq]; exact hk)
            refine ⟨fun h => h3 (by rw [hsq, h]; rfl), fun h => ?_⟩
            have := (lt_of_at hsort hp hq).2 h.2
            omega
    · rintro ⟨_, hA, hB⟩
      refine ⟨I j % 8, (win_spec Z.length (I j % 8) p).2 ⟨hpl, hcp, ?_⟩⟩
      rw [hsp]
      by_cases h0 : tOf S j = 0
      · refine .inl ⟨(st63 htj.1 htj.2).2 h0, fun q hq hcq hsq => ?_⟩
        obtain ⟨i, hi⟩ : ∃ i, lv[q]? = some i := ⟨_, List.getElem?_eq_getElem (by rw [hlen] at hpl; omega)⟩
        obtain ⟨hcq', hsq'⟩ := hc q i hi
        have hin := (hmem i).1 (List.mem_of_getElem? hi)
        have hti := ht i hin.1
        refine hA h0 i ((lt_of_at hsort hi hp).1 hq) ⟨hcq'.symm.trans hcq, ?_⟩
        rw [hsq'] at hsq
        exact (st63 hti.1 hti.2).1 hsq
      · refine .inr ⟨fun h => h0 ((st63 htj.1 htj.2).1 h), fun q hq hcq => ?_⟩
        obtain ⟨i, hi⟩ : ∃ i, lv[q]? = some i := ⟨_, List.getElem?_eq_getElem (by rw [hlen] at hq; omega)⟩
        obtain ⟨hcq', hsq'⟩ := hc q i hi
        have hin := (hmem i).1 (List.mem_of_getElem? hi)
        have hti := ht i hin.1
        obtain ⟨h1, h2⟩ := hB h0 i hin.1 (hcq'.symm.trans hcq)
        refine ⟨fun h => h1 ?_, ?_⟩
        · rw [hsq'] at h
          exact (st63 hti.1 hti.2).1 h
        · rcases Nat.lt_or_ge p q with hpq | hpq
          · exact absurd ⟨by omega, (lt_of_at hsort hp hi).1 hpq⟩ h2
          · exact hpq
  constructor
  · rintro ⟨⟨p, hp, hpi⟩, hcl⟩
    have hin := (hmem i).1 (List.mem_of_getElem? hpi)
    refine ⟨hin.1, ?_, (key p i hpi).1 (mem_winners.1 hp)⟩
    intro h
    simp [recOf, h] at hcl
  · rintro ⟨hin, hne, hcur⟩
    obtain ⟨p, hp⟩ : ∃ p, lv[p]? = some i := List.getElem?_of_mem ((hmem i).2 ⟨hin, hcur.1⟩)
    refine ⟨⟨p, mem_winners.2 ((key p i hp).2 hcur), hp⟩, ?_⟩
    simp [recOf, hne]
end Go.Proofs.Qxb6003952aFmt
