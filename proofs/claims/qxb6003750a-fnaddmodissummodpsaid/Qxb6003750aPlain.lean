/- The plain arithmetic of the seat: residues modulo the prime 2^64 - 2^32 + 1. No Go in sight. -/
namespace Go.Proofs.Qxb6003750a.Pl

def M : Int := 18446744073709551616
def P : Int := 18446744069414584321
def Word (x : Int) : Prop := 0 ≤ x ∧ x < M
def Res (x : Int) : Prop := 0 ≤ x ∧ x < P

def cn (x : Int) : Int := x % P
def addM (a b : Int) : Int := if a + b < M then a + b else if a + b - M + 4294967295 < M then a + b - M + 4294967295 else a + b - M + 4294967295 - M + 4294967295
def subM (a b : Int) : Int := if b ≤ a then a - b else if 4294967295 ≤ a - b + M then a - b + M - 4294967295 else a - b + M - 4294967295 + M - 4294967295

theorem addM_word {a b : Int} (ha : Word a) (hb : Word b) : Word (addM a b) := by
  obtain ⟨h1, h2⟩ := ha; obtain ⟨h3, h4⟩ := hb
  unfold addM Word M at *
  split
  · omega
  · split <;> omega
theorem subM_word {a b : Int} (ha : Word a) (hb : Word b) : Word (subM a b) := by
  obtain ⟨h1, h2⟩ := ha; obtain ⟨h3, h4⟩ := hb
  unfold subM Word M at *
  split
  · omega
  · split <;> omega
theorem addM_cn {a b : Int} (ha : Word a) (hb : Word b) : cn (addM a b) = cn (a + b) := by
  obtain ⟨h1, h2⟩ := ha; obtain ⟨h3, h4⟩ := hb
  unfold addM cn P M at *
  split
  · omega
  · split <;> omega
theorem subM_cn {a b : Int} (ha : Word a) (hb : Word b) : cn (subM a b) = cn (a - b) := by
  obtain ⟨h1, h2⟩ := ha; obtain ⟨h3, h4⟩ := hb
  unfold subM cn P M at *
  split
  · omega
  · split <;> omega
theorem cn_res (x : Int) : Res (cn x) := by unfold Res cn P; omega
theorem cn_word (x : Int) : Word (cn x) := by unfold Word cn P M; omega
theorem cn_of_ge {x : Int} (hx : Word x) (h : P ≤ x) : cn x = x - P := by unfold Word cn P M at *; omega
theorem cn_of_lt {x : Int} (hx : Word x) (h : x < P) : cn x = x := by unfold Word cn P M at *; omega
theorem cn_add (a b : Int) : cn (cn a + cn b) = cn (a + b) := by unfold cn P; omega
theorem cn_sub (a b : Int) : cn (cn a - cn b) = cn (a - b) := by unfold cn P; omega

theorem law_add {a b : Int} (ha : Word a) (hb : Word b) : cn (addM a b) = cn (cn a + cn b) := by rw [addM_cn ha hb, cn_add]
theorem law_sub {a b : Int} (ha : Word a) (hb : Word b) : cn (subM a b) = cn (cn a - cn b) := by rw [subM_cn ha hb, cn_sub]
theorem back_add {a b : Int} (ha : Word a) (hb : Word b) : cn (subM (addM a b) b) = cn a := by
  rw [subM_cn (addM_word ha hb) hb, ← cn_sub, addM_cn ha hb]; unfold cn P; omega
theorem back_sub {a b : Int} (ha : Word a) (hb : Word b) : cn (addM (subM a b) b) = cn a := by
  rw [addM_cn (subM_word ha hb) hb, ← cn_add, subM_cn ha hb]; unfold cn P; omega
end Go.Proofs.Qxb6003750a.Pl
