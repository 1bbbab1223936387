/- The plain arithmetic of the seat: residues modulo the prime 2^64 - 2^32 + 1. No Go in sight. -/
namespace Go.Proofs.Qxb6003750a.Pl

def M : Int := 18446744073709551616
def P : Int := 18446744069414584321
def Word (x : Int) : Prop := 0 ≤ x ∧ x < M
def Res (x : Int) : Prop := 0 ≤ x ∧ x < P

def cn (x : Int) : Int := x % P
def addM (a b : Int) : Int := if a + b < M then a + b else if a + b - M + 4294967295 < M then a + b - M + 4294967295 else a + b - M + 4294967295 - M + 4294967295
def subM (a b : Int) : Int := if b ≤ a then a - b else if 4294967295 ≤ a - b + M then a - b + M - 4294967295 else a - b + M - 4294967295 + M - 4294967295

theorem addM_word {a b : Int} (ha : Word a) (hb : Word b) : Word (addM a b) := by
  obtain ⟨h1, h2⟩ := ha; obtain ⟨h3, h4⟩ := hb
  unfold addM Word M at *
  split
  · omega
  · split <;> omega
theorem subM_word {a b : Int} (ha : Word a) (hb : Word b) : Word (subM a b) := by
  obtain ⟨h1, h2⟩ := ha; obtain ⟨h3, h4⟩ := hb
  unfold subM Word M at *
  split
  · omega
  · split <;> omega
theorem addM_cn {a b : Int} (ha : Word a) (hb : Word b) : cn (addM a b) = cn (a + b) := by
  obtain ⟨h1, h2⟩ := ha; obtain ⟨h3, h4⟩ := hb
  unfold addM cn P M at *
  split
  · omega
  · split <;> omega
theorem subM_cn {a b : Int} (ha : Word a) (hb : Word b) : cn (subM a b) = cn (a - b) := by
  obtain ⟨h1, h2⟩ := ha; obtain ⟨h3, h4⟩ := hb
  unfold subM cn P M at *
  split
  · omega
  · split <;> omega
theorem cn_res (x : Int) : Res (cn x) := by unfold Res cn P; omega
theorem cn_word (x : Int) : Word (cn x) := by unfold Word cn P M; omega
theorem cn_of_ge {x : Int} (hx : Word x) (h : P ≤ x) : cn x = x - P := by unfold Word cn P M at *; omega
theorem cn_of_lt {x : Int} (hx : Word x) (h : x < P) : cn x = x := by unfold Word cn P M at *; omega
theorem cn_add (a b : Int) : cn (cn a + cn b) = cn (a + b) := by unfold cn P; omega
theorem cn_sub (a b : Int) : cn (cn a - cn b) = cn (a - b) := by unfold cn P; omega

theorem law_add {a b : Int} (ha : Word a) (hb : Word b) : cn (addM a b) = cn (cn a + cn b) := by rw [addM_cn ha hb, cn_add]
theorem law_sub {a b : Int} (ha : Word a) (hb : Word b) : cn (subM a b) = cn (cn a - cn b) := by rw [subM_cn ha hb, cn_sub]
theorem back_add {a b : Int} (ha : Word a) (hb : Word b) : cn (subM (addM a b) b) = cn a := by
  rw [subM_cn (addM_word ha hb) hb, ← cn_sub, addM_cn ha hb]; unfold cn P; omega
theorem back_sub {a b : Int} (ha : Word a) (hb : Word b) : cn (addM (subM a b) b) = cn a := by
  rw [addM_cn (subM_word ha hb) hb, ← cn_add, subM_cn ha hb]; unfold cn P; omega

def hiM (x y : Int) : Int := x * y / M
def loM (x y : Int) : Int := x * y % M
def redT (hi lo : Int) : Int := if hi / 4294967296 ≤ lo then lo - hi / 4294967296 else lo - hi / 4294967296 + M - 4294967295
def redS (t h0 : Int) : Int := if t + (h0 * 4294967296 - h0) < M then t + (h0 * 4294967296 - h0) else t + (h0 * 4294967296 - h0) - M + 4294967295
def mulM (x y : Int) : Int := redS (redT (hiM x y) (loM x y)) (hiM x y % 4294967296)
theorem hiM_bd {a b : Int} (ha : Word a) (hb : Word b) : 0 ≤ hiM a b ∧ hiM a b < M := by
  obtain ⟨x, rfl⟩ := Int.eq_ofNat_of_zero_le ha.1
  obtain ⟨y, rfl⟩ := Int.eq_ofNat_of_zero_le hb.1
  have h1 := ha.2; have h2 := hb.2
  unfold hiM M at *
  have h3 : x * y ≤ 18446744073709551615 * 18446744073709551615 := Nat.mul_le_mul (by omega) (by omega)
  have h4 : (x : Int) * y = ((x * y : Nat) : Int) := (Int.natCast_mul x y).symm
  rw [h4]; omega
theorem loM_bd (a b : Int) : 0 ≤ loM a b ∧ loM a b < M := by unfold loM M; omega
theorem redT_word {hi lo : Int} (h1 : Word hi) (h2 : Word lo) : Word (redT hi lo) := by
  unfold redT Word M at *
  split <;> omega
theorem redS_word {t h0 : Int} (h1 : Word t) (h2 : 0 ≤ h0) (h3 : h0 < 4294967296) : Word (redS t h0) := by
  unfold redS Word M at *
  split <;> omega
theorem mulM_word {a b : Int} (ha : Word a) (hb : Word b) : Word (mulM a b) := by
  unfold mulM
  exact redS_word (redT_word (hiM_bd ha hb) (loM_bd a b)) (by omega) (by omega)
theorem mulM_cn {a b : Int} (ha : Word a) (hb : Word b) : cn (mulM a b) = cn (a * b) := by
  have h1 := hiM_bd ha hb
  have h2 := loM_bd a b
  have e : a * b = hiM a b * M + loM a b := by unfold hiM loM M; omega
  rw [e]
  unfold mulM
  generalize hiM a b = hi at *
  generalize loM a b = lo at *
  unfold cn redS redT P M at *
  split <;> split <;> omega
theorem cn_mul (a b : Int) : cn (cn a * cn b) = cn (a * b) := by
  unfold cn; rw [← Int.mul_emod]
theorem law_join_add {x y w : Int} (hx : Word x) (hy : Word y) (hw : Word w) : cn (addM x (mulM y w)) = cn (cn x + cn (cn y * cn w)) := by
  rw [law_add hx (mulM_word hy hw), mulM_cn hy hw, cn_mul]
theorem law_join_sub {x y w : Int} (hx : Word x) (hy : Word y) (hw : Word w) : cn (subM x (mulM y w)) = cn (cn x - cn (cn y * cn w)) := by
  rw [law_sub hx (mulM_word hy hw), mulM_cn hy hw, cn_mul]

theorem half_pow (a : Int) (k : Nat) (hk : 1 ≤ k) : a / 2 ^ k = a / 2 ^ (k - 1) / 2 := by
  obtain ⟨j, rfl⟩ : ∃ j, k = j + 1 := ⟨k - 1, by omega⟩
  rw [show j + 1 - 1 = j by omega, Int.pow_succ, Int.ediv_ediv_of_nonneg (Int.le_of_lt (Int.pow_pos (by decide)))]
theorem step_even {q b : Int} (h : q % 2 = 0) : cn (cn (q / 2 * b) + cn (q / 2 * b)) = cn (q * b) := by
  rw [cn_add, ← Int.add_mul, show q / 2 + q / 2 = q by omega]
theorem step_odd {q b : Int} (h : q % 2 = 1) : cn (cn (cn (q / 2 * b) + cn (q / 2 * b)) + b) = cn (q * b) := by
  rw [cn_add, ← Int.add_mul]
  have e : q * b = (q / 2 + q / 2) * b + b := by
    have : q = q / 2 + q / 2 + 1 := by omega
    conv => lhs; rw [this, Int.add_mul, Int.one_mul]
  rw [e]
  generalize (q / 2 + q / 2) * b = X
  unfold cn P; omega
theorem top_zero {a : Int} (h : Res a) : a / 2 ^ 64 = 0 := by unfold Res P at h; omega
end Go.Proofs.Qxb6003750a.Pl
