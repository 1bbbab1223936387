/- The walk of currentRecords. -/
import Derived.Test.Qxb6003952aFmtWalkF
import Derived.Test.Qxb6003952aFmtShelf
import Derived.Maps.AppendAt
import Derived.Sort.OwnSortedInts
namespace Go.Proofs.Qxb6003952aFmt
open Go.RowKit Go.Extern.Stop Go.Stop Go.Extern Go.Maps
set_option linter.unusedVariables false

/-- The map tells of each class what f says. -/
def Tells (D : DataW Unit) (f : Int → Option Nat) : Prop :=
  (∀ c, 0 ≤ c → c < 8 → ∀ j, f c = some j → (∀ z, D.atKey (kl c) z = .lit (.int .i64 (j : Int))) ∧ Maps.has D (kl c) = true) ∧ (∀ c, 0 ≤ c → c < 8 → f c = none → Maps.has D (kl c) = false) ∧
  ∀ l, Maps.has D l = true → ∃ c, 0 ≤ c ∧ c < 8 ∧ l = kl c
theorem Tells.start : Tells (.map []) fun _ => none :=
  ⟨fun c _ _ j h => (by cases h), fun c _ _ _ => rfl, fun l h => (by cases h)⟩
theorem Tells.put {D : DataW Unit} {f : Int → Option Nat} (h : Tells D f) (hD : IsMap D) {c : Int} (h0 : 0 ≤ c) (h8 : c < 8) (k : Nat) : Tells (D.put (kl c) (.lit (.int .i64 (k : Int)))) fun x => if x = c then some k else f x := by
  refine ⟨fun x hx0 hx8 j hj => ?_, fun x hx0 hx8 hj => ?_, fun l hl => ?_⟩
  · by_cases e : x = c
    · subst e
      simp at hj; subst hj
      exact ⟨fun z => atKey_put_same hD (kl_key h0 h8) _ _, has_put_same hD (kl_key h0 h8) _⟩
    · simp [e] at hj
      have hne : kl x ≠ kl c := fun he => e (kl_inj hx0 hx8 h0 h8 he)
      obtain ⟨h1, h2⟩ := h.1 x hx0 hx8 j hj
      exact ⟨fun z => by rw [atKey_put_other hne]; exact h1 z, by rw [has_put_other hne]; exact h2⟩
  · by_cases e : x = c
    · simp [e] at hj
    · simp [e] at hj
      have hne : kl x ≠ kl c := fun he => e (kl_inj hx0 hx8 h0 h8 he)
      rw [has_put_other hne]; exact h.2.1 x hx0 hx8 hj
  · by_cases e : l = kl c
    · exact ⟨c, h0, h8, e⟩
    · rw [has_put_other e] at hl; exact h.2.2 l hl
theorem Tells.congr {D : DataW Unit} {f g : Int → Option Nat} (h : Tells D f) (e : ∀ c, f c = g c) : Tells D g := by
  have : f = g := funext e
  rwa [this] at h
theorem win_keep {C S : Nat → Int} {k j : Nat} (hw : win C S k (C k) = some j) (hs : S j = 63) (c : Int) : win C S k c = win C S (k + 1) c := by
  show _ = if C k = c then _ else _
  by_cases e : C k = c
  · rw [if_pos e, ← e, hw]; simp [hs]
  · rw [if_neg e]
theorem win_new {C S : Nat → Int} {k : Nat} (h : ∀ j, win C S k (C k) = some j → S j ≠ 63) (c : Int) : (if c = C k then some k else win C S k c) = win C S (k + 1) c := by
  show _ = if C k = c then _ else _
  by_cases e : C k = c
  · rw [if_pos e, if_pos e.symm, ← e]
    cases hw : win C S k (C k) with
    | none => rfl
    | some j => simp [h j hw]
  · rw [if_neg e, if_neg (fun h => e h.symm)]

section
variable {P : Program} (w : World) {ops : Array Oper} {rest : List Oper} {o : Oper} {a : Act} {Q : Exit → Act → World → Prop}
/-- The look-up where it is known what comes. -/
theorem lookup_known (hg : o.guard = none) (m x : Operand) (t : TypeId) (hop : o.op = Op.lookup t m x true)
    (k e : TypeId) (K : Keyed P k) (ht : P.underlying t = some (.map k e)) (he : P.underlying e = some (.int .i64)) (hz : (zeroValue e).run P w = .ok (.int .i64 0) w) (b n : Nat) (D : DataW Unit)
    (hm : a.eval m = .map (some b)) (hown : w.ownsMap P k (plainElem P e) b n D) (key : Value) (kl : Lit) (hx : a.eval x = key) (hkey : keyOf P k key = some kl)
    (v : Int) (ok : Bool) (hok : Maps.has D kl = ok) (hv : D.atKey kl (.lit (.int .i64 0)) = .lit (.int .i64 v))
    (hK : wpList P ops Q rest (a.put o.dst (.tuple #[.int .i64 v, .bool ok])) w) :
    wpList P ops Q (o :: rest) a w :=
  wpList_lookup_own_ok_int w hg m x t hop k e .i64 K ht he hz b n D hm hown key kl hx hkey (fun c hat _ => by
    rw [hv] at hat; simp at hat; subst hat; rw [hok]; exact hK)
end
/-- The class and the state of record i. -/
def cOf (R : List Rec) (i : Nat) : Int := ((R[i]?).map (·.c)).getD 0
def sOf (R : List Rec) (i : Nat) : Int := ((R[i]?).map (·.st)).getD 0
theorem cOf_eq {R : List Rec} {i : Nat} {r : Rec} (h : R[i]? = some r) : cOf R i = r.c := by simp [cOf, h]
theorem sOf_eq {R : List Rec} {i : Nat} {r : Rec} (h : R[i]? = some r) : sOf R i = r.st := by simp [sOf, h]
theorem zero3 (w : World) : (zeroValue 3).run Tryf.prog w = .ok (.int .i64 0) w := by kernel_rfl
theorem info93 : (Tryf.prog.info? 93).map (·.size) = some 17 := by kernel_rfl

/-- What has been collected: the winners of the classes that are no longer to come. -/
def Coll (D : DataW Unit) (f : Int → Option Nat) (left : Lit → Bool) (zs : List Int) : Prop :=
  zs.Nodup ∧ (∀ z, z ∈ zs ↔ ∃ c j, 0 ≤ c ∧ c < 8 ∧ f c = some j ∧ left (kl c) = false ∧ z = (j : Int)) ∧ ∀ l, left l = true → Maps.has D l = true
theorem Coll.start {D : DataW Unit} {f : Int → Option Nat} (h : Tells D f) : Coll D f (Maps.has D) [] := by
  refine ⟨List.nodup_nil, fun z => ⟨fun h => (by cases h), ?_⟩, fun l h => h⟩
  rintro ⟨c, j, h0, h8, hf, hl, rfl⟩
  rw [(h.1 c h0 h8 j hf).2] at hl
  cases hl
theorem kl_same (c : Int) : (kl c).sameKey (kl c) = true := by simp [kl, Lit.sameKey]
theorem Coll.step {D : DataW Unit} {C S : Nat → Int} {n : Nat} {left : Lit → Bool} {zs : List Int} (h : Coll D (win C S n) left zs) {c : Int} (h0 : 0 ≤ c) (h8 : c < 8) {j : Nat} (hf : win C S n c = some j) (hl : left (kl c) = true) :
    Coll D (win C S n) (fun z => left z && !z.sameKey (kl c)) (zs ++ [(j : Int)]) := by
  obtain ⟨h1, h2, h3⟩ := h
  refine ⟨?_, fun z => ?_, fun l hl' => ?_⟩
  · rw [List.nodup_append]
    refine ⟨h1, by simp, fun a ha b hb => ?_⟩
    simp at hb; subst hb
    rintro rfl
    obtain ⟨c', j', _, _, hf', hl', he⟩ := (h2 _).1 ha
    have : j = j' := by omega
    subst this
    rw [← (win_lt hf').2, (win_lt hf).2, hl] at hl'
    cases hl'
  · rw [List.mem_append, h2 z]
    constructor
    · rintro (⟨c', j', a, b, d, e, rfl⟩ | hz)
      · exact ⟨c', j', a, b, d, by simp [e], rfl⟩
      · simp at hz; subst hz
        exact ⟨c, j, h0, h8, hf, by simp [kl_same], rfl⟩
    · rintro ⟨c', j', a, b, d, e, rfl⟩
      by_cases hc : c' = c
      · subst hc
        rw [hf] at d; cases d
        exact .inr (by simp)
      · refine .inl ⟨c', j', a, b, d, ?_, rfl⟩
        have hne : kl c' ≠ kl c := fun he => hc (kl_inj a b h0 h8 he)
        simpa [sameKey_ne hne] using e
  · simp at hl'
    exact h3 l hl'.1
theorem Coll.done {D : DataW Unit} {C S : Nat → Int} {n : Nat} {left : Lit → Bool} {zs : List Int} (h : Coll D (win C S n) left zs) (hC : ∀ i, i < n → 0 ≤ C i ∧ C i < 8) (hl : ∀ l, left l = false) :
    zs.mergeSort (fun x y => decide (x ≤ y)) = (winners C S n).map (fun p : Nat => (p : Int)) := by
  refine sorted_winners h.1 fun z => ?_
  rw [h.2.1 z]
  constructor
  · rintro ⟨c, j, _, _, hf, _, rfl⟩
    exact ⟨j, mem_winners.2 ⟨c, hf⟩, rfl⟩
  · rintro ⟨p, hp, rfl⟩
    obtain ⟨c, hf⟩ := mem_winners.1 hp
    obtain ⟨h1, h2⟩ := win_lt hf
    obtain ⟨h3, h4⟩ := hC p h1
    rw [h2] at h3 h4
    exact ⟨c, p, h3, h4, hf, hl _, rfl⟩
theorem make40 (M : Nat) (hM : M ≤ 4096) (w : World) : (Instr.makeSlice 40 (.int .i64 0) (.int .i64 (M : Int))).run Tryf.prog w = .ok (.slice (some ⟨w.heap.size, 0, none⟩) 0 M) (w.alloc (.cells (madeCells #[.int .i64 0] M) 3)) := by
  obtain ⟨i0, hi, hz0, hz1, hz2⟩ := info_parts info3
  have hmk := run_make (P := Tryf.prog) w 40 3 i0 _ Tryf.underlying40 hi hz0 .i64 .i64 0 (M : Int) (by omega) (by omega) (by rw [hz2]; omega) (by omega)
  rw [hz1] at hmk
  simp only [Int.toNat_natCast, Int.toNat_zero, Nat.mul_one] at hmk
  exact hmk

theorem grown_setCells (b : Nat) : ∀ (vs : List Value) (o : Nat) (w : World), w.grownBy (w.setCells b o vs) (some b)
  | [], _, w => ⟨rfl, rfl, rfl, Nat.le_refl _, fun _ _ _ => rfl⟩
  | v :: r, o, w => by
    have h1 : w.grownBy (w.setCell ⟨b, o, none⟩ v) (some b) := ⟨rfl, rfl, rfl, by simp [World.setCell], fun k hk hne => Below.heap_setCell _ _ _ _ (fun e => hne (by rw [e]))⟩
    have h2 := grown_setCells b r (o + 1) (w.setCell ⟨b, o, none⟩ v)
    exact h1.trans h2
theorem index40 {g n c k : Nat} (hk : k < n) (wx : World) :
    (Instr.indexAt 40 (.slice (some ⟨g, 0, none⟩) n c) (.int .i64 (k : Int))).run Tryf.prog wx = .ok (.pointer (some ⟨g, k, none⟩)) wx := by
  simp [Instr.indexAt, run_underlying Tryf.underlying40, asIntOf, hk, Addr.add_lit]
theorem picked {R : List Rec} {ws : List Nat} (h : ∀ p ∈ ws, p < R.length) {q p : Nat} (hq : ws[q]? = some p) : (ws.filterMap fun p => R[p]?)[q]? = R[p]? := by
  induction ws generalizing q with
  | nil => simp at hq
  | cons a ws ih =>
    have ha : a < R.length := h a (by simp)
    rw [List.filterMap_cons, List.getElem?_eq_getElem ha]
    cases q with
    | zero => simp at hq; subst hq; simp [List.getElem?_eq_getElem ha]
    | succ q => simpa using ih (fun p hp => h p (by simp [hp])) (by simpa using hq)

set_option maxRecDepth 100000 in
set_option maxHeartbeats 6400000 in
theorem current (s rg n cap bb : Nat) (R : List Rec) (hR : R.length = n) (hn : n ≤ 4096) (hc : ∀ r ∈ R, 0 ≤ r.c ∧ r.c < 8) (w : World)
    (hs : w.cell? ⟨s, 1, none⟩ = some (.slice (some ⟨rg, 0, none⟩) n cap)) (hr : ∀ i r, R[i]? = some r → w.rangeAt rg (i * 22) (rc r (dv bb r))) :
    Calls Tryf.prog 46 #[.pointer (some ⟨s, 0, none⟩)] w fun e w' => ∃ g m, e = .returned (.slice (some ⟨g, 0, none⟩) m m) ∧ m = (winners (cOf R) (sOf R) n).length ∧ w.heap.size ≤ g ∧
      RecUp w' g m m bb ((winners (cOf R) (sOf R) n).filterMap fun p => R[p]?) ∧ Below w.heap.size w w' := by
  have hmm := @run_makeMap Tryf.prog
  have HL : Hid (R.length = n) := hR
  have HC : Hid (∀ r ∈ R, 0 ≤ r.c ∧ r.c < 8) := hc
  have HR : Hid (∀ i r, R[i]? = some r → w.rangeAt rg (i * 22) (rc r (dv bb r))) := hr
  have HS : Hid (w.cell? ⟨s, 1, none⟩ = some (.slice (some ⟨rg, 0, none⟩) n cap)) := hs
  have hslt : s < w.heap.size := World.block_lt_of_cell? w _ hs
  have HRL : Hid (0 < n → rg < w.heap.size) := fun h => by
    obtain ⟨r, hr0⟩ : ∃ r, R[0]? = some r := ⟨_, List.getElem?_eq_getElem (by omega)⟩
    exact World.block_lt_of_cell? w _ ((hr 0 r hr0) 0 _ rfl)
  have hs1 : (w.alloc (.map #[] 0)).cell? ⟨s, 1, none⟩ = some (.slice (some ⟨rg, 0, none⟩) n cap) := by rw [World.cell?_alloc_lt _ _ _ hslt]; exact hs
  clear hR hc hr hs
  go_enter Tryf.func46, Tryf.ntmps46
  go_wp2_with fail
  go_loopw [21] (fun i wr => ∃ (k : Nat) (D : DataW Unit), k ≤ n ∧ i = .int .i64 (k : Int) ∧ wr.ownsMap Tryf.prog 93 (plainElem Tryf.prog 3) w.heap.size k D ∧ Tells D (win (cOf R) (sOf R) k) ∧ w.heap.size < wr.heap.size ∧ Below w.heap.size w wr) (fun i _ => n - (intOf i).toNat)
  case atStart => exact ⟨0, .map [], Nat.zero_le _, rfl, World.ownsMap_made _ _ _ _, Tells.start, by simp, (Below.refl _ _).alloc (Nat.le_refl _) _⟩
  case round =>
    obtain ⟨k, D, hk, rfl, hown, htells, hsz, hb⟩ := hrel
    have HO : Hid (wr.ownsMap Tryf.prog 93 (plainElem Tryf.prog 3) w.heap.size k D) := hown
    have HT : Hid (Tells D (win (cOf R) (sOf R) k)) := htells
    have HB : Hid (Below w.heap.size w wr) := hb
    have HSZ : Hid (w.heap.size < wr.heap.size) := hsz
    clear hown htells hb hsz hs1
    by_cases hlt : k < n
    · have hi : (k : Int) < (n : Int) := by omega
      obtain ⟨r, hrk⟩ : ∃ r, R[k]? = some r := ⟨_, List.getElem?_eq_getElem (by rw [HL.out]; exact hlt)⟩
      have hrg := HRL.out (by omega)
      have hcz : wr.rangeAt rg (k * 22) (rc r (dv bb r)) := range_below (HR.out k r hrk) HB.out hrg
      have hix := index65 (g := rg) (c := cap) hlt
      obtain ⟨hc0, hc8⟩ := HC.out r (List.mem_of_getElem? hrk)
      have HCK : Hid (cOf R k = r.c) := cOf_eq hrk
      obtain ⟨C0, hC0⟩ : ∃ C0 : List Value, C0 = rc r (dv bb r) := ⟨_, rfl⟩
      have HC0 : Hid (C0 = rc r (dv bb r)) := hC0
      have hC0s : C0.length = 22 := by rw [hC0]; rfl
      have hst0 : ∀ c : Array Value, c.size = 22 → (storeCells ⟨wr.heap.size, 0, none⟩ C0).run Tryf.prog (wr.alloc (.cells c 70)) = .ok () (wr.alloc (.cells C0.toArray 70)) := fun c hc => by
        have := run_storeCells_new (P := Tryf.prog) wr 70 c C0.toArray (by rw [info70]; simp [hC0s]) (by simp [hC0s, hc]) (by rw [hC0]; exact all_oneCell_toArray (by simp [rc, dv, Value.oneCell']))
        simpa using this
      have HCZ : Hid (wr.rangeAt rg (k * 22) C0) := by rw [hC0]; exact hcz
      clear hC0 hcz hrk hmm
      go_upto_region 5 with (refine wpList_load_mid rfl 70 (.tmp 24) rfl rg (k * 22) rfl C0 _ HCZ.out Tryf.underlying70 rfl (by rw [info70, hC0s]) ?_)
      obtain ⟨W, hW⟩ : ∃ W, W = wr.alloc (.cells C0.toArray 70) := ⟨_, rfl⟩
      rw [← hW]
      have hWs : W.heap.size = wr.heap.size + 1 := by rw [hW]; simp
      have cz : W.rangeAt wr.heap.size 0 (rc r (dv bb r)) := by
        rw [hW, HC0.out]
        intro j v hv
        rw [Nat.zero_add, cell_of_row _ _ _ _ _ _ (heap_alloc_last wr _)]
        simpa using hv
      have c3 : W.cell? ⟨wr.heap.size, 3, none⟩ = some (.string r.nm) := cz 3 _ rfl
      have c4 : W.cell? ⟨wr.heap.size, 4, none⟩ = some (.int .u8 r.g) := cz 4 _ rfl
      have c5 : W.cell? ⟨wr.heap.size, 5, none⟩ = some (.int .u8 0) := cz 5 _ rfl
      have c6 : W.cell? ⟨wr.heap.size, 6, none⟩ = some (.int .u8 0) := cz 6 _ rfl
      have c7 : W.cell? ⟨wr.heap.size, 7, none⟩ = some (.int .u8 0) := cz 7 _ rfl
      have c8 : W.cell? ⟨wr.heap.size, 8, none⟩ = some (.int .u8 0) := cz 8 _ rfl
      have c9 : W.cell? ⟨wr.heap.size, 9, none⟩ = some (.int .u8 0) := cz 9 _ rfl
      have c10 : W.cell? ⟨wr.heap.size, 10, none⟩ = some (.int .u8 0) := cz 10 _ rfl
      have c11 : W.cell? ⟨wr.heap.size, 11, none⟩ = some (.int .u8 0) := cz 11 _ rfl
      have c12 : W.cell? ⟨wr.heap.size, 12, none⟩ = some (.int .u8 0) := cz 12 _ rfl
      have c13 : W.cell? ⟨wr.heap.size, 13, none⟩ = some (.int .u8 0) := cz 13 _ rfl
      have c14 : W.cell? ⟨wr.heap.size, 14, none⟩ = some (.int .u8 0) := cz 14 _ rfl
      have c15 : W.cell? ⟨wr.heap.size, 15, none⟩ = some (.int .u8 0) := cz 15 _ rfl
      have c16 : W.cell? ⟨wr.heap.size, 16, none⟩ = some (.int .u8 0) := cz 16 _ rfl
      have c17 : W.cell? ⟨wr.heap.size, 17, none⟩ = some (.int .u8 0) := cz 17 _ rfl
      have c18 : W.cell? ⟨wr.heap.size, 18, none⟩ = some (.int .u8 0) := cz 18 _ rfl
      have c19 : W.cell? ⟨wr.heap.size, 19, none⟩ = some (.int .u8 0) := cz 19 _ rfl
      have HW : Hid (W.ownsMap Tryf.prog 93 (plainElem Tryf.prog 3) w.heap.size k D ∧ Below w.heap.size w W) := by
        rw [hW]; exact ⟨HO.out.alloc _, HB.out.alloc HB.out.size _⟩
      obtain ⟨KC, hKC⟩ : ∃ KC : Array Value, (#[.string r.nm, .int .u8 r.g, .int .u8 0, .int .u8 0, .int .u8 0, .int .u8 0, .int .u8 0, .int .u8 0, .int .u8 0, .int .u8 0, .int .u8 0, .int .u8 0, .int .u8 0, .int .u8 0, .int .u8 0, .int .u8 0, .int .u8 0] : Array Value) = KC := ⟨_, rfl⟩
      have HKC : Hid (KC = (kc r.c).toArray) := hKC.symm
      have hKCs : KC.size = 17 := by rw [← hKC]; rfl
      have hk2 : KC.setIfInBounds 2 (.int .u8 0) = KC := by rw [← hKC]; rfl
      have hk3 : KC.setIfInBounds 3 (.int .u8 0) = KC := by rw [← hKC]; rfl
      have hk4 : KC.setIfInBounds 4 (.int .u8 0) = KC := by rw [← hKC]; rfl
      have hk5 : KC.setIfInBounds 5 (.int .u8 0) = KC := by rw [← hKC]; rfl
      have hk6 : KC.setIfInBounds 6 (.int .u8 0) = KC := by rw [← hKC]; rfl
      have hk7 : KC.setIfInBounds 7 (.int .u8 0) = KC := by rw [← hKC]; rfl
      have hk8 : KC.setIfInBounds 8 (.int .u8 0) = KC := by rw [← hKC]; rfl
      have hk9 : KC.setIfInBounds 9 (.int .u8 0) = KC := by rw [← hKC]; rfl
      have hk10 : KC.setIfInBounds 10 (.int .u8 0) = KC := by rw [← hKC]; rfl
      have hk11 : KC.setIfInBounds 11 (.int .u8 0) = KC := by rw [← hKC]; rfl
      have hk12 : KC.setIfInBounds 12 (.int .u8 0) = KC := by rw [← hKC]; rfl
      have hk13 : KC.setIfInBounds 13 (.int .u8 0) = KC := by rw [← hKC]; rfl
      have hk14 : KC.setIfInBounds 14 (.int .u8 0) = KC := by rw [← hKC]; rfl
      have hk15 : KC.setIfInBounds 15 (.int .u8 0) = KC := by rw [← hKC]; rfl
      have hk16 : KC.setIfInBounds 16 (.int .u8 0) = KC := by rw [← hKC]; rfl
      have hst1 : ∀ c : Array Value, c.size = 17 → (storeCells ⟨wr.heap.size + 1, 0, none⟩ KC.toList).run Tryf.prog (W.alloc (.cells c 93)) = .ok () (W.alloc (.cells KC 93)) := fun c hc => by
        have := run_storeCells_new (P := Tryf.prog) W 93 c KC (by rw [info93]; simp [hKCs]) (by simp [hKCs, hc]) (by rw [← hKC]; simp [Value.oneCell'])
        rw [hWs] at this
        exact this
      clear cz hst0 hC0s HC0 hW HCZ
      go_upto_region 6 with fail
      obtain ⟨W2, hW2⟩ : ∃ W2, W2 = W.alloc (.cells KC 93) := ⟨_, rfl⟩
      rw [← hW2]
      have HK2 : Hid (W2.rangeAt (wr.heap.size + 1) 0 KC.toList) := by
        rw [hW2]
        intro j v hv
        rw [Nat.zero_add, ← hWs, cell_of_row _ _ _ _ _ _ (heap_alloc_last W _)]
        simpa using hv
      have HW2 : Hid (W2.ownsMap Tryf.prog 93 (plainElem Tryf.prog 3) w.heap.size k D ∧ Below w.heap.size w W2 ∧ w.heap.size < W2.heap.size) := by
        rw [hW2]; refine ⟨HW.out.1.alloc _, HW.out.2.alloc HW.out.2.size _, ?_⟩
        have := HSZ.out; simp; omega
      have hs2 : W2.cell? ⟨s, 1, none⟩ = some (.slice (some ⟨rg, 0, none⟩) n cap) := by rw [HW2.out.2.1.cell (p := ⟨s, 1, none⟩) hslt]; exact HS.out
      have hkey : Hid (keyOf Tryf.prog 93 (.agg KC) = some (kl r.c)) := by rw [HKC.out]; exact key_of hc0 hc8
      have hagg : (Value.agg KC.toList.toArray) = Value.agg KC := by simp
      clear c3 c4 c5 c6 c7 c8 c9 c10 c11 c12 c13 c14 c15 c16 c17 c18 c19 hk2 hk3 hk4 hk5 hk6 hk7 hk8 hk9 hk10 hk11 hk12 hk13 hk14 hk15 hk16 hst1 hW2 HW hWs HKC hKC
      cases hw : win (cOf R) (sOf R) k r.c with
      | some j =>
        have HWJ : Hid (win (cOf R) (sOf R) k (cOf R k) = some j) := by rw [HCK.out]; exact hw
        obtain ⟨hv1, hv2⟩ := HT.out.1 r.c hc0 hc8 j hw
        have HV1 : Hid (D.atKey (kl r.c) (.lit (.int .i64 0)) = .lit (.int .i64 (j : Int))) := hv1 _
        have HV2 : Hid (Maps.has D (kl r.c) = true) := hv2
        have hjk : j < k := (win_lt hw).1
        obtain ⟨rj, hrj⟩ : ∃ rj, R[j]? = some rj := ⟨_, List.getElem?_eq_getElem (by rw [HL.out]; omega)⟩
        have hcj : W2.cell? ⟨rg, j * 22 + 2, none⟩ = some (.int .u8 (sOf R j)) := by
          rw [HW2.out.2.1.cell (p := ⟨rg, j * 22 + 2, none⟩) hrg, sOf_eq hrj]
          exact HR.out j rj hrj 2 _ rfl
        have hixj := index65 (g := rg) (n := n) (c := cap) (k := j) (by omega)
        have hij : (j : Int) < (n : Int) := by omega
        clear hw hv1 hv2 hrj
        by_cases h63 : sOf R j = 63
        · have e63 : (sOf R j == 63) = true := by simp [h63]
          have HTK : Hid (Tells D (win (cOf R) (sOf R) (k + 1))) := HT.out.congr fun c => win_keep HWJ.out h63 c
          clear h63
          go_wp2_with (first
            | (at_lookup; refine lookup_known _ rfl _ _ 91 rfl 93 3 keyed Tryf.underlying91 Tryf.underlying3 (zero3 _) w.heap.size k D rfl HW2.out.1 _ (kl r.c) rfl hkey.out (j : Int) true HV2.out HV1.out ?_)
            | (refine wpList_load_mid rfl 93 (.tmp 6) rfl (wr.heap.size + 1) 0 rfl KC.toList _ HK2.out Tryf.underlying93 rfl (by rw [info93, Array.length_toList, hKCs]) ?_))
          go_roundw
          case rel => exact ⟨k + 1, D, by omega, by go_num, HW2.out.1.mono (by omega), HTK.out, HW2.out.2.2, HW2.out.2.1⟩
          case measure => simp [intOf]; omega
        · have e63 : (sOf R j == 63) = false := by simp [h63]
          have HTK : Hid (Tells (D.put (kl r.c) (.lit (.int .i64 (k : Int)))) (win (cOf R) (sOf R) (k + 1))) := by
            refine (HT.out.put HW2.out.1.isMap hc0 hc8 k).congr fun c => ?_
            rw [← HCK.out]
            exact win_new (fun i hi => by rw [HWJ.out] at hi; cases hi; exact h63) c
          clear h63
          go_wp2_with (first
            | (at_lookup; refine lookup_known _ rfl _ _ 91 rfl 93 3 keyed Tryf.underlying91 Tryf.underlying3 (zero3 _) w.heap.size k D rfl HW2.out.1 _ (kl r.c) rfl hkey.out (j : Int) true HV2.out HV1.out ?_)
            | (at_mapUpdate; refine wpList_mapUpdate_own _ rfl _ _ _ 91 rfl 93 3 keyed Tryf.underlying91 _ w.heap.size k D rfl HW2.out.1 (by unfold maxLen; omega) _ _ (kl r.c) rfl rfl hkey.out _ [] (plainElem_int Tryf.underlying3 (WalkArith.wf_i64 (by omega))) ?_; intro w1 hown1 hgrow1)
            | (refine wpList_load_mid rfl 93 (.tmp 6) rfl (wr.heap.size + 1) 0 rfl KC.toList _ HK2.out Tryf.underlying93 rfl (by rw [info93, Array.length_toList, hKCs]) ?_))
          go_roundw
          case rel =>
            have hsz1 := hgrow1.size
            have hsz2 := HW2.out.2.2
            exact ⟨k + 1, _, by omega, by go_num, hown1, HTK.out, by omega, HW2.out.2.1.grown hgrow1 HW2.out.2.1.size (fun j hj => by cases hj; exact Nat.le_refl _)⟩
          case measure => simp [intOf]; omega
      | none =>
        have HV2 : Hid (Maps.has D (kl r.c) = false) := HT.out.2.1 r.c hc0 hc8 hw
        have HV1 : Hid (D.atKey (kl r.c) (.lit (.int .i64 0)) = .lit (.int .i64 0)) := atKey_of_not_has HV2.out _
        have HTK : Hid (Tells (D.put (kl r.c) (.lit (.int .i64 (k : Int)))) (win (cOf R) (sOf R) (k + 1))) := by
          refine (HT.out.put HW2.out.1.isMap hc0 hc8 k).congr fun c => ?_
          rw [← HCK.out]
          exact win_new (fun i hi => by rw [HCK.out, hw] at hi; cases hi) c
        clear hw
        go_wp2_with (first
          | (at_lookup; refine lookup_known _ rfl _ _ 91 rfl 93 3 keyed Tryf.underlying91 Tryf.underlying3 (zero3 _) w.heap.size k D rfl HW2.out.1 _ (kl r.c) rfl hkey.out 0 false HV2.out HV1.out ?_)
          | (at_mapUpdate; refine wpList_mapUpdate_own _ rfl _ _ _ 91 rfl 93 3 keyed Tryf.underlying91 _ w.heap.size k D rfl HW2.out.1 (by unfold maxLen; omega) _ _ (kl r.c) rfl rfl hkey.out _ [] (plainElem_int Tryf.underlying3 (WalkArith.wf_i64 (by omega))) ?_; intro w1 hown1 hgrow1)
          | (refine wpList_load_mid rfl 93 (.tmp 6) rfl (wr.heap.size + 1) 0 rfl KC.toList _ HK2.out Tryf.underlying93 rfl (by rw [info93, Array.length_toList, hKCs]) ?_))
        go_roundw
        case rel =>
          have hsz1 := hgrow1.size
          have hsz2 := HW2.out.2.2
          exact ⟨k + 1, _, by omega, by go_num, hown1, HTK.out, by omega, HW2.out.2.1.grown hgrow1 HW2.out.2.1.size (fun j hj => by cases hj; exact Nat.le_refl _)⟩
        case measure => simp [intOf]; omega
    · have hd : decide ((k : Int) < (n : Int)) = false := by simp; omega
      obtain rfl : k = n := by omega
      have hM : Maps.size D ≤ k := HO.out.size_le
      have hmk := make40 (Maps.size D) (by omega)
      obtain ⟨i0, hi3, hz0, hz1, hz2⟩ := info_parts info3
      clear hmm
      go_wp2_with (first
        | (at_len; refine wpList_len_own _ rfl _ 91 rfl 93 3 Tryf.underlying91 _ w.heap.size k D rfl HO.out ?_)
        | (at_range; refine wpList_range_own _ rfl _ 91 rfl 93 3 keyed Tryf.underlying91 _ w.heap.size k D rfl (HO.out.alloc _) ?_; intro w0 hrg0 hg0 hs0))
      go_frame
      have e1 : (wr.alloc (.cells (madeCells #[.int .i64 0] (Maps.size D)) 3)).heap.size = wr.heap.size + 1 := by simp
      rw [e1] at hrg0 hs0
      try rw [e1]
      have HROW : Hid (w0.ownsRow (w.heap.size + 1) 3 1 (.slice (some ⟨wr.heap.size, 0, none⟩) 0 (Maps.size D)) 0 []) :=
        (World.ownsRow_made wr _ (Maps.size D) HSZ.out (by unfold maxLen; omega) (by rw [size_madeCells]; simp)).kept hg0 (.inr (by simp [Value.ownBlock]))
      have HB0 : Hid (Below w.heap.size w w0) := (HB.out.alloc HB.out.size _).grown hg0 (by have := HSZ.out; simp; omega) (fun j hj => by cases hj)
      have HRG0 : Hid (w0.ranges Tryf.prog 93 (plainElem Tryf.prog 3) w.heap.size (wr.heap.size + 1) k D (Maps.has D) (Maps.size D)) := hrg0
      have HS0 : Hid (w0.heap.size = wr.heap.size + 2) := hs0
      obtain ⟨H1, hH1⟩ : ∃ H1, H1 = wr.heap.size := ⟨_, rfl⟩
      rw [← hH1] at HROW HRG0 HS0 HSZ
      rw [← hH1]
      clear hmk e1 hrg0 hg0 hs0 HO HB hH1
      go_loopw [9] (fun v wx => ∃ (left : Lit → Bool) (cnt : Nat) (zs : List Int) (g cp : Nat), wx.ranges Tryf.prog 93 (plainElem Tryf.prog 3) w.heap.size (H1 + 1) k D left cnt ∧ v = .slice (some ⟨g, 0, none⟩) zs.length cp ∧ wx.ownsRow (w.heap.size + 1) 3 1 (.slice (some ⟨g, 0, none⟩) zs.length cp) zs.length (zs.map (Value.int .i64)) ∧ g ≠ H1 + 1 ∧ Coll D (win (cOf R) (sOf R) k) left zs ∧ zs.length + cnt ≤ k ∧ H1 + 1 < wx.heap.size ∧ Below w.heap.size w wx) (fun _ wx => wx.rangeLeft w.heap.size (H1 + 1))
      case atStart => exact ⟨Maps.has D, Maps.size D, [], H1, Maps.size D, HRG0.out, rfl, HROW.out, by omega, Coll.start HT.out, by simpa using hM, by have := HS0.out; omega, HB0.out⟩
      case round =>
        obtain ⟨left, cnt, zs, g, cp, hrg, rfl, hrow, hgne, hcoll, hcnt, hsz, hb⟩ := hrel
        rename_i wq _
        have HRG : Hid (wr.ranges Tryf.prog 93 (plainElem Tryf.prog 3) w.heap.size (H1 + 1) k D left cnt) := hrg
        have HROW1 : Hid (wr.ownsRow (w.heap.size + 1) 3 1 (.slice (some ⟨g, 0, none⟩) zs.length cp) zs.length (zs.map (Value.int .i64))) := hrow
        have HCO : Hid (Coll D (win (cOf R) (sOf R) k) left zs) := hcoll
        have HB1 : Hid (Below w.heap.size w wr) := hb
        have HSZ1 : Hid (H1 + 1 < wr.heap.size) := hsz
        clear hrg hrow hcoll hb hsz HROW HRG0 HB0 HS0
        go_wp2_with (at_next; refine wpList_next_ranges _ rfl _ rfl 93 keyed (plainElem Tryf.prog 3) (fun v : Value => v) (Value.int .i64) (fun key _ _ => ⟨key, rfl⟩) (fun v y hv => by obtain ⟨c, rfl, _⟩ := plainElem_int_inv Tryf.underlying3 hv; exact ⟨c, rfl⟩) w.heap.size (H1 + 1) k D left cnt rfl HRG.out ?_ ?_)
        · intro hc0 hl0
          obtain ⟨cur, hbase, hgb, h1, h2, h3, h4⟩ : ∃ cur, w.heap.size + 1 ≤ g ∧ wr.heap[g]? = some (.cells cur 3 (0, 0)) ∧ zs.length ≤ cp ∧ cp ≤ maxLen ∧ cur.size = cp * 1 ∧ cur.toList.take (zs.length * 1) = zs.map (Value.int .i64) := by
            rcases HROW1.out.2 with ⟨h, _⟩ | ⟨g', cap', cur, hv, a1, a2, a3, a4, a5, a6⟩
            · cases h
            · cases hv; exact ⟨cur, a1, a2, a3, a4, a5, a6⟩
          have hH : Hid (Sort.Holds (Value.int .i64) wr g 0 zs.toArray) := holds_of_blockI hgb (by simpa using h4)
          have hgl : g < wr.heap.size := (Array.getElem?_eq_some_iff.1 hgb).1
          have HDONE : Hid (zs.mergeSort (fun x y => decide (x ≤ y)) = (winners (cOf R) (sOf R) k).map (fun p : Nat => (p : Int))) := HCO.out.done (fun i hi => by
            obtain ⟨r, hri⟩ : ∃ r, R[i]? = some r := ⟨_, List.getElem?_eq_getElem (by rw [HL.out]; exact hi)⟩
            rw [cOf_eq hri]; exact HC.out r (List.mem_of_getElem? hri)) hl0
          have HOWN : Hid (∀ nn os, (Sort.grow (Sort.putRow (Value.int .i64) (Sort.ahead wr nn) g 0 (zs.mergeSort fun x y => decide (x ≤ y)).toArray) os).ownsRow (w.heap.size + 1) 3 1 (.slice (some ⟨g, 0, none⟩) zs.length cp) zs.length ((winners (cOf R) (sOf R) k).map (fun p : Nat => (p : Int)) |>.map (Value.int .i64))) := by
            intro nn os
            rw [← HDONE.out]
            exact ownsRow_sortedI (by simp) hbase hgb h1 h2 h3
          have HGROW : Hid (∀ nn os, Below w.heap.size w (Sort.grow (Sort.putRow (Value.int .i64) (Sort.ahead wr nn) g 0 (zs.mergeSort fun x y => decide (x ≤ y)).toArray) os)) := fun nn os =>
            HB1.out.grown (grownBy_sortedI _) HB1.out.size (fun j hj => by cases hj; omega)
          have HLEN : Hid (zs.length = (winners (cOf R) (sOf R) k).length) := by
            have := congrArg List.length HDONE.out
            simp at this
            exact this
          have hzn : zs.length ≤ 4096 := by omega
          have hz62 : zs.length < 4611686018427387904 := by omega
          clear hgb h3 h4 HROW1 HRG hl0 hc0
          go_wp2_with fail
          refine (Tryf.slices_Sort_int g 0 cp zs wr hH.out hgl hz62).mono ?_
          rintro e w' ⟨rfl, nn, os, hw'⟩
          have HOWN2 : Hid (w'.ownsRow (w.heap.size + 1) 3 1 (.slice (some ⟨g, 0, none⟩) zs.length cp) zs.length ((winners (cOf R) (sOf R) k).map (fun p : Nat => (p : Int)) |>.map (Value.int .i64))) := by rw [hw']; exact HOWN.out nn os
          have HB2 : Hid (Below w.heap.size w w') := by rw [hw']; exact HGROW.out nn os
          have hmk := make65 zs.length hzn
          clear hw' HOWN HGROW hH HB1 HSZ1 HCO hgl
          go_wp2_with fail
          obtain ⟨G, hG⟩ : ∃ G, G = w'.heap.size := ⟨_, rfl⟩
          obtain ⟨W3, hW3⟩ : ∃ W3, W3 = w'.alloc (.cells (mk70 zs.length) 70) := ⟨_, rfl⟩
          rw [← hG, ← hW3]
          have HOWN3 : Hid (W3.ownsRow (w.heap.size + 1) 3 1 (.slice (some ⟨g, 0, none⟩) zs.length cp) zs.length ((winners (cOf R) (sOf R) k).map (fun p : Nat => (p : Int)) |>.map (Value.int .i64))) := by rw [hW3]; exact HOWN2.out.alloc _
          have HB3 : Hid (Below w.heap.size w W3) := by rw [hW3]; exact HB2.out.alloc HB2.out.size _
          have HG : Hid (w.heap.size ≤ G ∧ g < G) := by
            rw [hG]
            exact ⟨HB2.out.size, (HOWN2.out.lt g rfl).2⟩
          have HTH : Hid (∀ i, i < zs.length → W3.there G (i * 22) 22) := fun i hi => by rw [hW3, hG]; exact there_made w' _ i hi
          clear hmk hG hW3 HOWN2 HB2
          go_loopw [75] (fun i wx => ∃ q : Nat, q ≤ zs.length ∧ i = .int .i64 (q : Int) ∧ RecUp wx G zs.length q bb ((winners (cOf R) (sOf R) k).filterMap fun p => R[p]?) ∧ wx.ownsRow (w.heap.size + 1) 3 1 (.slice (some ⟨g, 0, none⟩) zs.length cp) zs.length ((winners (cOf R) (sOf R) k).map (fun p : Nat => (p : Int)) |>.map (Value.int .i64)) ∧ Below w.heap.size w wx) (fun i _ => zs.length - (intOf i).toNat)
          case atStart => exact ⟨0, Nat.zero_le _, rfl, ⟨HTH.out, fun i r hi => by omega⟩, HOWN3.out, HB3.out⟩
          case round =>
            obtain ⟨q, hq, rfl, hup, how, hbq⟩ := hrel
            have HUP : Hid (RecUp wr G zs.length q bb ((winners (cOf R) (sOf R) k).filterMap fun p => R[p]?)) := hup
            have HOW : Hid (wr.ownsRow (w.heap.size + 1) 3 1 (.slice (some ⟨g, 0, none⟩) zs.length cp) zs.length ((winners (cOf R) (sOf R) k).map (fun p : Nat => (p : Int)) |>.map (Value.int .i64))) := how
            have HBQ : Hid (Below w.heap.size w wr) := hbq
            clear hup how hbq HOWN3 HB3 HTH
            by_cases hqlt : q < zs.length
            · have hqi : (q : Int) < (zs.length : Int) := by omega
              obtain ⟨p, hpq⟩ : ∃ p, (winners (cOf R) (sOf R) k)[q]? = some p := ⟨_, List.getElem?_eq_getElem (by rw [← HLEN.out]; exact hqlt)⟩
              have hpk : p < k := by
                obtain ⟨c, hc⟩ := mem_winners.1 (List.mem_of_getElem? hpq)
                exact (win_lt hc).1
              obtain ⟨r, hrp⟩ : ∃ r, R[p]? = some r := ⟨_, List.getElem?_eq_getElem (by rw [HL.out]; exact hpk)⟩
              have hcq : wr.cell? ⟨g, q, none⟩ = some (.int .i64 (p : Int)) := by
                rw [HOW.out.cellAt q (by omega)]
                simp [hpq]
              have hrg : rg < w.heap.size := HRL.out (by omega)
              have hs3 : wr.cell? ⟨s, 1, none⟩ = some (.slice (some ⟨rg, 0, none⟩) k cap) := by rw [HBQ.out.cell (p := ⟨s, 1, none⟩) hslt]; exact HS.out
              have hix := index40 (g := g) (c := cp) hqlt
              have hixp := index65 (g := rg) (c := cap) hpk
              have hixq := index65 (g := G) (c := zs.length) hqlt
              have hpi : (p : Int) < (k : Int) := by omega
              obtain ⟨C0, hC0⟩ : ∃ C0 : List Value, C0 = rc r (dv bb r) := ⟨_, rfl⟩
              have HC0 : Hid (C0 = rc r (dv bb r)) := hC0
              have hC0s : C0.length = 22 := by rw [hC0]; rfl
              have HCZ : Hid (wr.rangeAt rg (p * 22) C0) := by rw [hC0]; exact range_below (HR.out p r hrp) HBQ.out hrg
              have hst : (storeCells ⟨G, q * 22, none⟩ C0).run Tryf.prog wr = .ok () (wr.setCells G (q * 22) C0) := by
                have := st_open wr G (q * 22) C0.toArray (by simp [hC0s]) (by rw [hC0]; exact all_oneCell_toArray (by simp [rc, dv, Value.oneCell'])) (HUP.out.1 q hqlt)
                simpa using this
              have HUP2 : Hid (RecUp (wr.setCells G (q * 22) C0) G zs.length (q + 1) bb ((winners (cOf R) (sOf R) k).filterMap fun p => R[p]?)) := by
                rw [hC0]
                refine HUP.out.step hqlt ?_
                rw [picked (fun p hp => by
                  obtain ⟨c, hc⟩ := mem_winners.1 hp
                  rw [HL.out]; exact (win_lt hc).1) hpq]
                exact hrp
              have HOW2 : Hid ((wr.setCells G (q * 22) C0).ownsRow (w.heap.size + 1) 3 1 (.slice (some ⟨g, 0, none⟩) zs.length cp) zs.length ((winners (cOf R) (sOf R) k).map (fun p : Nat => (p : Int)) |>.map (Value.int .i64))) :=
                HOW.out.kept (grown_setCells G _ _ _) (.inr (by have := HG.out; simp [Value.ownBlock]; omega))
              have HBQ2 : Hid (Below w.heap.size w (wr.setCells G (q * 22) C0)) := below_setCells HG.out.1 _ _ _ HBQ.out
              clear hC0 hpq hrp HUP HOW HBQ
              go_wp2_with (refine wpList_load_mid rfl 70 (.tmp 87) rfl rg (p * 22) rfl C0 _ HCZ.out Tryf.underlying70 rfl (by rw [info70, hC0s]) ?_)
              go_roundw
              case rel => exact ⟨q + 1, by omega, by go_num, HUP2.out, HOW2.out, HBQ2.out⟩
              case measure => simp [intOf]; omega
            · have hqd : decide ((q : Int) < (zs.length : Int)) = false := by simp; omega
              have HQ : Hid (q = zs.length) := by unfold Hid; omega
              go_wp2_with fail
              go_ret
              exact ⟨G, zs.length, rfl, HLEN.out, HG.out.1, by have := HUP.out; rwa [HQ.out] at this, HBQ.out⟩
        · intro x c kl' yd yp w2 cnt2 hkey hlk hv hat hrg2 hlt2 hg2 hs2 hen
          obtain ⟨c', ec, ey, hwc⟩ := plainElem_int_inv Tryf.underlying3 hv
          cases ec; cases ey
          obtain ⟨c0, h0, h8, rfl⟩ := HT.out.2.2 kl' (HCO.out.2.2 kl' hlk)
          obtain ⟨j, hf⟩ : ∃ j, win (cOf R) (sOf R) k c0 = some j := by
            cases hf : win (cOf R) (sOf R) k c0 with
            | some j => exact ⟨j, rfl⟩
            | none =>
              have h1 := HT.out.2.1 c0 h0 h8 hf
              rw [HCO.out.2.2 _ hlk] at h1
              cases h1
          obtain rfl : c = (j : Int) := by
            have h1 := (HT.out.1 c0 h0 h8 j hf).1 (.lit (.int .i64 0))
            rw [hat] at h1
            simp at h1
            exact h1
          have HCO2 : Hid (Coll D (win (cOf R) (sOf R) k) (fun z => left z && !z.sameKey (kl c0)) (zs ++ [(j : Int)])) := HCO.out.step h0 h8 hf hlk
          have HROW2 : Hid (w2.ownsRow (w.heap.size + 1) 3 1 (.slice (some ⟨g, 0, none⟩) zs.length cp) zs.length (zs.map (Value.int .i64))) := HROW1.out.kept hg2 (.inr (by simp [Value.ownBlock]; exact hgne))
          have HRG2 : Hid (w2.ranges Tryf.prog 93 (plainElem Tryf.prog 3) w.heap.size (H1 + 1) k D (fun z => left z && !z.sameKey (kl c0)) cnt2) := hrg2
          have HBx : Hid (Below w.heap.size w w2) := HB1.out.grown hg2 HB1.out.size (fun j hj => by cases hj; have := HSZ.out; omega)
          have hsz2 : w.heap.size + 1 ≤ w2.heap.size := by have h1 := HSZ1.out; have h2 := HSZ.out; omega
          have HH1 : Hid (H1 + 1 < w2.heap.size) := by have h1 := HSZ1.out; unfold Hid; omega
          have HLT : Hid (cnt2 < cnt) := hlt2
          have HBASE : Hid (w.heap.size + 1 ≤ g) := by
            rcases HROW1.out.2 with ⟨h, _⟩ | ⟨g', cap', cur, hv, a1, _⟩
            · cases h
            · cases hv; exact a1
          clear hkey hlk hv hat hrg2 hlt2 hg2 hs2 hf hwc
          go_wp2_with (at_builtin; refine wpList_append_own_at _ rfl (.tmp 64) (.tmp 66) 40 rfl (w.heap.size + 1) 3 i0 (.int .i64 0) 1 8 Tryf.underlying40 hi3 hz0 hz1 hz2 rfl (by decide) (.slice (some ⟨g, 0, none⟩) zs.length cp) zs.length (zs.map (Value.int .i64)) rfl (HROW2.out.alloc _) ⟨w2.heap.size, 0, none⟩ 1 1 [.int .i64 (j : Int)] rfl rfl (cell_one_new _ _ _) (ints_oneCell .i64 [(j : Int)]) (by unfold maxLen; omega) (by omega) (by simp; omega) ?_; intro v' w3 hown' hgrow hnil hloc)
          have HOW3 : Hid (∃ g' cp', v' = .slice (some ⟨g', 0, none⟩) (zs ++ [(j : Int)]).length cp' ∧ w3.ownsRow (w.heap.size + 1) 3 1 (.slice (some ⟨g', 0, none⟩) (zs ++ [(j : Int)]).length cp') (zs ++ [(j : Int)]).length ((zs ++ [(j : Int)]).map (Value.int .i64)) ∧ g' ≠ H1 + 1) := by
            rcases hown'.2 with ⟨_, h⟩ | ⟨g', cp', cur, rfl, _⟩
            · omega
            · refine ⟨g', cp', by simp, by simpa using hown', ?_⟩
              have h1 := HH1.out
              rcases hloc with h | h <;> simp [Value.ownBlock] at h <;> omega
          have HRG3 : Hid (w3.ranges Tryf.prog 93 (plainElem Tryf.prog 3) w.heap.size (H1 + 1) k D (fun z => left z && !z.sameKey (kl c0)) cnt2) :=
            (HRG2.out.alloc _).kept hgrow (by have := HBASE.out; simp [Value.ownBlock]; omega) (by simp [Value.ownBlock]; omega)
          have HB3 : Hid (Below w.heap.size w w3) := (HBx.out.alloc (by omega) _).grown hgrow (by simp; omega) (fun j hj => by have := HBASE.out; simp [Value.ownBlock] at hj; omega)
          have HS3 : Hid (H1 + 1 < w3.heap.size) := by have h1 := hgrow.size; have h2 := HH1.out; simp at h1; unfold Hid; omega
          clear hown' hgrow hnil hloc HROW2 HRG2 HBx
          go_wp2_with fail
          go_roundw
          case rel =>
            obtain ⟨g', cp', e1, e2, e3⟩ := HOW3.out
            exact ⟨_, cnt2, zs ++ [(j : Int)], g', cp', HRG3.out, e1, e2, e3, HCO2.out, by have := HLT.out; simp; omega, HS3.out, HB3.out⟩
          case measure => rw [HRG3.out.left_eq, HRG.out.left_eq]; exact HLT.out
end Go.Proofs.Qxb6003952aFmt
