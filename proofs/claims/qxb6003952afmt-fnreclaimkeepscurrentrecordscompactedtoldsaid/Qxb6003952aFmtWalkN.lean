/- The walk of reclaim: the kept records go over. -/
import Derived.Test.Qxb6003952aFmtWalkM
namespace Go.Proofs.Qxb6003952aFmt
open Go.RowKit Go.Extern.Stop Go.Stop Go.Extern
set_option linter.unusedVariables false

theorem range_set {w : World} {b o : Nat} {cs : List Value} (h : w.rangeAt b o cs) (j : Nat) (hj : j < cs.length) (v : Value) : (w.setCell ⟨b, o + j, none⟩ v).rangeAt b o (cs.set j v) := by
  intro i u hu
  by_cases e : i = j
  · subst e
    rw [List.getElem?_set_self hj] at hu
    cases hu
    exact World.cell?_setCell_same _ _ _ (h i _ (List.getElem?_eq_getElem hj))
  · rw [List.getElem?_set_ne (fun h => e h.symm)] at hu
    rw [World.cell?_setCell_other _ ⟨b, o + j, none⟩ ⟨b, o + i, none⟩ _ (fun he => e (by have := congrArg Addr.off he; simp at this; omega))]
    exact h i u hu
theorem patched {w : World} {H : Nat} {r : Rec} {d d' : Value} (fr l : Nat) (h : w.rangeAt H 0 (rc r d)) :
    (((w.setCell ⟨H, 0, none⟩ (.int .i64 (fr : Int))).setCell ⟨H, 1, none⟩ (.int .i64 ((fr : Int) + (l : Int)))).setCell ⟨H, 21, none⟩ d').rangeAt H 0 (rc { r with off := fr, en := fr + l } d') := by
  have h1 := range_set h 0 (by rw [len_rc]; omega) (.int .i64 (fr : Int))
  have h2 := range_set h1 1 (by rw [List.length_set, len_rc]; omega) (.int .i64 ((fr : Int) + (l : Int)))
  have h3 := range_set h2 21 (by rw [List.length_set, List.length_set, len_rc]; omega) d'
  exact h3
theorem there_of_block {w w' : World} {b o n : Nat} (e : w'.heap[b]? = w.heap[b]?) (h : w.there b o n) : w'.there b o n := fun j hj => by
  obtain ⟨h1, h2⟩ := h j hj
  exact ⟨by rw [World.cell?_of_block (a := ⟨b, o + j, none⟩) e]; exact h1, by rw [World.frozen?_of_block (a := ⟨b, o + j, none⟩) e]; exact h2⟩
theorem range_of_block {w w' : World} {b o : Nat} {cs : List Value} (e : w'.heap[b]? = w.heap[b]?) (h : w.rangeAt b o cs) : w'.rangeAt b o cs := fun j v hv => by
  rw [World.cell?_of_block (a := ⟨b, o + j, none⟩) e]; exact h j v hv
theorem split_at {K : List Rec} {k : Nat} {r : Rec} (h : K[k]? = some r) : K = K.take k ++ (r :: K.drop (k + 1)) := by
  obtain ⟨hk, e⟩ := List.getElem?_eq_some_iff.1 h
  have := List.drop_eq_getElem_cons (l := K) (i := k) hk
  rw [e] at this
  rw [← this, List.take_append_drop]
theorem placed_at {K : List Rec} {k : Nat} {r : Rec} (start : Nat) (h : K[k]? = some r) : (placed start K)[k]? = some { r with off := frOf start (K.take k), en := frOf start (K.take k) + ln r } := by
  have hk := (List.getElem?_eq_some_iff.1 h).1
  have hl : (placed start (K.take k)).length = k := by rw [len_placed, List.length_take]; omega
  have e : placed start K = placed start (K.take k) ++ placed (frOf start (K.take k)) (r :: K.drop (k + 1)) := by
    rw [← placed_append, ← split_at h]
  rw [e, List.getElem?_append_right (by omega), hl, Nat.sub_self]
  rfl

/-- Where the copying stands once k records have gone over. -/
structure Mid3 (w wr : World) (kg nb bb T start n k : Nat) (K : List Rec) (OB X : Nat → Int) : Prop where
  row : wr.rowIs nb 5 T (V .u8 (copyAll OB start (K.take k) X))
  room : ∀ i, i < n → wr.there kg (i * 22) 22
  done : ∀ i r, i < k → (placed start K)[i]? = some r → wr.rangeAt kg (i * 22) (rc r (dv nb r))
  todo : ∀ i r, k ≤ i → K[i]? = some r → wr.rangeAt kg (i * 22) (rc r (dv bb r))
  old : ∀ b, b < w.heap.size → b ≠ nb → b ≠ kg → wr.heap[b]? = w.heap[b]?
  size : w.heap.size ≤ wr.heap.size
  os : wr.os = w.os
  tape : wr.tape = w.tape
  output : wr.output = w.output

theorem Mid3.step {w wr W w1 W3 : World} {kg nb bb T start n k fr l : Nat} {K : List Rec} {OB X : Nat → Int} {r : Rec} {o : Obj} (hm : Mid3 w wr kg nb bb T start n k K OB X) (hrk : K[k]? = some r) (hk : k < n)
    (hfr : fr = frOf start (K.take k)) (hl : l = ln r) (hkn : kg ≠ nb) (hW : W = wr.alloc o) (hg1 : W.drew.grownBy w1 (some nb)) (hr1 : w1.rowIs nb 5 T (V .u8 (over (copyAll OB start (K.take k) X) fr l fun i => OB (r.off + i))))
    (hg3 : w1.grownBy W3 (some wr.heap.size)) : Mid3 w (W3.setCells kg (k * 22) (rc { r with off := fr, en := fr + l } (dv nb { r with off := fr, en := fr + l }))) kg nb bb T start n (k + 1) K OB X := by
  have hkg : kg < wr.heap.size := by
    obtain ⟨u, hu⟩ := Option.isSome_iff_exists.1 ((hm.room k hk) 0 (by omega)).1
    exact World.block_lt_of_cell? wr _ hu
  have hnb := hm.row.lt
  have hWs : W.heap.size = wr.heap.size + 1 := by rw [hW]; simp
  have hWb : ∀ b, b < wr.heap.size → W.heap[b]? = wr.heap[b]? := fun b hb => by rw [hW]; exact (World.grownBy_alloc wr o none).block b hb (by simp)
  have hgW : ∀ b, b < wr.heap.size → b ≠ nb → W3.heap[b]? = wr.heap[b]? := fun b hb hne => by
    rw [hg3.block b (by have := hg1.size; have h2 : W.drew.heap.size = W.heap.size := rfl; omega) (by simp; omega), hg1.block b (by show b < W.heap.size; omega) (by simpa using hne)]
    exact hWb b hb
  have hg4 := grown_setCells kg (rc { r with off := fr, en := fr + l } (dv nb { r with off := fr, en := fr + l })) (k * 22) W3
  have s1 : wr.heap.size + 1 ≤ w1.heap.size := by have := hg1.size; have h2 : W.drew.heap.size = W.heap.size := rfl; omega
  have s3 := hg3.size
  have ht : K.take (k + 1) = K.take k ++ [r] := by rw [List.take_add_one, hrk]; rfl
  refine ⟨?_, fun i hi => World.there_setCells (there_of_block (hgW kg hkg hkn) (hm.room i hi)) _ _ _, fun i r' hi hr' => ?_, fun i r' hi hr' => ?_, fun b hb h1 h2 => ?_, ?_, ?_, ?_, ?_⟩
  · rw [ht, copyAll_snoc, ← hfr, ← hl]
    refine World.rowIs.of_block hr1 ?_
    rw [hg4.block nb (by omega) (by simpa using hkn.symm), hg3.block nb (by omega) (by simp; omega)]
  · by_cases e : i = k
    · subst e
      rw [placed_at start hrk, ← hfr, ← hl] at hr'
      cases hr'
      exact World.rangeAt_setCells_same _ _ _ _ (there_of_block (hgW kg hkg hkn) (hm.room i hk))
    · exact World.rangeAt_setCells_apart (range_of_block (hgW kg hkg hkn) (hm.done i r' (by omega) hr')) _ _ _ (.inr (.inl (by rw [len_rc]; omega)))
  · exact World.rangeAt_setCells_apart (range_of_block (hgW kg hkg hkn) (hm.todo i r' (by omega) hr')) _ _ _ (.inr (.inr (by rw [len_rc]; omega)))
  · have := hm.size
    rw [hg4.block b (by omega) (by simpa using h2), hgW b (by omega) h1]
    exact hm.old b hb h1 h2
  · have := hm.size; have := hg4.size; omega
  · rw [hg4.os, hg3.os, hg1.os, ← hm.os, hW]; rfl
  · rw [hg4.tape, hg3.tape, hg1.tape, ← hm.tape, hW]; rfl
  · rw [hg4.output, hg3.output, hg1.output, ← hm.output, hW]; rfl

set_option maxRecDepth 100000 in
set_option maxHeartbeats 6400000 in
theorem rest_yes3 (s kg nb bb T start n cap : Nat) (ao : Option Addr) (K : List Rec) (OB X : Nat → Int) (Q : Exit → Act → World → Prop) (a : Act) (w : World) (hsz : a.tmps.size = 193) (hd : a.defers = [])
    (h0 : a.tmps.getD 0 undef = .pointer (some ⟨s, 0, none⟩)) (h7 : a.tmps.getD 7 undef = .slice ao n cap) (h12 : a.tmps.getD 12 undef = .slice (some ⟨nb, 0, none⟩) T T)
    (hao : n = 0 ∨ ao = some ⟨kg, 0, none⟩) (hK : K.length = n) (hn : n ≤ 4096)
    (hs0 : w.cell? ⟨s, 0, none⟩ = some (.slice (some ⟨bb, 0, none⟩) T T)) (hs2 : w.cell? ⟨s, 2, none⟩ = some (.int .i64 (start : Int)))
    (hob : w.rowIs bb 5 T (V .u8 OB)) (hrow : w.rowIs nb 5 T (V .u8 X)) (hth : ∀ i, i < n → w.there kg (i * 22) 22) (hrg : ∀ i r, K[i]? = some r → w.rangeAt kg (i * 22) (rc r (dv bb r)))
    (hsn : s ≠ nb) (hbn : bb ≠ nb) (hkn : n = 0 ∨ (kg ≠ nb ∧ kg ≠ s ∧ kg ≠ bb)) (hT : T ≤ 4194304)
    (hrec : ∀ r ∈ K, r.off ≤ r.en ∧ r.en ≤ T ∧ r.dl ≤ ln r) (hfit : frOf start K ≤ T)
    (hQ : ∀ a' w', a'.tmps.size = 193 → a'.defers = [] → a'.tmps.getD 0 undef = .pointer (some ⟨s, 0, none⟩) → a'.tmps.getD 7 undef = .slice ao n cap → a'.tmps.getD 12 undef = .slice (some ⟨nb, 0, none⟩) T T → a'.tmps.getD 15 undef = .int .i64 ((frOf start K : Nat) : Int) →
      w'.rowIs nb 5 T (V .u8 (copyAll OB start K X)) → RecUp w' kg n n nb (placed start K) → (∀ k, k < w.heap.size → k ≠ nb → k ≠ kg → w'.heap[k]? = w.heap[k]?) → w.heap.size ≤ w'.heap.size → w'.os = w.os → w'.tape = w.tape → w'.output = w.output → Code.wp Tryf.prog (tl 12 (Tryf.f36.body.getD .skip)) Q a' w') :
    Code.wp Tryf.prog (tl 10 (Tryf.f36.body.getD .skip)) Q a w := by
  obtain ⟨f, hf, rfl⟩ := lit193 a hsz hd
  have e0 : f 0 = .pointer (some ⟨s, 0, none⟩) := (hf 0).symm.trans h0
  have e7 : f 7 = .slice ao n cap := (hf 7).symm.trans h7
  have e12 : f 12 = .slice (some ⟨nb, 0, none⟩) T T := (hf 12).symm.trans h12
  rw [e0, e7, e12]
  have HQ : Hid (∀ a' w', a'.tmps.size = 193 → a'.defers = [] → a'.tmps.getD 0 undef = .pointer (some ⟨s, 0, none⟩) → a'.tmps.getD 7 undef = .slice ao n cap → a'.tmps.getD 12 undef = .slice (some ⟨nb, 0, none⟩) T T → a'.tmps.getD 15 undef = .int .i64 ((frOf start K : Nat) : Int) →
      w'.rowIs nb 5 T (V .u8 (copyAll OB start K X)) → RecUp w' kg n n nb (placed start K) → (∀ k, k < w.heap.size → k ≠ nb → k ≠ kg → w'.heap[k]? = w.heap[k]?) → w.heap.size ≤ w'.heap.size → w'.os = w.os → w'.tape = w.tape → w'.output = w.output → Code.wp Tryf.prog (tl 12 (Tryf.f36.body.getD .skip)) Q a' w') := hQ
  clear h0 h7 h12 hf hsz hd e0 e7 e12 hQ
  conv => arg 2; whnf
  go_wp2_with fail
  rename_i KK hKK
  have HKK : Hid (∀ (a : Act) (w : World), Code.wp Tryf.prog (tl 12 (Tryf.f36.body.getD .skip)) Q a w → KK a w) := hKK
  have HK : Hid (K.length = n) := hK
  have HREC : Hid (∀ r ∈ K, r.off ≤ r.en ∧ r.en ≤ T ∧ r.dl ≤ ln r) := hrec
  have HFIT : Hid (frOf start K ≤ T) := hfit
  have HOB : Hid (w.rowIs bb 5 T (V .u8 OB)) := hob
  have HM0 : Hid (Mid3 w w kg nb bb T start n 0 K OB X) := ⟨hrow, hth, fun i r hi => by omega, fun i r _ hr => hrg i r hr, fun _ _ _ _ => rfl, Nat.le_refl _, rfl, rfl, rfl⟩
  have HS0 : Hid (w.cell? ⟨s, 0, none⟩ = some (.slice (some ⟨bb, 0, none⟩) T T)) := hs0
  have HKN : Hid (n = 0 ∨ (kg ≠ nb ∧ kg ≠ s ∧ kg ≠ bb)) := hkn
  clear hKK hK hrec hfit hob hrow hth hrg hs0 hs2 hkn
  go_loopw [15, 134] (fun ov iv wr => ∃ k : Nat, k ≤ n ∧ iv = .int .i64 (k : Int) ∧ ov = .int .i64 ((frOf start (K.take k) : Nat) : Int) ∧ Mid3 w wr kg nb bb T start n k K OB X) (fun _ iv _ => n - (intOf iv).toNat)
  case atStart => exact ⟨0, Nat.zero_le _, rfl, rfl, HM0.out⟩
  case round =>
    obtain ⟨k, hk, rfl, rfl, hm⟩ := hrel
    have HM : Hid (Mid3 w wr kg nb bb T start n k K OB X) := hm
    obtain ⟨fr, hfr⟩ : ∃ fr, fr = frOf start (K.take k) := ⟨_, rfl⟩
    rw [← hfr]
    have HFR : Hid (fr = frOf start (K.take k)) := hfr
    clear hm hfr HM0
    by_cases hlt : k < n
    · have hki : (k : Int) < (n : Int) := by omega
      obtain ⟨r, hrk⟩ : ∃ r, K[k]? = some r := ⟨_, List.getElem?_eq_getElem (by rw [HK.out]; exact hlt)⟩
      have HRK : Hid (K[k]? = some r) := hrk
      obtain ⟨hoe, heT, hdl⟩ := HREC.out r (List.mem_of_getElem? hrk)
      obtain ⟨hkn1, hkn2, hkn3⟩ : kg ≠ nb ∧ kg ≠ s ∧ kg ≠ bb := HKN.out.resolve_left (by omega)
      obtain rfl : ao = some ⟨kg, 0, none⟩ := hao.resolve_left (by omega)
      have hix := index65 (g := kg) (c := cap) hlt
      have hfl : fr + ln r ≤ T := by
        have h1 := HFIT.out
        have h2 : K = K.take k ++ (r :: K.drop (k + 1)) := by
          have := List.drop_eq_getElem_cons (l := K) (i := k) (by rw [HK.out]; exact hlt)
          have e : K[k]'(by rw [HK.out]; exact hlt) = r := by
            have := List.getElem?_eq_some_iff.1 hrk
            exact this.2
          rw [e] at this
          rw [← this, List.take_append_drop]
        rw [h2, frOf_append, ← HFR.out] at h1
        have h3 := frOf_ge (al (fr + ln r)) (K.drop (k + 1))
        have h4 := le_al (fr + ln r)
        have h5 : frOf (al (fr + ln r)) (K.drop (k + 1)) ≤ T := h1
        omega
      obtain ⟨C0, hC0⟩ : ∃ C0 : List Value, C0 = rc r (dv bb r) := ⟨_, rfl⟩
      have HC0 : Hid (C0 = rc r (dv bb r)) := hC0
      have hC0s : C0.length = 22 := by rw [hC0]; rfl
      have hst0 : ∀ c : Array Value, c.size = 22 → (storeCells ⟨wr.heap.size, 0, none⟩ C0).run Tryf.prog (wr.alloc (.cells c 70)) = .ok () (wr.alloc (.cells C0.toArray 70)) := fun c hc => by
        have := run_storeCells_new (P := Tryf.prog) wr 70 c C0.toArray (by rw [info70]; simp [hC0s]) (by simp [hC0s, hc]) (by rw [hC0]; exact all_oneCell_toArray (by simp [rc, dv, Value.oneCell']))
        simpa using this
      have HCZ : Hid (wr.rangeAt kg (k * 22) C0) := by rw [hC0]; exact HM.out.todo k r (Nat.le_refl _) hrk
      clear hC0 hrk
      go_upto_region 26 with (refine wpList_load_mid rfl 70 (.tmp 137) rfl kg (k * 22) rfl C0 _ HCZ.out Tryf.underlying70 rfl (by rw [info70, hC0s]) ?_)
      obtain ⟨W, hW⟩ : ∃ W, W = wr.alloc (.cells C0.toArray 70) := ⟨_, rfl⟩
      rw [← hW]
      have hslt : s < w.heap.size := World.block_lt_of_cell? w _ HS0.out
      have hblt : bb < w.heap.size := HOB.out.lt
      have hHs := HM.out.size
      have cz : W.rangeAt wr.heap.size 0 (rc r (dv bb r)) := by
        rw [hW, HC0.out]
        intro j v hv
        rw [Nat.zero_add, cell_of_row _ _ _ _ _ _ (heap_alloc_last wr _)]
        simpa using hv
      have HCZ2 : Hid (W.rangeAt wr.heap.size 0 (rc r (dv bb r))) := cz
      have c0 : W.cell? ⟨wr.heap.size, 0, none⟩ = some (.int .i64 (r.off : Int)) := cz 0 _ rfl
      have c1 : W.cell? ⟨wr.heap.size, 1, none⟩ = some (.int .i64 (r.en : Int)) := cz 1 _ rfl
      have hsw : W.cell? ⟨s, 0, none⟩ = some (.slice (some ⟨bb, 0, none⟩) T T) := by
        rw [hW, World.cell?_alloc_lt _ _ _ (by show s < wr.heap.size; omega), World.cell?_of_block (w := w) (HM.out.old s hslt hsn (fun h => hkn2 h.symm))]
        exact HS0.out
      have HOBW : Hid (W.rowIs bb 5 T (V .u8 OB)) := by rw [hW]; exact (HOB.out.of_block (HM.out.old bb hblt hbn (fun h => hkn3 h.symm))).alloc _
      have HNBW : Hid (W.rowIs nb 5 T (V .u8 (copyAll OB start (K.take k) X))) := by rw [hW]; exact HM.out.row.alloc _
      have hs1 := slice_from fr T (by omega)
      have hs2 := slice_mid r.off r.en T hoe heT
      have hnH : nb ≠ wr.heap.size := by have := HM.out.row.lt; omega
      have hsnb : s ≠ nb := hsn
      have hln : Hid (ln r = r.en - r.off) := rfl
      obtain ⟨l, hl⟩ : ∃ l, l = ln r := ⟨_, rfl⟩
      have HLL : Hid (l = ln r) := hl
      have hlT : fr + l ≤ T := by rw [hl]; exact hfl
      have hlo : l = r.en - r.off := hl
      have HLO : Hid (l = r.en - r.off) := hlo
      have hroff : r.off + l ≤ T := by omega
      clear cz hst0 hl hlo hfl HCZ
      go_region_held3 (fun w' => w'.cell? ⟨s, 0, none⟩ = some (.slice (some ⟨bb, 0, none⟩) T T) ∧ w'.cell? ⟨wr.heap.size, 0, none⟩ = some (.int .i64 (r.off : Int)) ∧ w'.cell? ⟨wr.heap.size, 1, none⟩ = some (.int .i64 (r.en : Int)))
        (first
          | (go_split_ands; simp only [World.cell?_drew]; refine ⟨?_, ?_, ?_⟩ <;> with_reducible assumption)
          | (go_split_ands
             refine ⟨?_, ?_, ?_⟩
             · (refine hgrow1.cell (by assumption) ?_; simpa using hsnb)
             · (refine hgrow1.cell (by assumption) ?_; simpa using hnH.symm)
             · (refine hgrow1.cell (by assumption) ?_; simpa using hnH.symm)))
        ((refine step_copy (by rfl) (.tmp 141) (.tmp 150) (by rfl) (some (cutAt nb fr T)) (some (cutAt bb r.off T)) (T - fr) (T - fr) (r.en - r.off) (T - r.off) (by rfl) (by rfl) nb fr T (copyAll OB start (K.take k) X) (fun i => OB (r.off + i)) (by exact HNBW.out) l (by show l = min (r.en - r.off) (T - fr); have := HLO.out; omega) (fun h => ⟨by rw [cutAt, if_neg (by omega)], ⟨bb, r.off, none⟩, by rw [cutAt, if_neg (by omega)], fun j hj => by rw [Addr.add_lit]; exact HOBW.out.cell (by omega)⟩) (by omega) ?_; intro w1 hrow1 hgrow1))
      have HZ1 : w1.rangeAt wr.heap.size 0 (rc r (dv bb r)) := fun j v hv => hgrow1.cell (HCZ2.out j v hv) (by simpa using hnH.symm)
      have d0 : w1.cell? ⟨wr.heap.size, 0, none⟩ = some (.int .i64 (r.off : Int)) := HZ1 0 _ rfl
      have d1 : w1.cell? ⟨wr.heap.size, 1, none⟩ = some (.int .i64 (r.en : Int)) := HZ1 1 _ rfl
      have d21 : w1.cell? ⟨wr.heap.size, 21, none⟩ = some (.slice (some (dp bb r)) r.dl r.dl) := HZ1 21 _ rfl
      have HHB : W.heap[wr.heap.size]? = some (.cells C0.toArray 70 (0, 0)) := by rw [hW]; exact heap_alloc_last wr _
      have hH1 : w1.heap[wr.heap.size]? = some (.cells C0.toArray 70 (0, 0)) := by rw [hgrow1.block _ (by rw [hW]; simp) (by simpa using hnH.symm)]; exact HHB
      have f0 : ∀ j, w1.frozen? ⟨wr.heap.size, j, none⟩ = false := fun j => by unfold World.frozen?; rw [hH1]; simp
      have HH1 : Hid (w1.heap[wr.heap.size]? = some (.cells C0.toArray 70 (0, 0))) := hH1
      have HR1 : Hid (w1.rowIs nb 5 T (V .u8 (over (copyAll OB start (K.take k) X) fr l fun i => OB (r.off + i)))) := hrow1
      have HG1 : Hid (W.drew.grownBy w1 (some nb)) := hgrow1
      have HWW : Hid (W = wr.alloc (.cells C0.toArray 70)) := hW
      have hsd : ∀ w', (Instr.slice 22 (.slice (some ⟨nb, 0, none⟩) T T) (some (.int .i64 ((fr : Int) + (l : Int) - (r.dl : Int)))) (some (.int .i64 ((fr : Int) + (l : Int)))) (some (.int .i64 ((fr : Int) + (l : Int))))).run Tryf.prog w' = .ok (.slice (some (dp nb { r with off := fr, en := fr + l })) r.dl r.dl) w' := fun w' => by
        have h1 := HLL.out
        have := slice_data nb T { r with off := fr, en := fr + l } (by show r.dl ≤ fr + l; omega) (by show fr + l ≤ T; omega) w'
        simpa using this
      have hdl2 : r.dl ≤ l := by rw [HLL.out]; exact hdl
      have HZ1 : Hid (w1.rangeAt wr.heap.size 0 (rc r (dv bb r))) := HZ1
      clear hH1 HHB hrow1 hgrow1 c0 c1 hsw hs1 hs2 hW
      go_upto_region 29 with fail
      obtain ⟨W3, hW3⟩ : ∃ W3, W3 = (((w1.setCell ⟨wr.heap.size, 0, none⟩ (.int .i64 (fr : Int))).setCell ⟨wr.heap.size, 1, none⟩ (.int .i64 ((fr : Int) + (l : Int)))).setCell ⟨wr.heap.size, 21, none⟩ (.slice (some (dp nb { r with off := fr, en := fr + l })) r.dl r.dl)) := ⟨_, rfl⟩
      rw [← hW3]
      obtain ⟨C1, hC1⟩ : ∃ C1 : List Value, C1 = rc { r with off := fr, en := fr + l } (dv nb { r with off := fr, en := fr + l }) := ⟨_, rfl⟩
      have HC1 : Hid (C1 = rc { r with off := fr, en := fr + l } (dv nb { r with off := fr, en := fr + l })) := hC1
      have hC1s : C1.length = 22 := by rw [hC1]; rfl
      have HR3 : Hid (W3.rangeAt wr.heap.size 0 C1) := by rw [hW3, hC1]; exact patched fr l HZ1.out
      have hg3 : w1.grownBy W3 (some wr.heap.size) := by
        have st : ∀ (v : World) (j : Nat) (x : Value), v.grownBy (v.setCell ⟨wr.heap.size, j, none⟩ x) (some wr.heap.size) := fun v j x => grown_setCells wr.heap.size [x] j v
        rw [hW3]; exact ((st _ _ _).trans (st _ _ _)).trans (st _ _ _)
      have HFIN : Hid (Mid3 w (W3.setCells kg (k * 22) C1) kg nb bb T start n (k + 1) K OB X) := by
        rw [hC1]; exact Mid3.step HM.out HRK.out hlt HFR.out HLL.out hkn1 HWW.out HG1.out HR1.out hg3
      have hth3 : W3.there kg (k * 22) 22 := by
        have hkg : kg < wr.heap.size := by
          obtain ⟨u, hu⟩ := Option.isSome_iff_exists.1 ((HM.out.room k hlt) 0 (by omega)).1
          exact World.block_lt_of_cell? wr _ hu
        have s1 := HG1.out.size
        have s2 : W.drew.heap.size = W.heap.size := rfl
        have s3 : W.heap.size = wr.heap.size + 1 := by rw [HWW.out]; simp
        refine there_of_block ?_ (HM.out.room k hlt)
        rw [hg3.block kg (by omega) (by simp; omega), HG1.out.block kg (by omega) (by simpa using hkn1), HWW.out]
        exact (World.grownBy_alloc wr _ none).block kg hkg (by simp)
      have hst3 : (storeCells ⟨kg, k * 22, none⟩ C1).run Tryf.prog W3 = .ok () (W3.setCells kg (k * 22) C1) := by
        have := st_open W3 kg (k * 22) C1.toArray (by simp [hC1s]) (by rw [hC1]; exact all_oneCell_toArray (by simp [rc, dv, Value.oneCell'])) hth3
        simpa using this
      have hkgH : wr.heap.size ≠ kg := by
        obtain ⟨u, hu⟩ := Option.isSome_iff_exists.1 ((HM.out.room k hlt) 0 (by omega)).1
        have := World.block_lt_of_cell? wr _ hu
        have h2 : kg < wr.heap.size := this
        omega
      have hd1 : (W3.setCells kg (k * 22) C1).cell? ⟨wr.heap.size, 1, none⟩ = some (.int .i64 ((fr : Int) + (l : Int))) := by
        rw [World.cell?_setCells_out _ _ _ _ _ (fun h => absurd h hkgH)]
        have := HR3.out 1 _ (by rw [HC1.out]; rfl)
        simpa using this
      clear hW3 hC1 hg3 hth3 d0 d1 d21 f0 hsd
      go_upto_region 30 with (refine wpList_load_mid rfl 70 (.tmp 17) rfl wr.heap.size 0 rfl C1 _ HR3.out Tryf.underlying70 rfl (by rw [info70, hC1s]) ?_)
      obtain ⟨W4, hW4⟩ : ∃ W4, W4 = W3.setCells kg (k * 22) C1 := ⟨_, rfl⟩
      rw [← hW4] at hd1 HFIN ⊢
      clear hW4 hst3
      go_wp2_with fail
      have hcast : (fr : Int) + (l : Int) = ((fr + l : Nat) : Int) := by omega
      rw [hcast]
      clear hcast
      refine (alignUp (fr + l) (by omega) _).mono ?_
      rintro e w4 ⟨rfl, rfl⟩
      go_wp2_with fail
      go_roundw
      case rel =>
        refine ⟨k + 1, by omega, by go_num, ?_, HFIN.out⟩
        rw [List.take_add_one, HRK.out, Option.toList_some, frOf_append, ← HFR.out]
        show _ = Value.int .i64 ((al (fr + ln r) : Nat) : Int)
        rw [← HLL.out]
      case measure => simp [intOf]; omega
    · have hkd : decide ((k : Int) < (n : Int)) = false := by simp; omega
      obtain rfl : k = n := by omega
      have ht : K.take k = K := List.take_of_length_le (by rw [HK.out]; exact Nat.le_refl _)
      have HT : Hid (K.take k = K) := ht
      clear ht
      go_wp2_with fail
      have h := HM.out
      refine HKK.out _ _ (HQ.out _ _ rfl rfl rfl rfl rfl ?_ ?_ ⟨h.room, fun i r hi hr => h.done i r hi hr⟩ h.old h.size h.os h.tape h.output)
      · show Value.int .i64 (fr : Int) = _
        rw [HFR.out, HT.out]
      · have := h.row; rwa [HT.out] at this
end Go.Proofs.Qxb6003952aFmt
