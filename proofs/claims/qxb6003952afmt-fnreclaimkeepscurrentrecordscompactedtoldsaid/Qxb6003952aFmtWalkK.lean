/- The walk of reclaim: its first loop, and the joining. -/
import Derived.Test.Qxb6003952aFmtWalkR
namespace Go.Proofs.Qxb6003952aFmt
open Go.RowKit Go.Extern.Stop Go.Stop Go.Extern
set_option linter.unusedVariables false

/-- What reclaim answers, and what it leaves. -/
def RPost (w : World) (s T start en_ : Nat) (size : Int) (OB : Nat → Int) (K : List Rec) (e : Ending) (w' : World) : Prop :=
  ((en_ : Int) - ((frOf start K : Nat) : Int) < size ∧ (∃ p, e = .returned (.iface 102 p)) ∧ Below w.heap.size w w') ∨
  (size ≤ (en_ : Int) - ((frOf start K : Nat) : Int) ∧ e = .returned .nilIface ∧ w.grownBy w' (some s) ∧ ∃ (nb : Nat) (ao : Option Addr) (cap : Nat), w'.heap[s]? = some (.cells #[.slice (some ⟨nb, 0, none⟩) T T, .slice ao K.length cap, .int .i64 (start : Int), .int .i64 ((frOf start K : Nat) : Int), .int .i64 (en_ : Int)] 72 (0, 0)) ∧ w.heap.size ≤ nb ∧
    w'.rowIs nb 5 T (V .u8 (newB OB start en_ T K)) ∧ (K.length = 0 ∨ ∃ kg, ao = some ⟨kg, 0, none⟩ ∧ RecUp w' kg K.length K.length nb (placed start K)))

set_option maxRecDepth 100000 in
set_option maxHeartbeats 6400000 in
theorem reclaim (F : Interp) (s rg n bb T start free en_ : Nat) (vc size : Int) (R : List Rec) (OB : Nat → Int) (w : World) (hF : F.answers w.tape)
    (hst : w.heap[s]? = some (.cells #[.slice (some ⟨bb, 0, none⟩) T T, .slice (some ⟨rg, 0, none⟩) n n, .int .i64 (start : Int), .int .i64 (free : Int), .int .i64 (en_ : Int)] 72 (0, 0)))
    (hR : R.length = n) (hn : n ≤ 4096) (hc : ∀ r ∈ R, (0 ≤ r.c ∧ r.c < 8) ∧ r.off ≤ r.en ∧ r.en ≤ en_ ∧ r.dl ≤ ln r) (hv0 : 0 ≤ vc) (hv8 : vc < 8)
    (hup : RecUp w rg n n bb R) (hob : w.rowIs bb 5 T (V .u8 OB)) (hT : T ≤ 4194304) (hse : start ≤ en_) (heT : en_ ≤ T)
    (hfit : frOf start (keptOf vc ((winners (cOf R) (sOf R) n).filterMap fun p => R[p]?)) ≤ en_) :
    Calls Tryf.prog 36 #[.pointer (some ⟨s, 0, none⟩), .agg (vcells vc).toArray, .int .i64 size] w (RPost w s T start en_ size OB (keptOf vc ((winners (cOf R) (sOf R) n).filterMap fun p => R[p]?))) := by
  have cs : ∀ j, w.cell? ⟨s, j, none⟩ = (#[.slice (some ⟨bb, 0, none⟩) T T, .slice (some ⟨rg, 0, none⟩) n n, .int .i64 (start : Int), .int .i64 (free : Int), .int .i64 (en_ : Int)] : Array Value)[j]? := fun j => cell_of_row w s j _ _ _ hst
  have hslt : s < w.heap.size := (Array.getElem?_eq_some_iff.1 hst).1
  obtain ⟨VC, hVC⟩ : ∃ VC : Array Value, VC = (vcells vc).toArray := ⟨_, rfl⟩
  have HVC : Hid (VC = (vcells vc).toArray) := hVC
  rw [← hVC]
  have HUP : Hid (RecUp w rg n n bb R) := hup
  have HC : Hid (∀ r ∈ R, (0 ≤ r.c ∧ r.c < 8) ∧ r.off ≤ r.en ∧ r.en ≤ en_ ∧ r.dl ≤ ln r) := hc
  have HL : Hid (R.length = n) := hR
  have HFIT : Hid (frOf start (keptOf vc ((winners (cOf R) (sOf R) n).filterMap fun p => R[p]?)) ≤ en_) := hfit
  have HST : Hid (w.heap[s]? = some (.cells #[.slice (some ⟨bb, 0, none⟩) T T, .slice (some ⟨rg, 0, none⟩) n n, .int .i64 (start : Int), .int .i64 (free : Int), .int .i64 (en_ : Int)] 72 (0, 0))) := hst
  have cs2 : ∀ o, (w.alloc o).cell? ⟨s, 2, none⟩ = some (.int .i64 (start : Int)) := fun o => by rw [World.cell?_alloc_lt _ _ _ hslt, cs 2]; rfl
  have cs1 : Hid (∀ o, (w.alloc o).cell? ⟨s, 1, none⟩ = some (.slice (some ⟨rg, 0, none⟩) n n)) := fun o => by rw [World.cell?_alloc_lt _ _ _ hslt, cs 1]; rfl
  have HOB : Hid (w.rowIs bb 5 T (V .u8 OB)) := hob
  have HF : Hid (F.answers w.tape) := hF
  clear hup hc hR hfit hst cs hVC hob hF
  obtain ⟨KF, hKF⟩ : ∃ KF, KF = keptOf vc ((winners (cOf R) (sOf R) n).filterMap fun p => R[p]?) := ⟨_, rfl⟩
  rw [← hKF]
  have HKF : Hid (KF = keptOf vc ((winners (cOf R) (sOf R) n).filterMap fun p => R[p]?)) := hKF
  clear hKF
  go_enter Tryf.func36, Tryf.ntmps36
  go_wp2_with fail
  rename_i K2 h2 K1 h1 K0 h0
  have HK2 : Hid (∀ (a : Act) (w' : World), Code.wp Tryf.prog (tl 4 (Tryf.f36.body.getD .skip)) (bodyPost Tryf.prog Tryf.f36 (RPost w s T start en_ size OB KF)) a w' → K2 a w') := h2
  clear h2
  refine (current s rg n n bb R HL.out hn (fun r hr => (HC.out r hr).1) (w.alloc (.cells VC 68)) (cs1.out _) (fun i r hr => World.rangeAt_alloc (HUP.out.2 i r (by have := (List.getElem?_eq_some_iff.1 hr).1; rw [HL.out] at this; exact this) hr) _)).mono ?_
  rintro e w1 ⟨g, m, rfl, hm, hgB, hup1, hb1⟩
  obtain ⟨cur, hcur⟩ : ∃ cur, cur = (winners (cOf R) (sOf R) n).filterMap fun p => R[p]? := ⟨_, rfl⟩
  rw [← hcur] at HFIT hup1 HKF
  have HCL : Hid (cur.length = m) := by
    rw [hcur, len_picked (fun p hp => by
      obtain ⟨c, hc⟩ := Go.Proofs.Qxb6003952aFmt.mem_winners.1 hp
      rw [HL.out]; exact (win_lt hc).1)]
    exact hm.symm
  have HCM : Hid (∀ r ∈ cur, r ∈ R) := fun r hr => by
    rw [hcur, List.mem_filterMap] at hr
    obtain ⟨p, _, hp⟩ := hr
    exact List.mem_of_getElem? hp
  have hmn : m ≤ 4096 := by
    rw [hm]
    have : (winners (cOf R) (sOf R) n).length ≤ n := by
      unfold winners
      exact Nat.le_trans (List.length_filter_le _ _) (by simp)
    omega
  have HUP1 : Hid (RecUp w1 g m m bb cur) := hup1
  have HB1 : Hid (Below (w.heap.size + 1) (w.alloc (.cells VC 68)) w1) := by have := hb1; simp at this; exact this
  have HV1 : Hid (w1.heap[w.heap.size]? = some (.cells VC 68 (0, 0))) := by rw [HB1.out.block _ (by omega)]; exact heap_alloc_last w _
  have HG1 : Hid (0 < m → g < w1.heap.size) := fun h => by
    obtain ⟨u, hu⟩ := Option.isSome_iff_exists.1 ((hup1.1 0 h) 0 (by omega)).1
    exact World.block_lt_of_cell? w1 _ hu
  have HW1 : Hid (w.heap.size + 1 ≤ w1.heap.size) := by have := HB1.out.size; simp at this; exact this
  obtain ⟨i0, hi, hz0, hz1, hz2⟩ := info_parts info70z
  clear hm hup1 hb1 hcur cs2 hgB
  go_wp2_with fail
  go_loopw [7, 8, 26] (fun kv fv iv wr => ∃ k : Nat, k ≤ m ∧ iv = .int .i64 (k : Int) ∧ fv = .int .i64 ((frOf start (keptOf vc (cur.take k)) : Nat) : Int) ∧ wr.ownsRow w1.heap.size 70 22 kv (keptOf vc (cur.take k)).length (flat (fun r => rc r (dv bb r)) (keptOf vc (cur.take k))) ∧ Below w1.heap.size w1 wr) (fun _ _ iv _ => m - (intOf iv).toNat)
  case atStart => exact ⟨0, Nat.zero_le _, rfl, rfl, World.ownsRow_nil _ _ _ _, Below.refl _ _⟩
  case round =>
    obtain ⟨k, hk, rfl, rfl, hown, hb⟩ := hrel
    obtain ⟨K, hK⟩ : ∃ K, K = keptOf vc (cur.take k) := ⟨_, rfl⟩
    rw [← hK] at hown
    obtain ⟨fr, hfr⟩ : ∃ fr, fr = frOf start K := ⟨_, rfl⟩
    rw [← hK, ← hfr]
    have HO : Hid (wr.ownsRow w1.heap.size 70 22 u7 K.length (flat (fun r => rc r (dv bb r)) K)) := hown
    have HB : Hid (Below w1.heap.size w1 wr) := hb
    have HK : Hid (K = keptOf vc (cur.take k)) := hK
    have HFR : Hid (fr = frOf start K) := hfr
    have hkl : K.length ≤ k := by rw [hK]; exact Nat.le_trans (List.length_filter_le _ _) (by simp; omega)
    clear hown hb hK hfr
    by_cases hlt : k < m
    · have hki : (k : Int) < (m : Int) := by omega
      obtain ⟨r, hrk⟩ : ∃ r, cur[k]? = some r := ⟨_, List.getElem?_eq_getElem (by rw [HCL.out]; exact hlt)⟩
      have HRK : Hid (cur[k]? = some r) := hrk
      obtain ⟨⟨hc0, hc8⟩, hoe, hee, hdl⟩ := HC.out r (HCM.out r (List.mem_of_getElem? hrk))
      have hg1 := HG1.out (by omega)
      have hix := index65 (g := g) (c := m) hlt
      obtain ⟨C0, hC0⟩ : ∃ C0 : List Value, C0 = rc r (dv bb r) := ⟨_, rfl⟩
      have HC0 : Hid (C0 = rc r (dv bb r)) := hC0
      have hC0s : C0.length = 22 := by rw [hC0]; rfl
      have hst0 : ∀ c : Array Value, c.size = 22 → (storeCells ⟨wr.heap.size, 0, none⟩ C0).run Tryf.prog (wr.alloc (.cells c 70)) = .ok () (wr.alloc (.cells C0.toArray 70)) := fun c hc => by
        have := run_storeCells_new (P := Tryf.prog) wr 70 c C0.toArray (by rw [info70]; simp [hC0s]) (by simp [hC0s, hc]) (by rw [hC0]; exact all_oneCell_toArray (by simp [rc, dv, Value.oneCell']))
        simpa using this
      have HCZ : Hid (wr.rangeAt g (k * 22) C0) := by rw [hC0]; exact range_below (HUP1.out.2 k r hlt hrk) HB.out hg1
      -- what is kept fits
      have hfrb : fr + ln r ≤ 4194304 ∨ r.c = vc := by
        by_cases hcv : r.c = vc
        · exact .inr hcv
        · left
          have h1 := HFIT.out
          have h2 : keptOf vc cur = keptOf vc (cur.take (k + 1)) ++ keptOf vc (cur.drop (k + 1)) := by
            unfold keptOf; rw [← List.filter_append, List.take_append_drop]
          rw [h2, frOf_append, kept_snoc_in hrk hcv, frOf_append] at h1
          have h3 := frOf_ge (frOf (frOf start (keptOf vc (cur.take k))) [r]) (keptOf vc (cur.drop (k + 1)))
          have h4 : frOf (frOf start (keptOf vc (cur.take k))) [r] = al (fr + ln r) := by rw [HFR.out, HK.out]; rfl
          have h5 := le_al (fr + ln r)
          omega
      have HFRB : Hid (fr + ln r ≤ 4194304 ∨ r.c = vc) := hfrb
      clear hC0 hrk hfrb
      go_upto_region 6 with (refine wpList_load_mid rfl 70 (.tmp 28) rfl g (k * 22) rfl C0 _ HCZ.out Tryf.underlying70 rfl (by rw [info70, hC0s]) ?_)
      obtain ⟨W, hW⟩ : ∃ W, W = wr.alloc (.cells C0.toArray 70) := ⟨_, rfl⟩
      rw [← hW]
      have cz : W.rangeAt wr.heap.size 0 (rc r (dv bb r)) := by
        rw [hW, HC0.out]
        intro j v hv
        rw [Nat.zero_add, cell_of_row _ _ _ _ _ _ (heap_alloc_last wr _)]
        simpa using hv
      have vz : W.rangeAt w.heap.size 0 (vcells vc) := by
        rw [hW]
        refine World.rangeAt_alloc (vc_range vc HVC.out ?_) _
        rw [HB.out.block _ (by have := HW1.out; omega)]
        exact HV1.out
      have c0 : W.cell? ⟨wr.heap.size, 0, none⟩ = some (.int .i64 (r.off : Int)) := cz 0 _ rfl
      have c1 : W.cell? ⟨wr.heap.size, 1, none⟩ = some (.int .i64 (r.en : Int)) := cz 1 _ rfl
      have c3 : W.cell? ⟨wr.heap.size, 3, none⟩ = some (.string r.nm) := cz 3 _ rfl
      have c4 : W.cell? ⟨wr.heap.size, 4, none⟩ = some (.int .u8 r.g) := cz 4 _ rfl
      have c5 : W.cell? ⟨wr.heap.size, 5, none⟩ = some (.int .u8 0) := cz 5 _ rfl
      have c6 : W.cell? ⟨wr.heap.size, 6, none⟩ = some (.int .u8 0) := cz 6 _ rfl
      have c7 : W.cell? ⟨wr.heap.size, 7, none⟩ = some (.int .u8 0) := cz 7 _ rfl
      have c8 : W.cell? ⟨wr.heap.size, 8, none⟩ = some (.int .u8 0) := cz 8 _ rfl
      have c9 : W.cell? ⟨wr.heap.size, 9, none⟩ = some (.int .u8 0) := cz 9 _ rfl
      have c10 : W.cell? ⟨wr.heap.size, 10, none⟩ = some (.int .u8 0) := cz 10 _ rfl
      have c11 : W.cell? ⟨wr.heap.size, 11, none⟩ = some (.int .u8 0) := cz 11 _ rfl
      have c12 : W.cell? ⟨wr.heap.size, 12, none⟩ = some (.int .u8 0) := cz 12 _ rfl
      have c13 : W.cell? ⟨wr.heap.size, 13, none⟩ = some (.int .u8 0) := cz 13 _ rfl
      have c14 : W.cell? ⟨wr.heap.size, 14, none⟩ = some (.int .u8 0) := cz 14 _ rfl
      have c15 : W.cell? ⟨wr.heap.size, 15, none⟩ = some (.int .u8 0) := cz 15 _ rfl
      have c16 : W.cell? ⟨wr.heap.size, 16, none⟩ = some (.int .u8 0) := cz 16 _ rfl
      have c17 : W.cell? ⟨wr.heap.size, 17, none⟩ = some (.int .u8 0) := cz 17 _ rfl
      have c18 : W.cell? ⟨wr.heap.size, 18, none⟩ = some (.int .u8 0) := cz 18 _ rfl
      have c19 : W.cell? ⟨wr.heap.size, 19, none⟩ = some (.int .u8 0) := cz 19 _ rfl
      have v0 : W.cell? ⟨w.heap.size, 0, none⟩ = some (.string (nmOf vc)) := vz 0 _ rfl
      have v1 : W.cell? ⟨w.heap.size, 1, none⟩ = some (.int .u8 (gOf vc)) := vz 1 _ rfl
      have v2 : W.cell? ⟨w.heap.size, 2, none⟩ = some (.int .u8 0) := vz 2 _ rfl
      have v3 : W.cell? ⟨w.heap.size, 3, none⟩ = some (.int .u8 0) := vz 3 _ rfl
      have v4 : W.cell? ⟨w.heap.size, 4, none⟩ = some (.int .u8 0) := vz 4 _ rfl
      have v5 : W.cell? ⟨w.heap.size, 5, none⟩ = some (.int .u8 0) := vz 5 _ rfl
      have v6 : W.cell? ⟨w.heap.size, 6, none⟩ = some (.int .u8 0) := vz 6 _ rfl
      have v7 : W.cell? ⟨w.heap.size, 7, none⟩ = some (.int .u8 0) := vz 7 _ rfl
      have v8 : W.cell? ⟨w.heap.size, 8, none⟩ = some (.int .u8 0) := vz 8 _ rfl
      have v9 : W.cell? ⟨w.heap.size, 9, none⟩ = some (.int .u8 0) := vz 9 _ rfl
      have v10 : W.cell? ⟨w.heap.size, 10, none⟩ = some (.int .u8 0) := vz 10 _ rfl
      have v11 : W.cell? ⟨w.heap.size, 11, none⟩ = some (.int .u8 0) := vz 11 _ rfl
      have v12 : W.cell? ⟨w.heap.size, 12, none⟩ = some (.int .u8 0) := vz 12 _ rfl
      have v13 : W.cell? ⟨w.heap.size, 13, none⟩ = some (.int .u8 0) := vz 13 _ rfl
      have v14 : W.cell? ⟨w.heap.size, 14, none⟩ = some (.int .u8 0) := vz 14 _ rfl
      have v15 : W.cell? ⟨w.heap.size, 15, none⟩ = some (.int .u8 0) := vz 15 _ rfl
      have v16 : W.cell? ⟨w.heap.size, 16, none⟩ = some (.int .u8 0) := vz 16 _ rfl
      have HW : Hid (W.ownsRow w1.heap.size 70 22 u7 K.length (flat (fun r => rc r (dv bb r)) K) ∧ Below w1.heap.size w1 W) := by
        rw [hW]; exact ⟨HO.out.alloc _, HB.out.alloc HB.out.size _⟩
      have hcr : Hid (W.rangeAt wr.heap.size 0 C0) := by rw [HC0.out]; exact cz
      clear cz vz hst0 hW HCZ
      by_cases hcv : r.c = vc
      · have hnm : r.nm = nmOf vc := by rw [← hcv]; rfl
        have hgg : r.g = gOf vc := by rw [← hcv]; rfl
        have e1 : ((nmOf vc).toList == (nmOf vc).toList) = true := by simp
        have e2 : ∀ w, (Op.equalIn 10000 66 (.agg #[.int .u8 (gOf vc), .int .u8 0, .int .u8 0, .int .u8 0, .int .u8 0, .int .u8 0, .int .u8 0, .int .u8 0, .int .u8 0, .int .u8 0, .int .u8 0, .int .u8 0, .int .u8 0, .int .u8 0, .int .u8 0, .int .u8 0]) (.agg #[.int .u8 (gOf vc), .int .u8 0, .int .u8 0, .int .u8 0, .int .u8 0, .int .u8 0, .int .u8 0, .int .u8 0, .int .u8 0, .int .u8 0, .int .u8 0, .int .u8 0, .int .u8 0, .int .u8 0, .int .u8 0, .int .u8 0])).run Tryf.prog w = .ok true w := fun w => by
          have := eq66 vc vc w
          rw [beq_self_eq_true] at this
          exact this
        have HKK : Hid (keptOf vc (cur.take (k + 1)) = K) := by rw [HK.out]; exact kept_snoc_out HRK.out hcv
        rw [hnm] at c3
        rw [hgg] at c4
        clear hcv hnm hgg
        go_wp2_with fail
        go_roundw
        case rel => exact ⟨k + 1, by omega, by go_num, by rw [HKK.out, HFR.out], by rw [HKK.out]; exact HW.out.1, HW.out.2⟩
        case measure => simp [intOf]; omega
      · have hcase : ((r.nm.toList == (nmOf vc).toList) = false) ∨ ((r.nm.toList == (nmOf vc).toList) = true ∧ ∀ w, (Op.equalIn 10000 66 (.agg #[.int .u8 r.g, .int .u8 0, .int .u8 0, .int .u8 0, .int .u8 0, .int .u8 0, .int .u8 0, .int .u8 0, .int .u8 0, .int .u8 0, .int .u8 0, .int .u8 0, .int .u8 0, .int .u8 0, .int .u8 0, .int .u8 0]) (.agg #[.int .u8 (gOf vc), .int .u8 0, .int .u8 0, .int .u8 0, .int .u8 0, .int .u8 0, .int .u8 0, .int .u8 0, .int .u8 0, .int .u8 0, .int .u8 0, .int .u8 0, .int .u8 0, .int .u8 0, .int .u8 0, .int .u8 0])).run Tryf.prog w = .ok false w) := by
          by_cases hnm : r.nm = nmOf vc
          · refine .inr ⟨by rw [hnm]; simp, fun w => ?_⟩
            have h1 : gOf r.c ≠ gOf vc := fun h => hcv (cls_inj hc0 hc8 hv0 hv8 hnm h)
            have := eq66 r.c vc w
            rw [beq_eq_false_iff_ne.2 h1] at this
            exact this
          · refine .inl (beq_eq_false_iff_ne.2 fun h => hnm ?_)
            have h2 : r.nm.toList = (nmOf vc).toList := by simpa using h
            exact nm_list_inj h2
        have HKK : Hid (keptOf vc (cur.take (k + 1)) = K ++ [r]) := by rw [HK.out]; exact kept_snoc_in HRK.out hcv
        have hfb : fr + ln r ≤ 4194304 := HFRB.out.resolve_right hcv
        clear hcv
        have hfold : ∀ z : Array Value, z.size = 22 → List.foldl (fun (cs : Array Value) (x : Value × Nat) => cs.setIfInBounds x.snd x.fst) z C0.zipIdx = C0.toArray := fun z hz => fold_cells z (by rw [hz, hC0s])
        have HNEWS : Hid (∀ j u, C0[j]? = some u → (W.alloc (.cells C0.toArray 70)).cell? ((⟨W.heap.size, 0, none⟩ : Addr).add j) = some u) := fun j u hu => by
          rw [Addr.add_lit, Nat.zero_add, cell_of_row _ _ _ _ _ _ (heap_alloc_last W _)]
          simpa using hu
        have HONE : Hid (∀ u ∈ C0, u.oneCell' = true) := by rw [HC0.out]; simp [Hid, rc, dv, Value.oneCell']
        have HWS : Hid (w1.heap.size ≤ W.heap.size) := HW.out.2.size
        have HUL : Hid (∀ b, u7.ownBlock = some b → w1.heap.size ≤ b ∧ b < wr.heap.size) := HO.out.lt
        have HOLD : Hid (∀ o w3, (W.alloc o).grownBy w3 u7.ownBlock → w3.cell? ⟨wr.heap.size, 0, none⟩ = some (.int .i64 (r.off : Int)) ∧ w3.cell? ⟨wr.heap.size, 1, none⟩ = some (.int .i64 (r.en : Int))) := by
          intro o w3 hg
          have hlw := World.block_lt_of_cell? W _ c0
          have hne : some wr.heap.size ≠ u7.ownBlock := fun h => by have := (HUL.out _ h.symm).2; omega
          exact ⟨hg.cell (by rw [World.cell?_alloc_lt _ _ _ hlw]; exact c0) hne, hg.cell (by rw [World.cell?_alloc_lt _ _ _ (World.block_lt_of_cell? W _ c1)]; exact c1) hne⟩
        have hlnI : (fr : Int) + (r.en : Int) - (r.off : Int) = ((fr + ln r : Nat) : Int) := by unfold ln; omega
        have HFR2 : Hid (frOf start (K ++ [r]) = al (fr + ln r)) := by rw [frOf_append, ← HFR.out]; rfl
        have ha4 : fr ≤ 4194304 := by omega
        rcases hcase with e1 | ⟨e1, e2⟩
        all_goals
          go_upto_region 8 with (first
            | (at_builtin; refine wpList_append_own _ rfl (.tmp 44) (.tmp 46) 65 rfl w1.heap.size 70 i0 _ 22 88 Tryf.underlying65 hi hz0 hz1 hz2 rfl (by decide) u7 K.length (flat (fun r => rc r (dv bb r)) K) rfl (HW.out.1.alloc _) ⟨W.heap.size, 0, none⟩ 1 1 C0 rfl (by rw [hC0s]) HNEWS.out HONE.out (by unfold maxLen; omega) (by omega) (by have := HWS.out; simp; omega) ?_; intro v' w3 hown' hgrow hnil)
            | (refine wpList_load_mid rfl 70 (.tmp 10) rfl wr.heap.size 0 rfl C0 _ hcr.out Tryf.underlying70 rfl (by rw [info70, hC0s]) ?_))
          obtain ⟨d0, d1⟩ := HOLD.out _ _ hgrow
          have HOWN2 : Hid (w3.ownsRow w1.heap.size 70 22 v' (K ++ [r]).length (flat (fun r => rc r (dv bb r)) (K ++ [r]))) := by
            rw [flat_snoc, List.length_append, ← HC0.out]; exact hown'
          have HB2 : Hid (Below w1.heap.size w1 w3) := (HW.out.2.alloc HW.out.2.size _).grown hgrow (by have := HWS.out; simp; omega) (fun j hj => (HUL.out j hj).1)
          clear hown' hgrow hnil c3 c4 c5 c6 c7 c8 c9 c10 c11 c12 c13 c14 c15 c16 c17 c18 c19 v0 v1 v2 v3 v4 v5 v6 v7 v8 v9 v10 v11 v12 v13 v14 v15 v16 c0 c1 hfold
          go_wp2_with fail
          refine (alignUp (fr + ln r) (by omega) _).mono ?_
          rintro e w4 ⟨rfl, rfl⟩
          go_wp2_with fail
          go_roundw
          case rel => exact ⟨k + 1, by omega, by go_num, by rw [HKK.out, HFR2.out], by rw [HKK.out]; exact HOWN2.out, HB2.out⟩
          case measure => simp [intOf]; omega
    · have hkd : decide ((k : Int) < (m : Int)) = false := by simp; omega
      obtain rfl : k = m := by omega
      go_wp2_with fail
      refine HK2.out _ _ ?_
      have hKF : K = KF := by
        rw [HKF.out, HK.out, List.take_of_length_le (by rw [HCL.out]; exact Nat.le_refl _)]
      have hslt1 : s < w1.heap.size := by have := HW1.out; omega
      have eb : ∀ j, j < w.heap.size → wr.heap[j]? = w.heap[j]? := fun j hj => by
        have h1 := HW1.out
        rw [HB.out.block j (by omega), HB1.out.block j (by omega)]
        exact (World.grownBy_alloc w _ none).block j hj (by simp)
      have hstr := (eb s hslt).trans HST.out
      have hfe : fr ≤ en_ := by rw [HFR.out, hKF, HKF.out]; exact HFIT.out
      have hbw : Below w.heap.size w wr := by
        have h1 := HW1.out
        refine ⟨HB.out.os.trans HB1.out.os, HB.out.tape.trans HB1.out.tape, HB.out.output.trans HB1.out.output, ?_, eb⟩
        have := HB.out.size; omega
      have htp : F.answers wr.tape := by rw [hbw.tape]; exact HF.out
      by_cases hbig : (en_ : Int) - (fr : Int) < size
      · refine rest_no F s fr en_ w.heap.size vc size u7 _ _ wr htp rfl rfl rfl rfl rfl rfl ?_ ?_ hfe (by omega) hbig ?_
        · rw [cell_of_row wr s 4 _ _ _ hstr]; rfl
        · have h1 : wr.heap[w.heap.size]? = some (.cells VC 68 (0, 0)) := by rw [HB.out.block _ (by have := HW1.out; omega)]; exact HV1.out
          exact vc_range vc HVC.out h1 0 _ rfl
        · intro p w' hb'
          refine .inl ⟨by rw [← hKF, ← HFR.out]; exact hbig, ⟨p, rfl⟩, hbw.trans (hb'.mono hbw.size)⟩
      · refine rest_yes s bb T start fr free en_ K.length w1.heap.size size u7 _ K OB _ _ wr rfl rfl rfl rfl rfl rfl hstr (HOB.out.of_block (eb bb HOB.out.lt)) HO.out rfl (by omega) hslt1 (by have := HOB.out.lt; have := HW1.out; omega) HB.out.size HFR.out hfe hse heT hT (by omega) ?_ ?_
        · intro r hr
          obtain ⟨_, h1, h2, h3⟩ := HC.out r (HCM.out r (by
            rw [hKF, HKF.out, keptOf] at hr
            exact (List.mem_filter.1 hr).1))
          exact ⟨h1, by omega, h3⟩
        · intro w' nb ao cap hs' hnb hrow hup hbl hsz hos htp' hot
          have h1 := HW1.out
          have h2 := HB.out.size
          refine .inr ⟨by rw [← hKF, ← HFR.out]; omega, rfl, ⟨hos.trans hbw.os, htp'.trans hbw.tape, hot.trans hbw.output, by have := hbw.size; omega, fun j hj hne => (hbl j (by omega) (by simpa using hne)).trans (eb j hj)⟩, nb, ao, cap, ?_, by omega, ?_, ?_⟩
          · rw [← hKF, ← HFR.out]; exact hs'
          · rw [← hKF]; exact hrow
          · rw [← hKF]; exact hup
end Go.Proofs.Qxb6003952aFmt
