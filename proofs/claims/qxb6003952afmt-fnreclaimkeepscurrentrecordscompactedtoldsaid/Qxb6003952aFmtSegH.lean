/- The law's own function: which records are kept. -/
import Derived.Test.Qxb6003952aFmtWalkQ
namespace Go.Proofs.Qxb6003952aFmt
open Go.RowKit Go.Extern.Stop Go.Stop Go.Extern
set_option linter.unusedVariables false

/-- The indexes below k of the records that are kept. -/
def KeptI (n : Nat) (I S : Nat → Int) (vk : Int) (k : Nat) (M : List Nat) : Prop := M.Pairwise (· < ·) ∧ ∀ i, i ∈ M ↔ i < k ∧ I i % 8 ≠ vk ∧ curP n (fun j => I j % 8) (tOf S) i
theorem KeptI.start (n : Nat) (I S : Nat → Int) (vk : Int) : KeptI n I S vk 0 [] := ⟨List.Pairwise.nil, fun i => by simp⟩
theorem KeptI.take {n : Nat} {I S : Nat → Int} {vk : Int} {k : Nat} {M : List Nat} (h : KeptI n I S vk k M) (h1 : I k % 8 ≠ vk) (h2 : curP n (fun j => I j % 8) (tOf S) k) : KeptI n I S vk (k + 1) (M ++ [k]) := by
  refine ⟨List.pairwise_append.2 ⟨h.1, List.pairwise_singleton _ _, fun a ha b hb => ?_⟩, fun i => ?_⟩
  · rw [List.mem_singleton] at hb
    subst hb
    exact ((h.2 a).1 ha).1
  · rw [List.mem_append, List.mem_singleton, h.2 i]
    constructor
    · rintro (⟨a, b, c⟩ | rfl)
      · exact ⟨by omega, b, c⟩
      · exact ⟨by omega, h1, h2⟩
    · rintro ⟨a, b, c⟩
      by_cases e : i = k
      · exact .inr e
      · exact .inl ⟨by omega, b, c⟩
theorem KeptI.skip {n : Nat} {I S : Nat → Int} {vk : Int} {k : Nat} {M : List Nat} (h : KeptI n I S vk k M) (hn : ¬ (I k % 8 ≠ vk ∧ curP n (fun j => I j % 8) (tOf S) k)) : KeptI n I S vk (k + 1) M := by
  refine ⟨h.1, fun i => ?_⟩
  rw [h.2 i]
  constructor
  · rintro ⟨a, b, c⟩
    exact ⟨by omega, b, c⟩
  · rintro ⟨a, b, c⟩
    by_cases e : i = k
    · subst e; exact absurd ⟨b, c⟩ hn
    · exact ⟨by omega, b, c⟩
theorem KeptI.len {n : Nat} {I S : Nat → Int} {vk : Int} {k : Nat} {M : List Nat} (h : KeptI n I S vk k M) : M.length ≤ k := by
  have hnd : M.Nodup := h.1.imp (fun hab => Nat.ne_of_lt hab)
  have hsub : M ⊆ List.range k := fun i hi => List.mem_range.2 ((h.2 i).1 hi).1
  have := hnd.length_le_of_subset hsub
  simpa using this
theorem mk40 (M : Nat) (hM : M ≤ 4096) (w : World) : (Instr.makeSlice 40 (.int .i64 0) (.int .i64 (M : Int))).run Tryf.prog w = .ok (.slice (some ⟨w.heap.size, 0, none⟩) 0 M) (w.alloc (.cells (madeCells #[.int .i64 0] M) 3)) := by
  obtain ⟨i0, hi, hz0, hz1, hz2⟩ := info_parts info3
  have hmk := run_make (P := Tryf.prog) w 40 3 i0 _ Tryf.underlying40 hi hz0 .i64 .i64 0 (M : Int) (by omega) (by omega) (by rw [hz2]; omega) (by omega)
  rw [hz1] at hmk
  simp at hmk
  exact hmk
set_option maxRecDepth 1000000 in
set_option maxHeartbeats 6400000 in
theorem segH (B bb T : Nat) (ao0 ao1 ao2 ao3 ao4 ao5 : Option Addr) (og eg n start post slack free en_ zg m zcap : Nat) (vid size : Int) (X I S : Nat → Int) (L : Nat → Nat) (A : Nat → Int) (Q : Exit → Act → World → Prop) (a : Act) (w : World) (hsz : a.tmps.size = 848) (hd : a.defers = [])
    (h0 : a.tmps.getD 0 undef = .slice ao0 start start) (h1 : a.tmps.getD 1 undef = .slice ao1 post post) (h2 : a.tmps.getD 2 undef = .slice ao2 n n) (h3 : a.tmps.getD 3 undef = .slice ao3 n n) (h4 : a.tmps.getD 4 undef = .slice ao4 n n) (h5 : a.tmps.getD 5 undef = .slice ao5 n n) (h6 : a.tmps.getD 6 undef = .int .u16 (slack : Int)) (h7 : a.tmps.getD 7 undef = .int .u8 vid) (h8 : a.tmps.getD 8 undef = .int .i64 size) (h19 : a.tmps.getD 19 undef = .int .i64 (n : Int)) (h20 : a.tmps.getD 20 undef = .int .i64 (start : Int)) (h21 : a.tmps.getD 21 undef = .slice (some ⟨og, 0, none⟩) n n) (h22 : a.tmps.getD 22 undef = .slice (some ⟨eg, 0, none⟩) n n) (h25 : a.tmps.getD 25 undef = .int .i64 (free : Int)) (h26 : a.tmps.getD 26 undef = .int .i64 (en_ : Int)) (h27 : a.tmps.getD 27 undef = .int .i64 (T : Int)) (h28 : a.tmps.getD 28 undef = .slice (some ⟨bb, 0, none⟩) T T) (h37 : a.tmps.getD 37 undef = .slice (some ⟨zg, 0, none⟩) m zcap)
    (hrow : w.rowIs bb 5 T (V .u8 X)) (hE : Env B w ao2 ao3 ao4 ao5 og eg n start I S L A) (hB : B ≤ w.heap.size) (hT : T ≤ 2097152) (hn : n ≤ 4096) (hI : ∀ i, i < n → 0 ≤ I i ∧ I i < 256) (hv0 : 0 ≤ vid) (hv1 : vid < 256)
    (hQ : ∀ a' w', a'.tmps.size = 848 → a'.defers = [] → a'.tmps.getD 0 undef = .slice ao0 start start → a'.tmps.getD 1 undef = .slice ao1 post post → a'.tmps.getD 2 undef = .slice ao2 n n → a'.tmps.getD 3 undef = .slice ao3 n n → a'.tmps.getD 4 undef = .slice ao4 n n → a'.tmps.getD 5 undef = .slice ao5 n n → a'.tmps.getD 6 undef = .int .u16 (slack : Int) → a'.tmps.getD 7 undef = .int .u8 vid → a'.tmps.getD 8 undef = .int .i64 size → a'.tmps.getD 19 undef = .int .i64 (n : Int) → a'.tmps.getD 20 undef = .int .i64 (start : Int) → a'.tmps.getD 21 undef = .slice (some ⟨og, 0, none⟩) n n → a'.tmps.getD 22 undef = .slice (some ⟨eg, 0, none⟩) n n → a'.tmps.getD 25 undef = .int .i64 (free : Int) → a'.tmps.getD 26 undef = .int .i64 (en_ : Int) → a'.tmps.getD 27 undef = .int .i64 (T : Int) → a'.tmps.getD 28 undef = .slice (some ⟨bb, 0, none⟩) T T → a'.tmps.getD 37 undef = .slice (some ⟨zg, 0, none⟩) m zcap → (∃ (ob g cp : Nat) (M : List Nat), a'.tmps.getD 39 undef = .slice (some ⟨ob, 0, none⟩) T T ∧ w.heap.size ≤ ob ∧ w'.rowIs ob 5 T (V .u8 X) ∧ a'.tmps.getD 41 undef = .slice (some ⟨g, 0, none⟩) M.length cp ∧ w'.ownsRow w.heap.size 3 1 (.slice (some ⟨g, 0, none⟩) M.length cp) M.length (M.map fun i : Nat => Value.int .i64 (i : Int)) ∧ KeptI n I S (vid % 8) n M) → Below w.heap.size w w' → Code.wp Tryf.prog (tk 35 (Tryf.f6.body.getD .skip)) Q a' w') :
    Code.wp Tryf.prog (tk 31 (Tryf.f6.body.getD .skip)) Q a w := by
  obtain ⟨f, hf, rfl⟩ := lit848 a hsz hd
  have e0 : f 0 = .slice ao0 start start := (hf 0).symm.trans h0
  have e1 : f 1 = .slice ao1 post post := (hf 1).symm.trans h1
  have e2 : f 2 = .slice ao2 n n := (hf 2).symm.trans h2
  have e3 : f 3 = .slice ao3 n n := (hf 3).symm.trans h3
  have e4 : f 4 = .slice ao4 n n := (hf 4).symm.trans h4
  have e5 : f 5 = .slice ao5 n n := (hf 5).symm.trans h5
  have e6 : f 6 = .int .u16 (slack : Int) := (hf 6).symm.trans h6
  have e7 : f 7 = .int .u8 vid := (hf 7).symm.trans h7
  have e8 : f 8 = .int .i64 size := (hf 8).symm.trans h8
  have e19 : f 19 = .int .i64 (n : Int) := (hf 19).symm.trans h19
  have e20 : f 20 = .int .i64 (start : Int) := (hf 20).symm.trans h20
  have e21 : f 21 = .slice (some ⟨og, 0, none⟩) n n := (hf 21).symm.trans h21
  have e22 : f 22 = .slice (some ⟨eg, 0, none⟩) n n := (hf 22).symm.trans h22
  have e25 : f 25 = .int .i64 (free : Int) := (hf 25).symm.trans h25
  have e26 : f 26 = .int .i64 (en_ : Int) := (hf 26).symm.trans h26
  have e27 : f 27 = .int .i64 (T : Int) := (hf 27).symm.trans h27
  have e28 : f 28 = .slice (some ⟨bb, 0, none⟩) T T := (hf 28).symm.trans h28
  have e37 : f 37 = .slice (some ⟨zg, 0, none⟩) m zcap := (hf 37).symm.trans h37
  have HQ : Hid (∀ a' w', a'.tmps.size = 848 → a'.defers = [] → a'.tmps.getD 0 undef = .slice ao0 start start → a'.tmps.getD 1 undef = .slice ao1 post post → a'.tmps.getD 2 undef = .slice ao2 n n → a'.tmps.getD 3 undef = .slice ao3 n n → a'.tmps.getD 4 undef = .slice ao4 n n → a'.tmps.getD 5 undef = .slice ao5 n n → a'.tmps.getD 6 undef = .int .u16 (slack : Int) → a'.tmps.getD 7 undef = .int .u8 vid → a'.tmps.getD 8 undef = .int .i64 size → a'.tmps.getD 19 undef = .int .i64 (n : Int) → a'.tmps.getD 20 undef = .int .i64 (start : Int) → a'.tmps.getD 21 undef = .slice (some ⟨og, 0, none⟩) n n → a'.tmps.getD 22 undef = .slice (some ⟨eg, 0, none⟩) n n → a'.tmps.getD 25 undef = .int .i64 (free : Int) → a'.tmps.getD 26 undef = .int .i64 (en_ : Int) → a'.tmps.getD 27 undef = .int .i64 (T : Int) → a'.tmps.getD 28 undef = .slice (some ⟨bb, 0, none⟩) T T → a'.tmps.getD 37 undef = .slice (some ⟨zg, 0, none⟩) m zcap → (∃ (ob g cp : Nat) (M : List Nat), a'.tmps.getD 39 undef = .slice (some ⟨ob, 0, none⟩) T T ∧ w.heap.size ≤ ob ∧ w'.rowIs ob 5 T (V .u8 X) ∧ a'.tmps.getD 41 undef = .slice (some ⟨g, 0, none⟩) M.length cp ∧ w'.ownsRow w.heap.size 3 1 (.slice (some ⟨g, 0, none⟩) M.length cp) M.length (M.map fun i : Nat => Value.int .i64 (i : Int)) ∧ KeptI n I S (vid % 8) n M) → Below w.heap.size w w' → Code.wp Tryf.prog (tk 35 (Tryf.f6.body.getD .skip)) Q a' w') := hQ
  rw [e0, e1, e2, e3, e4, e5, e6, e7, e8, e19, e20, e21, e22, e25, e26, e27, e28, e37]
  clear h0 e0 h1 e1 h2 e2 h3 e3 h4 e4 h5 e5 h6 e6 h7 e7 h8 e8 h19 e19 h20 e20 h21 e21 h22 e22 h25 e25 h26 e26 h27 e27 h28 e28 h37 e37 hf hsz hd hQ
  conv => arg 2; whnf
  have HROW : Hid (w.rowIs bb 5 T (V .u8 X)) := hrow
  have HE : Hid (Env B w ao2 ao3 ao4 ao5 og eg n start I S L A) := hE
  have HI : Hid (∀ i, i < n → 0 ≤ I i ∧ I i < 256) := hI
  have hblt := HROW.out.lt
  have hmk := mk40 n hn
  have hvk := and7 vid hv0 hv1
  obtain ⟨vk, hvke⟩ : ∃ vk, vid % 8 = vk := ⟨_, rfl⟩
  rw [hvke] at hvk HQ
  clear hrow hE hI hvke
  go_wp2_with fail
  refine (clone_some ⟨bb, 0, none⟩ T T X (by omega) w (fun i hi => by rw [Addr.add_lit, Nat.zero_add]; exact HROW.out.cell hi)).mono ?_
  rintro e w1 ⟨rfl, hrow1, hb1⟩
  have HR1 : Hid (w1.rowIs w.heap.size 5 T (V .u8 X)) := hrow1
  have HB1 : Hid (Below w.heap.size w w1) := hb1
  have HLT : Hid (w.heap.size < w1.heap.size) := hrow1.lt
  clear hrow1 hb1
  go_wp2_with fail
  rename_i K hK
  have HK : Hid (∀ (a : Act) (w : World), Code.wp Tryf.prog (tk 35 (Tryf.f6.body.getD .skip)) Q a w → K a w) := hK
  clear hK
  have HOWN : Hid ((w1.alloc (.cells (madeCells #[.int .i64 0] n) 3)).ownsRow (w.heap.size + 1) 3 1 (.slice (some ⟨w1.heap.size, 0, none⟩) 0 n) 0 []) := World.ownsRow_made w1 _ n (by have := HLT.out; omega) (by unfold maxLen; omega) (by rw [size_madeCells]; simp)
  have HB2 : Hid (Below (w.heap.size + 1) w1 (w1.alloc (.cells (madeCells #[.int .i64 0] n) 3))) := (Below.refl _ _).alloc (by have := HLT.out; omega) _
  clear hmk
  obtain ⟨i0, hi, hz0, hz1, hz2⟩ := info_parts info3
  go_loopw [41, 42] (fun kv iv wr => ∃ (k g cp : Nat) (M : List Nat), k ≤ n ∧ iv = .int .i64 (k : Int) ∧ kv = .slice (some ⟨g, 0, none⟩) M.length cp ∧ wr.ownsRow (w.heap.size + 1) 3 1 (.slice (some ⟨g, 0, none⟩) M.length cp) M.length (M.map fun i : Nat => Value.int .i64 (i : Int)) ∧ KeptI n I S vk k M ∧ Below (w.heap.size + 1) w1 wr) (fun _ iv _ => n - (intOf iv).toNat)
  case atStart => exact ⟨0, w1.heap.size, n, [], Nat.zero_le _, rfl, rfl, HOWN.out, KeptI.start _ _ _ _, HB2.out⟩
  case round =>
    obtain ⟨k, g, cp, M, hk, rfl, rfl, hown, hkept, hb⟩ := hrel
    have HO : Hid (wr.ownsRow (w.heap.size + 1) 3 1 (.slice (some ⟨g, 0, none⟩) M.length cp) M.length (M.map fun i : Nat => Value.int .i64 (i : Int))) := hown
    have HKP : Hid (KeptI n I S vk k M) := hkept
    have HB : Hid (Below (w.heap.size + 1) w1 wr) := hb
    have hMl : M.length ≤ k := hkept.len
    have HBw : Hid (Below w.heap.size w wr) := HB1.out.trans (hb.mono (by omega))
    clear hown hb HOWN hkept
    by_cases hlt : k < n
    · have hki : (k : Int) < (n : Int) := by omega
      have hEk := HE.out.keep fun j hj => HBw.out.block j (Nat.lt_of_lt_of_le hj hB)
      have HEK : Hid (Env B wr ao2 ao3 ao4 ao5 og eg n start I S L A) := hEk
      obtain ⟨b2, o2, hb2, ha2, hc2⟩ := hEk.d2.at hlt
      have hiy2 := index22 (c := n) hlt ha2
      have hI2 := HI.out k hlt
      have ha7 := and7 (I k) hI2.1 hI2.2
      have hcond := isCurrent ao2 ao3 n n n k I S (fun j => I j % 8) (tOf S) wr hn hlt hEk.d2.dat hEk.d3.dat (fun j hj => and7 (I j) (HI.out j hj).1 (HI.out j hj).2) (fun j hj => rfl)
      have HCUR : Hid (Calls Tryf.prog 24 #[.slice ao2 n n, .slice ao3 n n, .int .i64 (k : Int)] wr fun e w' => Says e (curP n (fun j => I j % 8) (tOf S) k) ∧ w' = wr) := hcond
      have HWS : Hid (w.heap.size + 1 ≤ wr.heap.size) := by have h1 := HLT.out; have h2 := HB.out.size; unfold Hid; omega
      clear ha2 hcond hEk hI2
      obtain ⟨x8, hx8⟩ : ∃ x8, I k % 8 = x8 := ⟨_, rfl⟩
      rw [hx8] at ha7
      have HX8 : Hid (I k % 8 = x8) := hx8
      clear hx8
      by_cases hne : x8 = vk
      · have HSK : Hid (KeptI n I S vk (k + 1) M) := HKP.out.skip fun h => h.1 (HX8.out.trans hne)
        subst hne
        go_wp2_with fail
        go_roundw
        case rel => exact ⟨k + 1, g, cp, M, by omega, by go_num, rfl, HO.out, HSK.out, HB.out⟩
        case measure => simp [intOf]; omega
      · have hned : decide (x8 = vk) = false := by simp [hne]
        go_wp2_with fail
        refine HCUR.out.mono ?_
        rintro e w' ⟨⟨r, rfl, hr⟩, rfl⟩
        cases r with
        | false =>
          have HSK : Hid (KeptI n I S vk (k + 1) M) := HKP.out.skip fun h => by have := hr.2 h.2; cases this
          clear hr
          go_wp2_with fail
          go_roundw
          case rel => exact ⟨k + 1, g, cp, M, by omega, by go_num, rfl, HO.out, HSK.out, HB.out⟩
          case measure => simp [intOf]; omega
        | true =>
          have HTK : Hid (KeptI n I S vk (k + 1) (M ++ [k])) := HKP.out.take (fun h => hne (HX8.out.symm.trans h)) (hr.1 rfl)
          clear hr
          obtain ⟨mn, hmn⟩ : ∃ mn, mn = M.length := ⟨_, rfl⟩
          have HMN : Hid (mn = M.length) := hmn
          have hmnk : mn ≤ k := by rw [hmn]; exact hMl
          rw [← hmn] at HO ⊢
          clear hmn hMl
          go_wp2_with (at_builtin; refine wpList_append_lies _ rfl (.tmp 451) (.tmp 453) 40 rfl (w.heap.size + 1) 3 i0 _ 1 8 Tryf.underlying40 hi hz0 hz1 hz2 rfl (by decide) (.slice (some ⟨g, 0, none⟩) mn cp) mn (M.map fun i : Nat => Value.int .i64 (i : Int)) rfl (HO.out.alloc _) ⟨w'.heap.size, 0, none⟩ 1 1 [.int .i64 (k : Int)] rfl rfl (fun j u hu => World.news_of_block (heap_alloc_last w' (.cells #[.int .i64 (k : Int)] 3)) j u (by simpa using hu)) (by simp [Value.oneCell']) (by decide) (by unfold maxLen; omega) (by omega) (by have h1 := HWS.out; simp; omega) _ rfl ?_; intro g' cap' w3 hown' hgrow hat hlt3)
          go_roundw
          case rel =>
            refine ⟨k + 1, g', cap', M ++ [k], by omega, by go_num, by rw [List.length_append, ← HMN.out]; rfl, ?_, HTK.out, (HB.out.alloc (by have := HWS.out; omega) _).grown hgrow (by have := HWS.out; simp; omega) (fun j hj => (HO.out.lt j hj).1)⟩
            rw [List.length_append, ← HMN.out, List.map_append]
            exact hown'
          case measure => simp [intOf]; omega
    · have hkd : decide ((k : Int) < (n : Int)) = false := by simp; omega
      obtain rfl : k = n := by omega
      go_wp2_with fail
      refine HK.out _ _ ?_
      refine HQ.out _ _ rfl rfl rfl rfl rfl rfl rfl rfl rfl rfl rfl rfl rfl rfl rfl rfl rfl rfl rfl rfl ⟨w.heap.size, g, cp, M, rfl, Nat.le_refl _, HR1.out.of_block (HB.out.block _ (by omega)), rfl, ?_, HKP.out⟩ HBw.out
      refine ⟨HO.out.1, ?_⟩
      rcases HO.out.2 with h | ⟨g0, cap0, cur0, h1, h2, h3⟩
      · exact .inl h
      · exact .inr ⟨g0, cap0, cur0, h1, by omega, h3⟩
end Go.Proofs.Qxb6003952aFmt
