/- The law's own function: the records are listed. -/
import Derived.Test.Qxb6003952aFmtWalkQ
namespace Go.Proofs.Qxb6003952aFmt
open Go.RowKit Go.Extern.Stop Go.Stop Go.Extern
set_option linter.unusedVariables false

set_option maxRecDepth 1000000 in
set_option maxHeartbeats 6400000 in
theorem segG (B bb T c0 : Nat) (ao0 ao1 ao2 ao3 ao4 ao5 : Option Addr) (og eg n start post slack free en_ : Nat) (vid size : Int) (I S : Nat → Int) (L : Nat → Nat) (A : Nat → Int) (Q : Exit → Act → World → Prop) (a : Act) (w : World) (hsz : a.tmps.size = 848) (hd : a.defers = [])
    (h0 : a.tmps.getD 0 undef = .slice ao0 start start) (h1 : a.tmps.getD 1 undef = .slice ao1 post post) (h2 : a.tmps.getD 2 undef = .slice ao2 n n) (h3 : a.tmps.getD 3 undef = .slice ao3 n n) (h4 : a.tmps.getD 4 undef = .slice ao4 n n) (h5 : a.tmps.getD 5 undef = .slice ao5 n n) (h6 : a.tmps.getD 6 undef = .int .u16 (slack : Int)) (h7 : a.tmps.getD 7 undef = .int .u8 vid) (h8 : a.tmps.getD 8 undef = .int .i64 size) (h19 : a.tmps.getD 19 undef = .int .i64 (n : Int)) (h20 : a.tmps.getD 20 undef = .int .i64 (start : Int)) (h21 : a.tmps.getD 21 undef = .slice (some ⟨og, 0, none⟩) n n) (h22 : a.tmps.getD 22 undef = .slice (some ⟨eg, 0, none⟩) n n) (h25 : a.tmps.getD 25 undef = .int .i64 (free : Int)) (h26 : a.tmps.getD 26 undef = .int .i64 (en_ : Int)) (h27 : a.tmps.getD 27 undef = .int .i64 (T : Int)) (h28 : a.tmps.getD 28 undef = .slice (some ⟨bb, 0, none⟩) T T) (h33 : a.tmps.getD 33 undef = .int .i64 (c0 : Int))
    (hE : Env B w ao2 ao3 ao4 ao5 og eg n start I S L A) (hB : B ≤ w.heap.size) (hn : n ≤ 4096) (hc0 : c0 ≤ n) (hL : ∀ i, L i < 256) (hI : ∀ i, i < n → 0 ≤ I i ∧ I i < 256)
    (hQ : ∀ a' w', a'.tmps.size = 848 → a'.defers = [] → a'.tmps.getD 0 undef = .slice ao0 start start → a'.tmps.getD 1 undef = .slice ao1 post post → a'.tmps.getD 2 undef = .slice ao2 n n → a'.tmps.getD 3 undef = .slice ao3 n n → a'.tmps.getD 4 undef = .slice ao4 n n → a'.tmps.getD 5 undef = .slice ao5 n n → a'.tmps.getD 6 undef = .int .u16 (slack : Int) → a'.tmps.getD 7 undef = .int .u8 vid → a'.tmps.getD 8 undef = .int .i64 size → a'.tmps.getD 19 undef = .int .i64 (n : Int) → a'.tmps.getD 20 undef = .int .i64 (start : Int) → a'.tmps.getD 21 undef = .slice (some ⟨og, 0, none⟩) n n → a'.tmps.getD 22 undef = .slice (some ⟨eg, 0, none⟩) n n → a'.tmps.getD 25 undef = .int .i64 (free : Int) → a'.tmps.getD 26 undef = .int .i64 (en_ : Int) → a'.tmps.getD 27 undef = .int .i64 (T : Int) → a'.tmps.getD 28 undef = .slice (some ⟨bb, 0, none⟩) T T → (∃ g cp, a'.tmps.getD 37 undef = .slice (some ⟨g, 0, none⟩) (zl start L I S A n).length cp ∧ w'.ownsRow w.heap.size 50 22 (.slice (some ⟨g, 0, none⟩) (zl start L I S A n).length cp) (zl start L I S A n).length (flat zc (zl start L I S A n))) → Below w.heap.size w w' → Code.wp Tryf.prog (tk 31 (Tryf.f6.body.getD .skip)) Q a' w') :
    Code.wp Tryf.prog (tk 29 (Tryf.f6.body.getD .skip)) Q a w := by
  obtain ⟨f, hf, rfl⟩ := lit848 a hsz hd
  have e0 : f 0 = .slice ao0 start start := (hf 0).symm.trans h0
  have e1 : f 1 = .slice ao1 post post := (hf 1).symm.trans h1
  have e2 : f 2 = .slice ao2 n n := (hf 2).symm.trans h2
  have e3 : f 3 = .slice ao3 n n := (hf 3).symm.trans h3
  have e4 : f 4 = .slice ao4 n n := (hf 4).symm.trans h4
  have e5 : f 5 = .slice ao5 n n := (hf 5).symm.trans h5
  have e6 : f 6 = .int .u16 (slack : Int) := (hf 6).symm.trans h6
  have e7 : f 7 = .int .u8 vid := (hf 7).symm.trans h7
  have e8 : f 8 = .int .i64 size := (hf 8).symm.trans h8
  have e19 : f 19 = .int .i64 (n : Int) := (hf 19).symm.trans h19
  have e20 : f 20 = .int .i64 (start : Int) := (hf 20).symm.trans h20
  have e21 : f 21 = .slice (some ⟨og, 0, none⟩) n n := (hf 21).symm.trans h21
  have e22 : f 22 = .slice (some ⟨eg, 0, none⟩) n n := (hf 22).symm.trans h22
  have e25 : f 25 = .int .i64 (free : Int) := (hf 25).symm.trans h25
  have e26 : f 26 = .int .i64 (en_ : Int) := (hf 26).symm.trans h26
  have e27 : f 27 = .int .i64 (T : Int) := (hf 27).symm.trans h27
  have e28 : f 28 = .slice (some ⟨bb, 0, none⟩) T T := (hf 28).symm.trans h28
  have e33 : f 33 = .int .i64 (c0 : Int) := (hf 33).symm.trans h33
  have HQ : Hid (∀ a' w', a'.tmps.size = 848 → a'.defers = [] → a'.tmps.getD 0 undef = .slice ao0 start start → a'.tmps.getD 1 undef = .slice ao1 post post → a'.tmps.getD 2 undef = .slice ao2 n n → a'.tmps.getD 3 undef = .slice ao3 n n → a'.tmps.getD 4 undef = .slice ao4 n n → a'.tmps.getD 5 undef = .slice ao5 n n → a'.tmps.getD 6 undef = .int .u16 (slack : Int) → a'.tmps.getD 7 undef = .int .u8 vid → a'.tmps.getD 8 undef = .int .i64 size → a'.tmps.getD 19 undef = .int .i64 (n : Int) → a'.tmps.getD 20 undef = .int .i64 (start : Int) → a'.tmps.getD 21 undef = .slice (some ⟨og, 0, none⟩) n n → a'.tmps.getD 22 undef = .slice (some ⟨eg, 0, none⟩) n n → a'.tmps.getD 25 undef = .int .i64 (free : Int) → a'.tmps.getD 26 undef = .int .i64 (en_ : Int) → a'.tmps.getD 27 undef = .int .i64 (T : Int) → a'.tmps.getD 28 undef = .slice (some ⟨bb, 0, none⟩) T T → (∃ g cp, a'.tmps.getD 37 undef = .slice (some ⟨g, 0, none⟩) (zl start L I S A n).length cp ∧ w'.ownsRow w.heap.size 50 22 (.slice (some ⟨g, 0, none⟩) (zl start L I S A n).length cp) (zl start L I S A n).length (flat zc (zl start L I S A n))) → Below w.heap.size w w' → Code.wp Tryf.prog (tk 31 (Tryf.f6.body.getD .skip)) Q a' w') := hQ
  rw [e0, e1, e2, e3, e4, e5, e6, e7, e8, e19, e20, e21, e22, e25, e26, e27, e28, e33]
  clear h0 e0 h1 e1 h2 e2 h3 e3 h4 e4 h5 e5 h6 e6 h7 e7 h8 e8 h19 e19 h20 e20 h21 e21 h22 e22 h25 e25 h26 e26 h27 e27 h28 e28 h33 e33 hf hsz hd hQ
  conv => arg 2; whnf
  have HE : Hid (Env B w ao2 ao3 ao4 ao5 og eg n start I S L A) := hE
  have HL : Hid (∀ i, L i < 256) := hL
  have HI : Hid (∀ i, i < n → 0 ≤ I i ∧ I i < 256) := hI
  clear hE hL hI
  have hmk := make45 c0 (by omega)
  go_wp2_with fail
  rename_i K hK
  have HK : Hid (∀ (a : Act) (w : World), Code.wp Tryf.prog (tk 31 (Tryf.f6.body.getD .skip)) Q a w → K a w) := hK
  clear hK
  have HOWN : Hid ((w.alloc (.cells (mk50 c0) 50)).ownsRow w.heap.size 50 22 (.slice (some ⟨w.heap.size, 0, none⟩) 0 c0) 0 []) := World.ownsRow_made w _ c0 (Nat.le_refl _) (by unfold maxLen; omega) (by rw [mk50, size_madeCells])
  clear hmk
  obtain ⟨i0, hi, hz0, hz1, hz2⟩ := info_parts info50z
  go_loopw [37, 38] (fun zv iv wr => ∃ k g cp : Nat, k ≤ n ∧ iv = .int .i64 (k : Int) ∧ zv = .slice (some ⟨g, 0, none⟩) (zl start L I S A k).length cp ∧ wr.ownsRow w.heap.size 50 22 (.slice (some ⟨g, 0, none⟩) (zl start L I S A k).length cp) (zl start L I S A k).length (flat zc (zl start L I S A k)) ∧ Below w.heap.size w wr) (fun _ iv _ => n - (intOf iv).toNat)
  case atStart => exact ⟨0, w.heap.size, c0, Nat.zero_le _, rfl, rfl, HOWN.out, (Below.refl _ _).alloc (Nat.le_refl _) _⟩
  case round =>
    obtain ⟨k, g, cp, hk, rfl, rfl, hown, hb⟩ := hrel
    have HO : Hid (wr.ownsRow w.heap.size 50 22 (.slice (some ⟨g, 0, none⟩) (zl start L I S A k).length cp) (zl start L I S A k).length (flat zc (zl start L I S A k))) := hown
    have HB : Hid (Below w.heap.size w wr) := hb
    clear hown hb HOWN
    by_cases hlt : k < n
    · have hki : (k : Int) < (n : Int) := by omega
      have hEk := HE.out.keep fun j hj => HB.out.block j (Nat.lt_of_lt_of_le hj hB)
      obtain ⟨b2, o2, hb2, ha2, hc2⟩ := hEk.d2.at hlt
      obtain ⟨b3, o3, hb3, ha3, hc3⟩ := hEk.d3.at hlt
      obtain ⟨b4, o4, hb4, ha4, hc4⟩ := hEk.d4.at hlt
      obtain ⟨b5, o5, hb5, ha5, hc5⟩ := hEk.d5.at hlt
      have hiy2 := index22 (c := n) hlt ha2
      have hiy3 := index22 (c := n) hlt ha3
      have hiy4 := index22 (c := n) hlt ha4
      have hiy5 := index35 (c := n) hlt ha5
      have hixo := ix40 (g := og) (c := n) hlt
      have hixe := ix40 (g := eg) (c := n) hlt
      obtain ⟨o, ho⟩ : ∃ o, o = offAt start L k := ⟨_, rfl⟩
      obtain ⟨en, hen⟩ : ∃ en, en = enAt start L k := ⟨_, rfl⟩
      obtain ⟨l, hl⟩ : ∃ l, l = L k := ⟨_, rfl⟩
      have hl256 : l < 256 := by rw [hl]; exact HL.out k
      have hco : wr.cell? ⟨og, k, none⟩ = some (.int .i64 (o : Int)) := by rw [hEk.ro.cell hlt, ho]; rfl
      have hce : wr.cell? ⟨eg, k, none⟩ = some (.int .i64 (en : Int)) := by rw [hEk.re.cell hlt, hen]; rfl
      rw [← hl] at hc4
      obtain ⟨x2, hx2⟩ : ∃ x, x = I k := ⟨_, rfl⟩
      obtain ⟨x5, hx5⟩ : ∃ x, x = A k := ⟨_, rfl⟩
      obtain ⟨x3, hx3⟩ : ∃ x, x = S k := ⟨_, rfl⟩
      have h20 : 0 ≤ x2 ∧ x2 < 256 := by rw [hx2]; exact HI.out k hlt
      obtain ⟨h20, h2l⟩ := h20
      rw [← hx2] at hc2
      rw [← hx3] at hc3
      rw [← hx5] at hc5
      obtain ⟨t, ht⟩ : ∃ t, Int.tmod x3 3 = t := ⟨_, rfl⟩
      have HTT : Hid (t = tOf S k) := by rw [← ht, hx3]; rfl
      have HZL : Hid ((zl start L I S A k).length ≤ k) := zl_len _ _ _ _ _ _
      have hlo : og < B := HE.out.lo
      have hle : eg < B := HE.out.le
      have hBs : B ≤ wr.heap.size := Nat.le_trans hB HB.out.size
      obtain ⟨C0, hC0⟩ : ∃ C0 : List Value, C0 = zc (recOf start L I S A k) := ⟨_, rfl⟩
      have HC0 : Hid (C0 = zc (recOf start L I S A k)) := hC0
      have hC0s : C0.length = 22 := by rw [hC0]; rfl
      have hC : (#[.int .i64 (o : Int), .int .i64 (en : Int), .int .u8 (stOf t), .string (nmOf x2), .int .u8 (gOf x2), .int .u8 0, .int .u8 0, .int .u8 0, .int .u8 0, .int .u8 0, .int .u8 0, .int .u8 0, .int .u8 0, .int .u8 0, .int .u8 0, .int .u8 0, .int .u8 0, .int .u8 0, .int .u8 0, .int .u8 0, .int .u32 x5, .int .i64 (l : Int)] : Array Value) = C0.toArray := by
        rw [hC0]
        have e1 := nm8 (I k)
        have e2 := g8 (I k)
        simp only [zc, recOf, Rec.nm, Rec.g, e1, e2, ho, hen, hl, hx2, hx5, HTT.out]
      clear ha2 ha3 ha4 ha5 hx2 hx3 hx5 ho hen hl hEk hC0
      by_cases h2 : t = 2
      · have HZ : Hid (zl start L I S A (k + 1) = zl start L I S A k) := zl_out (by rw [← HTT.out]; exact h2)
        subst h2
        go_wp2_with fail
        go_roundw
        case rel => exact ⟨k + 1, g, cp, by omega, by go_num, by rw [HZ.out], by rw [HZ.out]; exact HO.out, HB.out⟩
        case measure => simp [intOf]; omega
      · have HZ : Hid (zl start L I S A (k + 1) = zl start L I S A k ++ [recOf start L I S A k]) := zl_in (by rw [← HTT.out]; exact h2)
        obtain ⟨zn, hzn⟩ : ∃ zn, zn = (zl start L I S A k).length := ⟨_, rfl⟩
        have HZN : Hid (zn = (zl start L I S A k).length) := hzn
        have hznk : zn ≤ k := by rw [hzn]; exact HZL.out
        rw [← hzn] at HO ⊢
        have hfold : ∀ z : Array Value, z.size = 22 → List.foldl (fun (cs : Array Value) (x : Value × Nat) => cs.setIfInBounds x.snd x.fst) z C0.zipIdx = C0.toArray := fun z hz => foldq_cells z (by rw [hz, hC0s])
        have HONE : Hid (∀ u ∈ C0, u.oneCell' = true) := by rw [HC0.out]; simp [Hid, zc, Value.oneCell']
        have HWS : Hid (w.heap.size ≤ wr.heap.size) := HB.out.size
        have HUL : Hid (w.heap.size ≤ g ∧ g < wr.heap.size) := HO.out.lt g rfl
        go_upto_region 79 with fail
        clear hzn hki
        have hul1 : w.heap.size ≤ g := HUL.out.1
        have hwl : IntKind.i64.wrap (l : Int) = (l : Int) := by rw [IntKind.wrap_i64]; omega
        go_region_held3 (fun w' => w'.cell? ⟨og, k, none⟩ = some (.int .i64 (o : Int)) ∧ w'.cell? ⟨eg, k, none⟩ = some (.int .i64 (en : Int)) ∧ w'.cell? ⟨b2, o2 + k, none⟩ = some (.int .u8 x2) ∧ w'.cell? ⟨b3, o3 + k, none⟩ = some (.int .u8 x3) ∧ w'.cell? ⟨b4, o4 + k, none⟩ = some (.int .u8 (l : Int)) ∧ w'.cell? ⟨b5, o5 + k, none⟩ = some (.int .u32 x5) ∧ B ≤ w'.heap.size)
          (first
            | (go_split_ands; simp only [World.cell?_drew]; refine ⟨?_, ?_, ?_, ?_, ?_, ?_, ?_⟩ <;> first | with_reducible assumption | exact hBs)
            | (go_split_ands; refine ⟨?_, ?_, ?_, ?_, ?_, ?_, ?_⟩ <;> with_reducible assumption)
            | (go_split_ands
               refine ⟨?_, ?_, ?_, ?_, ?_, ?_, ?_⟩
               · (rw [hbq.cell (by show og < _; omega)]; assumption)
               · (rw [hbq.cell (by show eg < _; omega)]; assumption)
               · (rw [hbq.cell (by show b2 < _; omega)]; assumption)
               · (rw [hbq.cell (by show b3 < _; omega)]; assumption)
               · (rw [hbq.cell (by show b4 < _; omega)]; assumption)
               · (rw [hbq.cell (by show b5 < _; omega)]; assumption)
               · exact Nat.le_trans (by assumption) hbq.size)
            | (go_split_ands
               refine ⟨?_, ?_, ?_, ?_, ?_, ?_, ?_⟩
               · (rw [World.cell?_alloc_lt _ _ _ (by show og < _; omega)]; assumption)
               · (rw [World.cell?_alloc_lt _ _ _ (by show eg < _; omega)]; assumption)
               · (rw [World.cell?_alloc_lt _ _ _ (by show b2 < _; omega)]; assumption)
               · (rw [World.cell?_alloc_lt _ _ _ (by show b3 < _; omega)]; assumption)
               · (rw [World.cell?_alloc_lt _ _ _ (by show b4 < _; omega)]; assumption)
               · (rw [World.cell?_alloc_lt _ _ _ (by show b5 < _; omega)]; assumption)
               · (simp; omega))
            | (go_split_ands
               refine ⟨hgrow.cell (by assumption) ?_, hgrow.cell (by assumption) ?_, hgrow.cell (by assumption) ?_, hgrow.cell (by assumption) ?_, hgrow.cell (by assumption) ?_, hgrow.cell (by assumption) ?_, Nat.le_trans (by assumption) hgrow.size⟩ <;> (simp [Value.ownBlock]; omega)))
          ((first
            | (refine step_append_lies _ (by rfl) (.tmp 390) (.tmp 425) 45 (by rfl) w.heap.size 50 i0 _ 22 72 Tryf.underlying45 hi hz0 hz1 hz2 (by rfl) (by decide) (.slice (some ⟨g, 0, none⟩) zn cp) zn (flat zc (zl start L I S A k)) (by rfl) (by exact (own_below (w := wr.drew) HO.out hbq).alloc _) ⟨wq.heap.size, 0, none⟩ 1 1 C0 (by rfl) (by rw [hC0s]) (fun j u hu => World.news_of_block (heap_alloc_last wq (.cells C0.toArray 50)) j u (by simpa using hu)) HONE.out (by decide) (by unfold maxLen; omega) (by omega) (by have h1 := HWS.out; have h2 : wr.heap.size ≤ wq.heap.size := hbq.size; simp; omega) _ rfl ?_; intro g' cap' w3 hown' hgrow hat hlt3)
            | (go_at_call 21; refine (stateByte _ _).mono ?_; rintro e wq ⟨rfl, rfl⟩)
            | (go_at_call 22; refine (name _ h20 h2l _).mono ?_; rintro e wq ⟨rfl, rfl⟩)
            | (go_at_call 23; refine (guid' _ h20 h2l _).mono ?_; rintro e wq ⟨rfl, hbq⟩)
            | (fail)))
        have HFIN : Hid (Below w.heap.size w w3 ∧ w3.ownsRow w.heap.size 50 22 (.slice (some ⟨g', 0, none⟩) (zn + 1) cap') (zn + 1) (flat zc (zl start L I S A (k + 1)))) := by
          have h1 := HWS.out
          have h2 : wr.heap.size ≤ wq.heap.size := hbq.size
          have hb1 : Below w.heap.size w wq := HB.out.drew.trans (hbq.mono h1)
          refine ⟨(hb1.alloc (by omega) _).grown hgrow (by simp; omega) (fun j hj => ?_), ?_⟩
          · have : g = j := by simpa [Value.ownBlock] using hj
            omega
          · rw [HZ.out, flat_snoc, ← HC0.out]; exact hown'
        clear hown' hgrow hat hlt3 hbq
        go_wp2_with fail
        go_roundw
        case rel =>
          refine ⟨k + 1, g', cap', by omega, by go_num, ?_, ?_, HFIN.out.1⟩
          · rw [HZ.out, List.length_append, ← HZN.out]; rfl
          · rw [HZ.out, List.length_append, ← HZN.out, ← HZ.out]; exact HFIN.out.2
        case measure => simp [intOf]; omega
    · have hkd : decide ((k : Int) < (n : Int)) = false := by simp; omega
      obtain rfl : k = n := by omega
      go_wp2_with fail
      refine HK.out _ _ ?_
      refine HQ.out _ _ rfl rfl rfl rfl rfl rfl rfl rfl rfl rfl rfl rfl rfl rfl rfl rfl rfl rfl rfl ⟨g, cp, rfl, HO.out⟩ HB.out
end Go.Proofs.Qxb6003952aFmt
