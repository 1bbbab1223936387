/- The law's own function: the records' bytes are laid. -/
import Derived.Test.Qxb6003952aFmtSegE
namespace Go.Proofs.Qxb6003952aFmt
open Go.RowKit Go.Extern.Stop Go.Stop Go.Extern
set_option linter.unusedVariables false

theorem put_any {w W : World} {b T k : Nat} {X : Nat → Int} {x : Int} (h : w.rowIs b 5 T (V .u8 X)) (hW : w.setCell ⟨b, k, none⟩ (.int .u8 x) = W) : ∃ X', W.rowIs b 5 T (V .u8 X') := hW ▸ ⟨_, put_row k x h⟩
theorem grown_any {w W : World} {b j : Nat} {v : Value} (hW : w.setCell ⟨b, j, none⟩ v = W) : w.grownBy W (some b) := hW ▸ grown_set w b j v
set_option maxRecDepth 1000000 in
set_option maxHeartbeats 6400000 in
theorem segF (B bb T : Nat) (ao0 ao1 ao2 ao3 ao4 ao5 : Option Addr) (og eg n start post slack free en_ : Nat) (vid size : Int) (X I S : Nat → Int) (L : Nat → Nat) (A : Nat → Int) (Q : Exit → Act → World → Prop) (a : Act) (w : World) (hsz : a.tmps.size = 848) (hd : a.defers = [])
    (h0 : a.tmps.getD 0 undef = .slice ao0 start start) (h1 : a.tmps.getD 1 undef = .slice ao1 post post) (h2 : a.tmps.getD 2 undef = .slice ao2 n n) (h3 : a.tmps.getD 3 undef = .slice ao3 n n) (h4 : a.tmps.getD 4 undef = .slice ao4 n n) (h5 : a.tmps.getD 5 undef = .slice ao5 n n) (h6 : a.tmps.getD 6 undef = .int .u16 (slack : Int)) (h7 : a.tmps.getD 7 undef = .int .u8 vid) (h8 : a.tmps.getD 8 undef = .int .i64 size) (h19 : a.tmps.getD 19 undef = .int .i64 (n : Int)) (h20 : a.tmps.getD 20 undef = .int .i64 (start : Int)) (h21 : a.tmps.getD 21 undef = .slice (some ⟨og, 0, none⟩) n n) (h22 : a.tmps.getD 22 undef = .slice (some ⟨eg, 0, none⟩) n n) (h25 : a.tmps.getD 25 undef = .int .i64 (free : Int)) (h26 : a.tmps.getD 26 undef = .int .i64 (en_ : Int)) (h27 : a.tmps.getD 27 undef = .int .i64 (T : Int)) (h28 : a.tmps.getD 28 undef = .slice (some ⟨bb, 0, none⟩) T T)
    (hrow : w.rowIs bb 5 T (V .u8 X)) (hE : Env B w ao2 ao3 ao4 ao5 og eg n start I S L A) (hB : B ≤ bb) (hT : T ≤ 2097152) (hn : n ≤ 4096) (hL : ∀ i, L i < 256) (hfit : offAt start L n ≤ T)
    (hQ : ∀ a' w', a'.tmps.size = 848 → a'.defers = [] → a'.tmps.getD 0 undef = .slice ao0 start start → a'.tmps.getD 1 undef = .slice ao1 post post → a'.tmps.getD 2 undef = .slice ao2 n n → a'.tmps.getD 3 undef = .slice ao3 n n → a'.tmps.getD 4 undef = .slice ao4 n n → a'.tmps.getD 5 undef = .slice ao5 n n → a'.tmps.getD 6 undef = .int .u16 (slack : Int) → a'.tmps.getD 7 undef = .int .u8 vid → a'.tmps.getD 8 undef = .int .i64 size → a'.tmps.getD 19 undef = .int .i64 (n : Int) → a'.tmps.getD 20 undef = .int .i64 (start : Int) → a'.tmps.getD 21 undef = .slice (some ⟨og, 0, none⟩) n n → a'.tmps.getD 22 undef = .slice (some ⟨eg, 0, none⟩) n n → a'.tmps.getD 25 undef = .int .i64 (free : Int) → a'.tmps.getD 26 undef = .int .i64 (en_ : Int) → a'.tmps.getD 27 undef = .int .i64 (T : Int) → a'.tmps.getD 28 undef = .slice (some ⟨bb, 0, none⟩) T T → (∃ c : Nat, c ≤ n ∧ a'.tmps.getD 33 undef = .int .i64 (c : Int)) → (∃ X', w'.rowIs bb 5 T (V .u8 X')) → w.grownBy w' (some bb) → Code.wp Tryf.prog (tk 29 (Tryf.f6.body.getD .skip)) Q a' w') :
    Code.wp Tryf.prog (tk 27 (Tryf.f6.body.getD .skip)) Q a w := by
  obtain ⟨f, hf, rfl⟩ := lit848 a hsz hd
  have e0 : f 0 = .slice ao0 start start := (hf 0).symm.trans h0
  have e1 : f 1 = .slice ao1 post post := (hf 1).symm.trans h1
  have e2 : f 2 = .slice ao2 n n := (hf 2).symm.trans h2
  have e3 : f 3 = .slice ao3 n n := (hf 3).symm.trans h3
  have e4 : f 4 = .slice ao4 n n := (hf 4).symm.trans h4
  have e5 : f 5 = .slice ao5 n n := (hf 5).symm.trans h5
  have e6 : f 6 = .int .u16 (slack : Int) := (hf 6).symm.trans h6
  have e7 : f 7 = .int .u8 vid := (hf 7).symm.trans h7
  have e8 : f 8 = .int .i64 size := (hf 8).symm.trans h8
  have e19 : f 19 = .int .i64 (n : Int) := (hf 19).symm.trans h19
  have e20 : f 20 = .int .i64 (start : Int) := (hf 20).symm.trans h20
  have e21 : f 21 = .slice (some ⟨og, 0, none⟩) n n := (hf 21).symm.trans h21
  have e22 : f 22 = .slice (some ⟨eg, 0, none⟩) n n := (hf 22).symm.trans h22
  have e25 : f 25 = .int .i64 (free : Int) := (hf 25).symm.trans h25
  have e26 : f 26 = .int .i64 (en_ : Int) := (hf 26).symm.trans h26
  have e27 : f 27 = .int .i64 (T : Int) := (hf 27).symm.trans h27
  have e28 : f 28 = .slice (some ⟨bb, 0, none⟩) T T := (hf 28).symm.trans h28
  have HQ : Hid (∀ a' w', a'.tmps.size = 848 → a'.defers = [] → a'.tmps.getD 0 undef = .slice ao0 start start → a'.tmps.getD 1 undef = .slice ao1 post post → a'.tmps.getD 2 undef = .slice ao2 n n → a'.tmps.getD 3 undef = .slice ao3 n n → a'.tmps.getD 4 undef = .slice ao4 n n → a'.tmps.getD 5 undef = .slice ao5 n n → a'.tmps.getD 6 undef = .int .u16 (slack : Int) → a'.tmps.getD 7 undef = .int .u8 vid → a'.tmps.getD 8 undef = .int .i64 size → a'.tmps.getD 19 undef = .int .i64 (n : Int) → a'.tmps.getD 20 undef = .int .i64 (start : Int) → a'.tmps.getD 21 undef = .slice (some ⟨og, 0, none⟩) n n → a'.tmps.getD 22 undef = .slice (some ⟨eg, 0, none⟩) n n → a'.tmps.getD 25 undef = .int .i64 (free : Int) → a'.tmps.getD 26 undef = .int .i64 (en_ : Int) → a'.tmps.getD 27 undef = .int .i64 (T : Int) → a'.tmps.getD 28 undef = .slice (some ⟨bb, 0, none⟩) T T → (∃ c : Nat, c ≤ n ∧ a'.tmps.getD 33 undef = .int .i64 (c : Int)) → (∃ X', w'.rowIs bb 5 T (V .u8 X')) → w.grownBy w' (some bb) → Code.wp Tryf.prog (tk 29 (Tryf.f6.body.getD .skip)) Q a' w') := hQ
  rw [e0, e1, e2, e3, e4, e5, e6, e7, e8, e19, e20, e21, e22, e25, e26, e27, e28]
  clear h0 e0 h1 e1 h2 e2 h3 e3 h4 e4 h5 e5 h6 e6 h7 e7 h8 e8 h19 e19 h20 e20 h21 e21 h22 e22 h25 e25 h26 e26 h27 e27 h28 e28 hf hsz hd hQ
  conv => arg 2; whnf
  have HROW : Hid (w.rowIs bb 5 T (V .u8 X)) := hrow
  have HE : Hid (Env B w ao2 ao3 ao4 ao5 og eg n start I S L A) := hE
  have HL : Hid (∀ i, L i < 256) := hL
  have HFIT : Hid (offAt start L n ≤ T) := hfit
  clear hrow hE hL hfit
  go_wp2_with fail
  rename_i K hK
  have HK : Hid (∀ (a : Act) (w : World), Code.wp Tryf.prog (tk 29 (Tryf.f6.body.getD .skip)) Q a w → K a w) := hK
  clear hK
  go_loopw [33, 34] (fun cv iv wr => ∃ k c : Nat, k ≤ n ∧ c ≤ k ∧ iv = .int .i64 (k : Int) ∧ cv = .int .i64 (c : Int) ∧ (∃ X', wr.rowIs bb 5 T (V .u8 X')) ∧ w.grownBy wr (some bb)) (fun _ iv _ => n - (intOf iv).toNat)
  case atStart => exact ⟨0, 0, Nat.zero_le _, Nat.le_refl _, rfl, rfl, ⟨_, HROW.out⟩, grown_refl _ _⟩
  case round =>
    obtain ⟨k, c, hk, hck, rfl, rfl, ⟨X0, hr⟩, hg⟩ := hrel
    have HR0 : Hid (wr.rowIs bb 5 T (V .u8 X0)) := hr
    have HG0 : Hid (w.grownBy wr (some bb)) := hg
    clear hr hg
    by_cases hlt : k < n
    · have hki : (k : Int) < (n : Int) := by omega
      have hblt : bb < w.heap.size := HROW.out.lt
      have hBw : B ≤ w.heap.size := by omega
      obtain ⟨b2, o2, hb2, ha2, hc2⟩ := HE.out.d2.at hlt
      obtain ⟨b3, o3, hb3, ha3, hc3⟩ := HE.out.d3.at hlt
      obtain ⟨b4, o4, hb4, ha4, hc4⟩ := HE.out.d4.at hlt
      obtain ⟨b5, o5, hb5, ha5, hc5⟩ := HE.out.d5.at hlt
      have hiy2 := index22 (c := n) hlt ha2
      have hiy3 := index22 (c := n) hlt ha3
      have hiy4 := index22 (c := n) hlt ha4
      have hiy5 := index35 (c := n) hlt ha5
      have hixo := ix40 (g := og) (c := n) hlt
      obtain ⟨o, ho⟩ : ∃ o, o = offAt start L k := ⟨_, rfl⟩
      obtain ⟨l, hl⟩ : ∃ l, l = L k := ⟨_, rfl⟩
      have hl256 : l < 256 := by rw [hl]; exact HL.out k
      have hol : o + 12 + l ≤ T := by
        rw [ho, hl, ← en_eq]
        exact Nat.le_trans (en_le start L hlt) HFIT.out
      have hco : w.cell? ⟨og, k, none⟩ = some (.int .i64 (o : Int)) := by rw [HE.out.ro.cell hlt, ho]; rfl
      rw [← hl] at hc4
      obtain ⟨x2, hx2⟩ : ∃ x, x = I k := ⟨_, rfl⟩
      obtain ⟨x5, hx5⟩ : ∃ x, x = A k := ⟨_, rfl⟩
      obtain ⟨x3, hx3⟩ : ∃ x, x = S k := ⟨_, rfl⟩
      rw [← hx2] at hc2
      rw [← hx3] at hc3
      rw [← hx5] at hc5
      obtain ⟨t, ht⟩ : ∃ t, Int.tmod x3 3 = t := ⟨_, rfl⟩
      have HRD : Hid (∀ W : World, w.grownBy W (some bb) → W.cell? ⟨og, k, none⟩ = some (.int .i64 (o : Int)) ∧ W.cell? ⟨b2, o2 + k, none⟩ = some (.int .u8 x2) ∧ W.cell? ⟨b3, o3 + k, none⟩ = some (.int .u8 x3) ∧ W.cell? ⟨b4, o4 + k, none⟩ = some (.int .u8 (l : Int)) ∧ W.cell? ⟨b5, o5 + k, none⟩ = some (.int .u32 x5)) := fun W hg => by
        have hlo := HE.out.lo
        exact ⟨hg.cell hco (by simp; omega), hg.cell hc2 (by simp; omega), hg.cell hc3 (by simp; omega), hg.cell hc4 (by simp; omega), hg.cell hc5 (by simp; omega)⟩
      clear ha2 ha3 ha4 ha5 hc2 hc3 hc4 hc5 hco hx2 hx3 hx5 ho hl
      obtain ⟨q0, -, -, -, -⟩ := HRD.out _ HG0.out
      go_upto_region 56 with fail
      clear q0
      obtain ⟨v, hv⟩ : ∃ v, wr.cell? ⟨bb, o, none⟩ = some v := ⟨_, HR0.out.cell (by omega)⟩
      have hfr : wr.frozen? ⟨bb, o, none⟩ = false := HR0.out.frozen _
      have hix := ix22 (g := bb) (c := T) (show o < T by omega)
      obtain ⟨q0, q2, q3, q4, q5⟩ := HRD.out _ HG0.out
      go_upto_region 57 with fail
      generalize hW : World.setCell _ ⟨bb, o, none⟩ _ = W1
      obtain ⟨X1, hr⟩ := put_any HR0.out hW
      have HR1 : Hid (W1.rowIs bb 5 T (V .u8 X1)) := hr
      have HG1 : Hid (w.grownBy W1 (some bb)) := HG0.out.trans (grown_any hW)
      clear hr hW hv hfr hix q0 q2 q3 q4 q5 HR0 HG0
      obtain ⟨v, hv⟩ : ∃ v, W1.cell? ⟨bb, o + 1, none⟩ = some v := ⟨_, HR1.out.cell (by omega)⟩
      have hfr : W1.frozen? ⟨bb, o + 1, none⟩ = false := HR1.out.frozen _
      have hix := ix22 (g := bb) (c := T) (show o + 1 < T by omega)
      obtain ⟨q0, q2, q3, q4, q5⟩ := HRD.out _ HG1.out
      go_upto_region 58 with fail
      generalize hW : World.setCell _ ⟨bb, o + 1, none⟩ _ = W2
      obtain ⟨X2, hr⟩ := put_any HR1.out hW
      have HR2 : Hid (W2.rowIs bb 5 T (V .u8 X2)) := hr
      have HG2 : Hid (w.grownBy W2 (some bb)) := HG1.out.trans (grown_any hW)
      clear hr hW hv hfr hix q0 q2 q3 q4 q5 HR1 HG1
      obtain ⟨v, hv⟩ : ∃ v, W2.cell? ⟨bb, o + 2, none⟩ = some v := ⟨_, HR2.out.cell (by omega)⟩
      have hfr : W2.frozen? ⟨bb, o + 2, none⟩ = false := HR2.out.frozen _
      have hix := ix22 (g := bb) (c := T) (show o + 2 < T by omega)
      obtain ⟨q0, q2, q3, q4, q5⟩ := HRD.out _ HG2.out
      go_wp2_with fail
      refine (stateByte t _).mono ?_
      rintro e w' ⟨rfl, rfl⟩
      go_upto_region 59 with fail
      generalize hW : World.setCell _ ⟨bb, o + 2, none⟩ _ = W3
      obtain ⟨X3, hr⟩ := put_any HR2.out hW
      have HR3 : Hid (W3.rowIs bb 5 T (V .u8 X3)) := hr
      have HG3 : Hid (w.grownBy W3 (some bb)) := HG2.out.trans (grown_any hW)
      clear hr hW hv hfr hix q0 q2 q3 q4 q5 HR2 HG2
      obtain ⟨v, hv⟩ : ∃ v, W3.cell? ⟨bb, o + 3, none⟩ = some v := ⟨_, HR3.out.cell (by omega)⟩
      have hfr : W3.frozen? ⟨bb, o + 3, none⟩ = false := HR3.out.frozen _
      have hix := ix22 (g := bb) (c := T) (show o + 3 < T by omega)
      obtain ⟨q0, q2, q3, q4, q5⟩ := HRD.out _ HG3.out
      go_upto_region 60 with fail
      generalize hW : World.setCell _ ⟨bb, o + 3, none⟩ _ = W4
      obtain ⟨X4, hr⟩ := put_any HR3.out hW
      have HR4 : Hid (W4.rowIs bb 5 T (V .u8 X4)) := hr
      have HG4 : Hid (w.grownBy W4 (some bb)) := HG3.out.trans (grown_any hW)
      clear hr hW hv hfr hix q0 q2 q3 q4 q5 HR3 HG3
      obtain ⟨v, hv⟩ : ∃ v, W4.cell? ⟨bb, o + 4, none⟩ = some v := ⟨_, HR4.out.cell (by omega)⟩
      have hfr : W4.frozen? ⟨bb, o + 4, none⟩ = false := HR4.out.frozen _
      have hix := ix22 (g := bb) (c := T) (show o + 4 < T by omega)
      obtain ⟨q0, q2, q3, q4, q5⟩ := HRD.out _ HG4.out
      go_upto_region 61 with fail
      generalize hW : World.setCell _ ⟨bb, o + 4, none⟩ _ = W5
      obtain ⟨X5, hr⟩ := put_any HR4.out hW
      have HR5 : Hid (W5.rowIs bb 5 T (V .u8 X5)) := hr
      have HG5 : Hid (w.grownBy W5 (some bb)) := HG4.out.trans (grown_any hW)
      clear hr hW hv hfr hix q0 q2 q3 q4 q5 HR4 HG4
      obtain ⟨v, hv⟩ : ∃ v, W5.cell? ⟨bb, o + 5, none⟩ = some v := ⟨_, HR5.out.cell (by omega)⟩
      have hfr : W5.frozen? ⟨bb, o + 5, none⟩ = false := HR5.out.frozen _
      have hix := ix22 (g := bb) (c := T) (show o + 5 < T by omega)
      obtain ⟨q0, q2, q3, q4, q5⟩ := HRD.out _ HG5.out
      go_upto_region 62 with fail
      generalize hW : World.setCell _ ⟨bb, o + 5, none⟩ _ = W6
      obtain ⟨X6, hr⟩ := put_any HR5.out hW
      have HR6 : Hid (W6.rowIs bb 5 T (V .u8 X6)) := hr
      have HG6 : Hid (w.grownBy W6 (some bb)) := HG5.out.trans (grown_any hW)
      clear hr hW hv hfr hix q0 q2 q3 q4 q5 HR5 HG5
      obtain ⟨v, hv⟩ : ∃ v, W6.cell? ⟨bb, o + 6, none⟩ = some v := ⟨_, HR6.out.cell (by omega)⟩
      have hfr : W6.frozen? ⟨bb, o + 6, none⟩ = false := HR6.out.frozen _
      have hix := ix22 (g := bb) (c := T) (show o + 6 < T by omega)
      obtain ⟨q0, q2, q3, q4, q5⟩ := HRD.out _ HG6.out
      go_upto_region 63 with fail
      generalize hW : World.setCell _ ⟨bb, o + 6, none⟩ _ = W7
      obtain ⟨X7, hr⟩ := put_any HR6.out hW
      have HR7 : Hid (W7.rowIs bb 5 T (V .u8 X7)) := hr
      have HG7 : Hid (w.grownBy W7 (some bb)) := HG6.out.trans (grown_any hW)
      clear hr hW hv hfr hix q0 q2 q3 q4 q5 HR6 HG6
      obtain ⟨v, hv⟩ : ∃ v, W7.cell? ⟨bb, o + 7, none⟩ = some v := ⟨_, HR7.out.cell (by omega)⟩
      have hfr : W7.frozen? ⟨bb, o + 7, none⟩ = false := HR7.out.frozen _
      have hix := ix22 (g := bb) (c := T) (show o + 7 < T by omega)
      obtain ⟨q0, q2, q3, q4, q5⟩ := HRD.out _ HG7.out
      go_upto_region 64 with fail
      generalize hW : World.setCell _ ⟨bb, o + 7, none⟩ _ = W8
      obtain ⟨X8, hr⟩ := put_any HR7.out hW
      have HR8 : Hid (W8.rowIs bb 5 T (V .u8 X8)) := hr
      have HG8 : Hid (w.grownBy W8 (some bb)) := HG7.out.trans (grown_any hW)
      clear hr hW hv hfr hix q0 q2 q3 q4 q5 HR7 HG7
      obtain ⟨v, hv⟩ : ∃ v, W8.cell? ⟨bb, o + 8, none⟩ = some v := ⟨_, HR8.out.cell (by omega)⟩
      have hfr : W8.frozen? ⟨bb, o + 8, none⟩ = false := HR8.out.frozen _
      have hix := ix22 (g := bb) (c := T) (show o + 8 < T by omega)
      obtain ⟨q0, q2, q3, q4, q5⟩ := HRD.out _ HG8.out
      go_upto_region 65 with fail
      generalize hW : World.setCell _ ⟨bb, o + 8, none⟩ _ = W9
      obtain ⟨X9, hr⟩ := put_any HR8.out hW
      have HR9 : Hid (W9.rowIs bb 5 T (V .u8 X9)) := hr
      have HG9 : Hid (w.grownBy W9 (some bb)) := HG8.out.trans (grown_any hW)
      clear hr hW hv hfr hix q0 q2 q3 q4 q5 HR8 HG8
      obtain ⟨v, hv⟩ : ∃ v, W9.cell? ⟨bb, o + 9, none⟩ = some v := ⟨_, HR9.out.cell (by omega)⟩
      have hfr : W9.frozen? ⟨bb, o + 9, none⟩ = false := HR9.out.frozen _
      have hix := ix22 (g := bb) (c := T) (show o + 9 < T by omega)
      obtain ⟨q0, q2, q3, q4, q5⟩ := HRD.out _ HG9.out
      go_upto_region 66 with fail
      generalize hW : World.setCell _ ⟨bb, o + 9, none⟩ _ = W10
      obtain ⟨X10, hr⟩ := put_any HR9.out hW
      have HR10 : Hid (W10.rowIs bb 5 T (V .u8 X10)) := hr
      have HG10 : Hid (w.grownBy W10 (some bb)) := HG9.out.trans (grown_any hW)
      clear hr hW hv hfr hix q0 q2 q3 q4 q5 HR9 HG9
      obtain ⟨v, hv⟩ : ∃ v, W10.cell? ⟨bb, o + 10, none⟩ = some v := ⟨_, HR10.out.cell (by omega)⟩
      have hfr : W10.frozen? ⟨bb, o + 10, none⟩ = false := HR10.out.frozen _
      have hix := ix22 (g := bb) (c := T) (show o + 10 < T by omega)
      obtain ⟨q0, q2, q3, q4, q5⟩ := HRD.out _ HG10.out
      go_upto_region 67 with fail
      generalize hW : World.setCell _ ⟨bb, o + 10, none⟩ _ = W11
      obtain ⟨X11, hr⟩ := put_any HR10.out hW
      have HR11 : Hid (W11.rowIs bb 5 T (V .u8 X11)) := hr
      have HG11 : Hid (w.grownBy W11 (some bb)) := HG10.out.trans (grown_any hW)
      clear hr hW hv hfr hix q0 q2 q3 q4 q5 HR10 HG10
      obtain ⟨v, hv⟩ : ∃ v, W11.cell? ⟨bb, o + 11, none⟩ = some v := ⟨_, HR11.out.cell (by omega)⟩
      have hfr : W11.frozen? ⟨bb, o + 11, none⟩ = false := HR11.out.frozen _
      have hix := ix22 (g := bb) (c := T) (show o + 11 < T by omega)
      obtain ⟨q0, q2, q3, q4, q5⟩ := HRD.out _ HG11.out
      go_upto_region 68 with fail
      generalize hW : World.setCell _ ⟨bb, o + 11, none⟩ _ = W12
      obtain ⟨X12, hr⟩ := put_any HR11.out hW
      have HR12 : Hid (W12.rowIs bb 5 T (V .u8 X12)) := hr
      have HG12 : Hid (w.grownBy W12 (some bb)) := HG11.out.trans (grown_any hW)
      clear hr hW hv hfr hix q0 q2 q3 q4 q5 HR11 HG11
      go_wp2_with fail
      go_loopw [36] (fun jv wv => ∃ j : Nat, j ≤ l ∧ jv = .int .i64 (j : Int) ∧ (∃ X', wv.rowIs bb 5 T (V .u8 X')) ∧ w.grownBy wv (some bb)) (fun jv _ => l - (intOf jv).toNat)
      case atStart => exact ⟨0, Nat.zero_le _, rfl, ⟨_, HR12.out⟩, HG12.out⟩
      case round =>
        obtain ⟨j, hj, rfl, ⟨Y0, hr⟩, hg⟩ := hrel
        have HRj : Hid (wr.rowIs bb 5 T (V .u8 Y0)) := hr
        have HGj : Hid (w.grownBy wr (some bb)) := hg
        clear hr hg
        obtain ⟨q0, q2, q3, q4, q5⟩ := HRD.out _ HGj.out
        by_cases hjl : j < l
        · have hji : (j : Int) < (l : Int) := by omega
          have hix := ix22 (g := bb) (c := T) (show o + 12 + j < T by omega)
          obtain ⟨v, hv⟩ : ∃ v, wr.cell? ⟨bb, o + 12 + j, none⟩ = some v := ⟨_, HRj.out.cell (by omega)⟩
          have hfr : wr.frozen? ⟨bb, o + 12 + j, none⟩ = false := HRj.out.frozen _
          go_wp2_with fail
          generalize hW : World.setCell _ ⟨bb, o + 12 + j, none⟩ _ = WW
          obtain ⟨Y1, hr⟩ := put_any HRj.out hW
          go_roundw
          case rel => exact ⟨j + 1, by omega, by go_num, ⟨_, hr⟩, HGj.out.trans (grown_any hW)⟩
          case measure => simp [intOf]; omega
        · have hjd : decide ((j : Int) < (l : Int)) = false := by simp; omega
          obtain rfl : j = l := by omega
          by_cases h2 : t = 2
          · have ht2 : decide (t = 2) = true := by simp [h2]
            subst h2
            go_wp2_with fail
            go_roundw
            case rel => exact ⟨k + 1, c, by omega, by omega, by go_num, rfl, ⟨_, HRj.out⟩, HGj.out⟩
            case measure => simp [intOf]; omega
          · have ht2 : decide (t = 2) = false := by simp [h2]
            go_wp2_with fail
            go_roundw
            case rel => exact ⟨k + 1, c + 1, by omega, by omega, by go_num, by go_num, ⟨_, HRj.out⟩, HGj.out⟩
            case measure => simp [intOf]; omega
    · have hkd : decide ((k : Int) < (n : Int)) = false := by simp; omega
      obtain rfl : k = n := by omega
      go_wp2_with fail
      refine HK.out _ _ ?_
      refine HQ.out _ _ rfl rfl rfl rfl rfl rfl rfl rfl rfl rfl rfl rfl rfl rfl rfl rfl rfl rfl rfl ⟨c, hck, rfl⟩ ⟨_, HR0.out⟩ HG0.out
end Go.Proofs.Qxb6003952aFmt
