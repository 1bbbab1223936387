/- The law's own function: reclaim has accepted: the kept records, whole. -/
import Derived.Test.Qxb6003952aFmtSegM0
import Derived.Test.Qxb6003952aFmtSegM2
import Derived.Test.Qxb6003952aFmtSegM3
import Derived.Test.Qxb6003952aFmtSegM4
import Derived.Test.Qxb6003952aFmtSegM5
import Derived.Test.Qxb6003952aFmtSegM6
namespace Go.Proofs.Qxb6003952aFmt
open Go.RowKit Go.Extern.Stop Go.Stop Go.Extern
set_option linter.unusedVariables false

/-- The slots that stay. -/
structure SlM (T ob kg m2 kcap ng hg s nb cg : Nat) (ao2 ao3 ao4 ao5 : Option Addr) (og eg n start en_ : Nat) (a : Act) : Prop where
  sz : a.tmps.size = 848
  df : a.defers = []
  s2 : a.tmps.getD 2 undef = .slice ao2 n n
  s3 : a.tmps.getD 3 undef = .slice ao3 n n
  s4 : a.tmps.getD 4 undef = .slice ao4 n n
  s5 : a.tmps.getD 5 undef = .slice ao5 n n
  s20 : a.tmps.getD 20 undef = .int .i64 (start : Int)
  s21 : a.tmps.getD 21 undef = .slice (some ⟨og, 0, none⟩) n n
  s22 : a.tmps.getD 22 undef = .slice (some ⟨eg, 0, none⟩) n n
  s26 : a.tmps.getD 26 undef = .int .i64 (en_ : Int)
  s27 : a.tmps.getD 27 undef = .int .i64 (T : Int)
  s39 : a.tmps.getD 39 undef = .slice (some ⟨ob, 0, none⟩) T T
  s41 : a.tmps.getD 41 undef = .slice (some ⟨kg, 0, none⟩) m2 kcap
  s43 : a.tmps.getD 43 undef = .slice (some ⟨ng, 0, none⟩) m2 m2
  s44 : a.tmps.getD 44 undef = .slice (some ⟨hg, 0, none⟩) m2 m2
  s50 : a.tmps.getD 50 undef = .pointer (some ⟨s, 0, none⟩)
  s52 : a.tmps.getD 52 undef = .slice (some ⟨nb, 0, none⟩) T T
  s58 : a.tmps.getD 58 undef = .slice (some ⟨cg, 0, none⟩) T T

set_option maxRecDepth 1000000 in
set_option maxHeartbeats 3200000 in
theorem segM (B : Nat) (T ob kg m2 kcap ng hg s nb cg : Nat) (ao2 ao3 ao4 ao5 : Option Addr) (og eg n start en_ : Nat) (ao : Option Addr) (cap fe : Nat) (OB NB : Nat → Int) (I S : Nat → Int) (L : Nat → Nat) (A : Nat → Int) (M : List Nat) (Q : Exit → Act → World → Prop) (a : Act) (w : World) (h : SlM T ob kg m2 kcap ng hg s nb cg ao2 ao3 ao4 ao5 og eg n start en_ a)
    (hE : Env B w ao2 ao3 ao4 ao5 og eg n start I S L A) (hB : B ≤ cg) (hn : n ≤ 4096) (hkr : ∀ (i x : Nat), M[i]? = some x → kg < cg ∧ w.cell? ⟨kg, i, none⟩ = some (.int .i64 (x : Int))) (hMl : M.length = m2) (hMn : ∀ i ∈ M, i < n) (hm2 : m2 ≤ 4096) (hL : ∀ i, L i < 256) (hI : ∀ i, i < n → 0 ≤ I i ∧ I i < 256) (hng : w.rowIs ng 3 m2 (V .i64 fun k => (nO start (M.map (recOf start L I S A)) k : Int))) (hhg : w.rowIs hg 3 m2 (V .i64 fun k => (nE start (M.map (recOf start L I S A)) k : Int))) (hold : w.rowIs ob 5 T (V .u8 OB)) (hnb : w.rowIs nb 5 T (V .u8 NB)) (hcg : w.rowIs cg 4 T fun _ => .bool false) (hlt1 : ng < cg ∧ hg < cg ∧ ob < cg ∧ nb < cg ∧ s < cg) (hin : ∀ (k j : Nat) (r : Rec), (M.map (recOf start L I S A))[k]? = some r → j < ln r → NB (nO start (M.map (recOf start L I S A)) k + j) = OB (r.off + j)) (hst : w.heap[s]? = some (.cells #[.slice (some ⟨nb, 0, none⟩) T T, .slice ao m2 cap, .int .i64 (start : Int), .int .i64 (fe : Int), .int .i64 (en_ : Int)] 72 (0, 0))) (hrec : m2 = 0 ∨ ∃ rg, rg < cg ∧ ao = some ⟨rg, 0, none⟩ ∧ RecUp w rg m2 m2 nb (placed start (M.map (recOf start L I S A)))) (hT : T ≤ 2097152) (hfit : frOf start (M.map (recOf start L I S A)) ≤ T) (hoff : offAt start L n ≤ T)
    (hQ : ∀ a' w', SlM T ob kg m2 kcap ng hg s nb cg ao2 ao3 ao4 ao5 og eg n start en_ a' → (∃ C, (w'.rowIs cg 4 T fun i => .bool (C i)) ∧ Mark start (M.map (recOf start L I S A)) m2 C) → w.grownBy w' (some cg) → Code.wp Tryf.prog (tk 56 (Tryf.f6.body.getD .skip)) Q a' w') :
    Code.wp Tryf.prog (tk 55 (Tryf.f6.body.getD .skip)) Q a w := by
  have hS : tk 55 (Tryf.f6.body.getD .skip) = .seq (.seq (sx (sx (tk 55 (Tryf.f6.body.getD .skip)))) (.block 28 (.loop (bx (bx (sy (sx (tk 55 (Tryf.f6.body.getD .skip))))))))) (tk 56 (Tryf.f6.body.getD .skip)) := by rfl
  have hX : (bx (bx (sy (sx (tk 55 (Tryf.f6.body.getD .skip)))))) = .seq (sx (bx (bx (sy (sx (tk 55 (Tryf.f6.body.getD .skip))))))) (.seq (.block 29 (bx (sx (sy (bx (bx (sy (sx (tk 55 (Tryf.f6.body.getD .skip)))))))))) (sy (sy (bx (bx (sy (sx (tk 55 (Tryf.f6.body.getD .skip))))))))) := by rfl
  have hY : (bx (sx (sy (bx (bx (sy (sx (tk 55 (Tryf.f6.body.getD .skip))))))))) = .seq (sx (bx (sx (sy (bx (bx (sy (sx (tk 55 (Tryf.f6.body.getD .skip)))))))))) (.seq (sx (tk 1 (bx (sx (sy (bx (bx (sy (sx (tk 55 (Tryf.f6.body.getD .skip))))))))))) (.seq (sx (tk 2 (bx (sx (sy (bx (bx (sy (sx (tk 55 (Tryf.f6.body.getD .skip))))))))))) (.seq (sx (tk 3 (bx (sx (sy (bx (bx (sy (sx (tk 55 (Tryf.f6.body.getD .skip))))))))))) (.seq (sx (tk 4 (bx (sx (sy (bx (bx (sy (sx (tk 55 (Tryf.f6.body.getD .skip))))))))))) (.seq (sx (tk 5 (bx (sx (sy (bx (bx (sy (sx (tk 55 (Tryf.f6.body.getD .skip))))))))))) (.seq (sx (tk 6 (bx (sx (sy (bx (bx (sy (sx (tk 55 (Tryf.f6.body.getD .skip))))))))))) (tk 7 (bx (sx (sy (bx (bx (sy (sx (tk 55 (Tryf.f6.body.getD .skip)))))))))))))))) := by rfl
  obtain ⟨K, hK⟩ : ∃ K, K = (M.map (recOf start L I S A)) := ⟨_, rfl⟩
  rw [← hK] at hQ hng hhg hin hrec hfit
  have hKL : K.length = m2 := by rw [hK, List.length_map]; exact hMl
  have hKK : ∀ (i x : Nat), M[i]? = some x → K[i]? = some (recOf start L I S A x) := fun i x hx => by rw [hK, List.getElem?_map, hx]; rfl
  obtain ⟨hgn, hgh, hgo, hgb, hgs⟩ := hlt1
  have hcgl : cg < w.heap.size := hcg.lt
  refine (congrArg (fun c => Code.wp Tryf.prog c Q a w) hS).mpr ?_
  refine wp_seq (wp_seq ?_)
  refine pM0 T ob kg m2 kcap ng hg s nb cg ao2 ao3 ao4 ao5 og eg n start en_ _ a w h.sz h.df h.s2 h.s3 h.s4 h.s5 h.s20 h.s21 h.s22 h.s26 h.s27 h.s39 h.s41 h.s43 h.s44 h.s50 h.s52 h.s58 (fun a1 w1 z d p2 p3 p4 p5 p20 p21 p22 p26 p27 p39 p41 p43 p44 p50 p52 p58 p59 hw => ?_)
  subst hw
  have h1 : SlM T ob kg m2 kcap ng hg s nb cg ao2 ao3 ao4 ao5 og eg n start en_ a1 := ⟨z, d, p2, p3, p4, p5, p20, p21, p22, p26, p27, p39, p41, p43, p44, p50, p52, p58⟩
  clear z d p2 p3 p4 p5 p20 p21 p22 p26 p27 p39 p41 p43 p44 p50 p52 p58
  show (Code.block 28 (.loop (bx (bx (sy (sx (tk 55 (Tryf.f6.body.getD .skip)))))))).wp _ _ a1 w1
  refine wp_block ?_
  refine wp_loop (fun a' w' => ∃ k : Nat, k ≤ m2 ∧ SlM T ob kg m2 kcap ng hg s nb cg ao2 ao3 ao4 ao5 og eg n start en_ a' ∧ a'.tmps.getD 59 undef = .int .i64 (k : Int) ∧ (∃ C, (w'.rowIs cg 4 T fun i => .bool (C i)) ∧ Mark start K k C) ∧ w1.grownBy w' (some cg)) (fun a' _ => m2 - (intOf (a'.tmps.getD 59 undef)).toNat) ⟨0, Nat.zero_le _, h1, p59, ⟨fun _ => false, hcg, fun q hq => by omega⟩, grown_refl _ _⟩ ?_
  rintro a2 w2 ⟨k, hkm, h2, e59, ⟨C, hcov, hmark⟩, hG⟩
  refine (congrArg (fun c => Code.wp Tryf.prog c _ a2 w2) hX).mpr ?_
  refine wp_seq ?_
  by_cases hk : k < m2
  · obtain ⟨x, hx⟩ : ∃ x, M[k]? = some x := ⟨_, List.getElem?_eq_getElem (by rw [hMl]; exact hk)⟩
    have hxn : x < n := hMn x (List.mem_of_getElem? hx)
    have hKk := hKK k x hx
    obtain ⟨hkgc, hckw⟩ := hkr k x hx
    obtain ⟨rg, hrgc, hao, hup⟩ := hrec.resolve_left (by omega)
    obtain ⟨b2, o2, hb2, ha2, hc2⟩ := hE.d2.at hxn
    obtain ⟨b3, o3, hb3, ha3, hc3⟩ := hE.d3.at hxn
    obtain ⟨b4, o4, hb4, ha4, hc4⟩ := hE.d4.at hxn
    obtain ⟨b5, o5, hb5, ha5, hc5⟩ := hE.d5.at hxn
    have hln : ln (recOf start L I S A x) = enAt start L x - offAt start L x := rfl
    have heo : nE start K k = nO start K k + (enAt start L x - offAt start L x) := by rw [nE_at hKk, hln]
    have hen : enAt start L x = offAt start L x + 12 + L x := en_eq start L x
    have heT : nE start K k ≤ T := Nat.le_trans (nE_le hKk) hfit
    have henT : enAt start L x ≤ T := Nat.le_trans (en_le start L hxn) hoff
    have hl256 := hL x
    have hIx := hI x hxn
    have hnv : ∀ j, j < enAt start L x - offAt start L x → NB (nO start K k + j) = OB (offAt start L x + j) := fun j hj => hin k j _ hKk (by rw [hln]; exact hj)
    obtain ⟨r, hr⟩ : ∃ r : Rec, r = { recOf start L I S A x with off := nO start K k, en := nE start K k } := ⟨_, rfl⟩
    have hpl : (placed start K)[k]? = some r := by
      rw [placed_at start hKk, hr, nE_at hKk]; rfl
    have hrgr := hup.2 k r hk hpl
    have HRD : ∀ W : World, w1.grownBy W (some cg) → W.cell? ⟨kg, k, none⟩ = some (.int .i64 (x : Int)) ∧ W.cell? ⟨ng, k, none⟩ = some (.int .i64 (nO start K k : Int)) ∧ W.cell? ⟨hg, k, none⟩ = some (.int .i64 (nE start K k : Int)) ∧ W.cell? ⟨og, x, none⟩ = some (.int .i64 (offAt start L x : Int)) ∧ W.cell? ⟨eg, x, none⟩ = some (.int .i64 (enAt start L x : Int)) ∧ W.cell? ⟨b2, o2 + x, none⟩ = some (.int .u8 (I x)) ∧ W.cell? ⟨b3, o3 + x, none⟩ = some (.int .u8 (S x)) ∧ W.cell? ⟨b4, o4 + x, none⟩ = some (.int .u8 (L x : Int)) ∧ W.cell? ⟨b5, o5 + x, none⟩ = some (.int .u32 (A x)) := fun W hW => by
      have hlo := hE.lo
      have hle := hE.le
      refine ⟨hW.cell hckw (by simp; omega), hW.cell (hng.cell hk) (by simp; omega), hW.cell (hhg.cell hk) (by simp; omega), hW.cell (hE.ro.cell hxn) (by simp; omega), hW.cell (hE.re.cell hxn) (by simp; omega), hW.cell hc2 (by simp; omega), hW.cell hc3 (by simp; omega), hW.cell hc4 (by simp; omega), hW.cell hc5 (by simp; omega)⟩
    have HST : ∀ W : World, w1.grownBy W (some cg) → W.cell? ⟨s, 1, none⟩ = some (.slice (some ⟨rg, 0, none⟩) m2 cap) := fun W hW => by
      rw [World.cell?_of_block (a := ⟨s, 1, none⟩) (hW.block s (by omega) (by simp; omega)), cell_of_row w1 s 1 _ _ _ hst, ← hao]; rfl
    obtain ⟨C0, hC0⟩ : ∃ C0 : List Value, C0 = zc r := ⟨_, rfl⟩
    have hC0l : C0 = [.int .i64 (nO start K k : Int), .int .i64 (nE start K k : Int), .int .u8 (stOf (Int.tmod (S x) 3)), .string (nmOf (I x)), .int .u8 (gOf (I x)), .int .u8 0, .int .u8 0, .int .u8 0, .int .u8 0, .int .u8 0, .int .u8 0, .int .u8 0, .int .u8 0, .int .u8 0, .int .u8 0, .int .u8 0, .int .u8 0, .int .u8 0, .int .u8 0, .int .u8 0, .int .u32 (A x), .int .i64 (L x : Int)] := by
      have p4 : r.nm = nmOf (I x) := by rw [hr]; exact nm8 _
      have p5 : r.g = gOf (I x) := by rw [hr]; exact g8 _
      rw [hC0]
      unfold zc
      rw [p4, p5, hr]; rfl
    have HRA : ∀ W : World, w1.grownBy W (some cg) → Calls Tryf.prog 31 #[.pointer (some ⟨s, 0, none⟩), .int .i64 (k : Int)] W fun e w' => e = .returned (.agg C0.toArray) ∧ Below W.heap.size W w' := fun W hW => by
      rw [hC0]; exact recAt s rg m2 cap k r nb W (HST W hW) hk (range_of_block (hW.block rg (by omega) (by simp; omega)) hrgr)
    have HRDT : ∀ W : World, w1.grownBy W (some cg) → Calls Tryf.prog 32 #[.pointer (some ⟨s, 0, none⟩), .int .i64 (k : Int)] W fun e w' => e = .returned (.slice (some (dp nb r)) r.dl r.dl) ∧ w' = W := fun W hW =>
      recData s rg m2 cap k r nb W (HST W hW) hk (range_of_block (hW.block rg (by omega) (by simp; omega)) hrgr)
    have hC0s : C0.length = 22 := by rw [hC0]; rfl
    have hone : C0.all (fun v => v.oneCell') = true := by rw [hC0]; simp [zc, Value.oneCell']
    have hre : r.en = nE start K k := by rw [hr]
    have hrl : r.dl = L x := by rw [hr]; rfl
    have up : ∀ {W W' : World}, w1.grownBy W (some cg) → Below W.heap.size W W' → w1.grownBy W' (some cg) := fun hW hb => hW.andThen (grown_of_below hb) (fun j hj => by cases hj)
    clear hC0 hr hpl hrgr hup hckw hc2 hc3 hc4 hc5 hx
    refine pM1 T ob kg m2 kcap ng hg s nb cg k ao2 ao3 ao4 ao5 og eg n start en_ _ a2 w2 h2.sz h2.df h2.s2 h2.s3 h2.s4 h2.s5 h2.s20 h2.s21 h2.s22 h2.s26 h2.s27 h2.s39 h2.s41 h2.s43 h2.s44 h2.s50 h2.s52 h2.s58 e59 hk hm2 (fun a3 w3 z d p2 p3 p4 p5 p20 p21 p22 p26 p27 p39 p41 p43 p44 p50 p52 p58 p59 hw => ?_)
    subst hw
    have h3 : SlM T ob kg m2 kcap ng hg s nb cg ao2 ao3 ao4 ao5 og eg n start en_ a3 := ⟨z, d, p2, p3, p4, p5, p20, p21, p22, p26, p27, p39, p41, p43, p44, p50, p52, p58⟩
    clear z d p2 p3 p4 p5 p20 p21 p22 p26 p27 p39 p41 p43 p44 p50 p52 p58
    show (Code.seq (.block 29 (bx (sx (sy (bx (bx (sy (sx (tk 55 (Tryf.f6.body.getD .skip)))))))))) (sy (sy (bx (bx (sy (sx (tk 55 (Tryf.f6.body.getD .skip))))))))).wp _ _ a3 w3
    refine wp_seq (wp_block ?_)
    refine (congrArg (fun c => Code.wp Tryf.prog c _ a3 w3) hY).mpr ?_
    refine wp_seq ?_
    refine pM2 T ob kg m2 kcap ng hg s nb cg k ao2 ao3 ao4 ao5 og eg n start en_ x C0 _ a3 w3 h3.sz h3.df h3.s2 h3.s3 h3.s4 h3.s5 h3.s20 h3.s21 h3.s22 h3.s26 h3.s27 h3.s39 h3.s41 h3.s43 h3.s44 h3.s50 h3.s52 h3.s58 p59 hk (HRD w3 hG).1 (fun a4 w4 z d p2 p3 p4 p5 p20 p21 p22 p26 p27 p39 p41 p43 p44 p50 p52 p58 q59 q60 hw => ?_)
    subst hw
    have h4 : SlM T ob kg m2 kcap ng hg s nb cg ao2 ao3 ao4 ao5 og eg n start en_ a4 := ⟨z, d, p2, p3, p4, p5, p20, p21, p22, p26, p27, p39, p41, p43, p44, p50, p52, p58⟩
    clear z d p2 p3 p4 p5 p20 p21 p22 p26 p27 p39 p41 p43 p44 p50 p52 p58 p59 h3
    show (Code.seq _ _).wp _ _ a4 w4
    refine wp_seq ?_
    refine pM2b T ob kg m2 kcap ng hg s nb cg k ao2 ao3 ao4 ao5 og eg n start en_ x C0 _ a4 w4 h4.sz h4.df h4.s2 h4.s3 h4.s4 h4.s5 h4.s20 h4.s21 h4.s22 h4.s26 h4.s27 h4.s39 h4.s41 h4.s43 h4.s44 h4.s50 h4.s52 h4.s58 q59 q60 hC0s hone (HRA w4 hG) (fun a5 w5 z d p2 p3 p4 p5 p20 p21 p22 p26 p27 p39 p41 p43 p44 p50 p52 p58 r59 r60 hHH hb5 => ?_)
    obtain ⟨HH, r61, hHl, cz⟩ := hHH
    have h5 : SlM T ob kg m2 kcap ng hg s nb cg ao2 ao3 ao4 ao5 og eg n start en_ a5 := ⟨z, d, p2, p3, p4, p5, p20, p21, p22, p26, p27, p39, p41, p43, p44, p50, p52, p58⟩
    clear z d p2 p3 p4 p5 p20 p21 p22 p26 p27 p39 p41 p43 p44 p50 p52 p58 q59 q60 h4
    have G5 := up hG hb5
    have cov5 : w5.rowIs cg 4 T fun i => .bool (C i) := hcov.of_block (hb5.block cg hcov.lt)
    rw [hC0l] at cz
    obtain ⟨u1, u2, u3, u4, u5, u6, u7, u8, u9⟩ := HRD w5 G5
    show (Code.seq _ _).wp _ _ a5 w5
    refine wp_seq ?_
    refine pM3 T ob kg m2 kcap ng hg s nb cg k ao2 ao3 ao4 ao5 og eg n start en_ x HH (nO start K k) (nE start K k) b3 o3 (S x) _ a5 w5 h5.sz h5.df h5.s2 h5.s3 h5.s4 h5.s5 h5.s20 h5.s21 h5.s22 h5.s26 h5.s27 h5.s39 h5.s41 h5.s43 h5.s44 h5.s50 h5.s52 h5.s58 r59 r60 r61 hk hxn (cz 0 _ rfl) (cz 1 _ rfl) (cz 2 _ rfl) u2 u3 ha3 u7 (fun a6 w6 z d p2 p3 p4 p5 p20 p21 p22 p26 p27 p39 p41 p43 p44 p50 p52 p58 q59 q60 q61 hb6 => ?_)
    have h6 : SlM T ob kg m2 kcap ng hg s nb cg ao2 ao3 ao4 ao5 og eg n start en_ a6 := ⟨z, d, p2, p3, p4, p5, p20, p21, p22, p26, p27, p39, p41, p43, p44, p50, p52, p58⟩
    clear z d p2 p3 p4 p5 p20 p21 p22 p26 p27 p39 p41 p43 p44 p50 p52 p58 r59 r60 r61 h5 u1 u2 u3 u4 u5 u6 u7 u8 u9
    have G6 := up G5 hb6
    have cov6 : w6.rowIs cg 4 T fun i => .bool (C i) := cov5.of_block (hb6.block cg cov5.lt)
    have cz6 := range_below cz hb6 hHl
    have cg6 : w6.rangeAt HH 4 [.int .u8 (gOf (I x)), .int .u8 0, .int .u8 0, .int .u8 0, .int .u8 0, .int .u8 0, .int .u8 0, .int .u8 0, .int .u8 0, .int .u8 0, .int .u8 0, .int .u8 0, .int .u8 0, .int .u8 0, .int .u8 0, .int .u8 0] := by have := range_part (ds := [.int .u8 (gOf (I x)), .int .u8 0, .int .u8 0, .int .u8 0, .int .u8 0, .int .u8 0, .int .u8 0, .int .u8 0, .int .u8 0, .int .u8 0, .int .u8 0, .int .u8 0, .int .u8 0, .int .u8 0, .int .u8 0, .int .u8 0]) 4 cz6 (by rfl); rwa [Nat.zero_add] at this
    obtain ⟨u1, u2, u3, u4, u5, u6, u7, u8, u9⟩ := HRD w6 G6
    show (Code.seq _ _).wp _ _ a6 w6
    refine wp_seq ?_
    refine pM4 T ob kg m2 kcap ng hg s nb cg k ao2 ao3 ao4 ao5 og eg n start en_ x HH (L x) b2 o2 b4 o4 b5 o5 B (I x) (A x) _ a6 w6 h6.sz h6.df h6.s2 h6.s3 h6.s4 h6.s5 h6.s20 h6.s21 h6.s22 h6.s26 h6.s27 h6.s39 h6.s41 h6.s43 h6.s44 h6.s50 h6.s52 h6.s58 q59 q60 q61 hxn hIx.1 hIx.2 hl256 (cz6 3 _ rfl) cg6 (cz6 20 _ rfl) (cz6 21 _ rfl) ha2 ha4 ha5 u6 u8 u9 (fun a7 w7 z d p2 p3 p4 p5 p20 p21 p22 p26 p27 p39 p41 p43 p44 p50 p52 p58 r59 r60 hb7 => ?_)
    have h7 : SlM T ob kg m2 kcap ng hg s nb cg ao2 ao3 ao4 ao5 og eg n start en_ a7 := ⟨z, d, p2, p3, p4, p5, p20, p21, p22, p26, p27, p39, p41, p43, p44, p50, p52, p58⟩
    clear z d p2 p3 p4 p5 p20 p21 p22 p26 p27 p39 p41 p43 p44 p50 p52 p58 q59 q60 q61 h6 u1 u2 u3 u4 u5 u6 u7 u8 u9 cz6 cg6
    have G7 := up G6 hb7
    have cov7 : w7.rowIs cg 4 T fun i => .bool (C i) := cov6.of_block (hb7.block cg cov6.lt)
    obtain ⟨u1, u2, u3, u4, u5, u6, u7, u8, u9⟩ := HRD w7 G7
    show (Code.seq _ _).wp _ _ a7 w7
    refine wp_seq ?_
    refine pM5 T ob kg m2 kcap ng hg s nb cg k ao2 ao3 ao4 ao5 og eg n start en_ x (nO start K k) (nE start K k) (offAt start L x) (enAt start L x) OB NB K C _ a7 w7 h7.sz h7.df h7.s2 h7.s3 h7.s4 h7.s5 h7.s20 h7.s21 h7.s22 h7.s26 h7.s27 h7.s39 h7.s41 h7.s43 h7.s44 h7.s50 h7.s52 h7.s58 r59 r60 hk hxn u2 u3 u4 ⟨by omega, by omega, by have := hE.lo; omega, by omega, by omega⟩ (hold.of_block (G7.block ob (by omega) (by simp; omega))) (hnb.of_block (G7.block nb (by omega) (by simp; omega))) cov7 hmark heo (by omega) heT henT hT hnv (fun a8 w8 z d p2 p3 p4 p5 p20 p21 p22 p26 p27 p39 p41 p43 p44 p50 p52 p58 q59 q60 hC8 hg8 => ?_)
    obtain ⟨C', hcov8, hmk8⟩ := hC8
    have h8 : SlM T ob kg m2 kcap ng hg s nb cg ao2 ao3 ao4 ao5 og eg n start en_ a8 := ⟨z, d, p2, p3, p4, p5, p20, p21, p22, p26, p27, p39, p41, p43, p44, p50, p52, p58⟩
    clear z d p2 p3 p4 p5 p20 p21 p22 p26 p27 p39 p41 p43 p44 p50 p52 p58 r59 r60 h7 u1 u2 u3 u4 u5 u6 u7 u8 u9
    have G8 : w1.grownBy w8 (some cg) := G7.trans hg8
    obtain ⟨u1, u2, u3, u4, u5, u6, u7, u8, u9⟩ := HRD w8 G8
    show (Code.seq _ _).wp _ _ a8 w8
    refine wp_seq ?_
    refine pM6 T ob kg m2 kcap ng hg s nb cg k ao2 ao3 ao4 ao5 og eg n start en_ x (L x) b4 o4 r _ a8 w8 h8.sz h8.df h8.s2 h8.s3 h8.s4 h8.s5 h8.s20 h8.s21 h8.s22 h8.s26 h8.s27 h8.s39 h8.s41 h8.s43 h8.s44 h8.s50 h8.s52 h8.s58 q59 q60 (HRDT w8 G8) (fun a9 w9 z d p2 p3 p4 p5 p20 p21 p22 p26 p27 p39 p41 p43 p44 p50 p52 p58 r59 r60 r63 hw => ?_)
    subst hw
    have h9 : SlM T ob kg m2 kcap ng hg s nb cg ao2 ao3 ao4 ao5 og eg n start en_ a9 := ⟨z, d, p2, p3, p4, p5, p20, p21, p22, p26, p27, p39, p41, p43, p44, p50, p52, p58⟩
    clear z d p2 p3 p4 p5 p20 p21 p22 p26 p27 p39 p41 p43 p44 p50 p52 p58 q59 q60 h8
    show (Code.seq _ _).wp _ _ a9 w9
    refine wp_seq ?_
    refine pM6b T ob kg m2 kcap ng hg s nb cg k ao2 ao3 ao4 ao5 og eg n start en_ x (L x) b4 o4 r _ a9 w9 h9.sz h9.df h9.s2 h9.s3 h9.s4 h9.s5 h9.s20 h9.s21 h9.s22 h9.s26 h9.s27 h9.s39 h9.s41 h9.s43 h9.s44 h9.s50 h9.s52 h9.s58 r59 r60 r63 hxn hl256 ha4 u8 hrl (fun a10 w10 z d p2 p3 p4 p5 p20 p21 p22 p26 p27 p39 p41 p43 p44 p50 p52 p58 q59 q60 q63 hw => ?_)
    subst hw
    have h10 : SlM T ob kg m2 kcap ng hg s nb cg ao2 ao3 ao4 ao5 og eg n start en_ a10 := ⟨z, d, p2, p3, p4, p5, p20, p21, p22, p26, p27, p39, p41, p43, p44, p50, p52, p58⟩
    clear z d p2 p3 p4 p5 p20 p21 p22 p26 p27 p39 p41 p43 p44 p50 p52 p58 r59 r60 r63 h9
    show (tk 7 (bx (sx (sy (bx (bx (sy (sx (tk 55 (Tryf.f6.body.getD .skip)))))))))).wp _ _ a10 w10
    refine pM7 T ob kg m2 kcap ng hg s nb cg k ao2 ao3 ao4 ao5 og eg n start en_ x (L x) (nE start K k) (offAt start L x) (enAt start L x) b4 o4 r OB NB _ a10 w10 h10.sz h10.df h10.s2 h10.s3 h10.s4 h10.s5 h10.s20 h10.s21 h10.s22 h10.s26 h10.s27 h10.s39 h10.s41 h10.s43 h10.s44 h10.s50 h10.s52 h10.s58 q59 q60 q63 hk hxn hl256 ha4 u3 u5 u8 hre hrl (by omega) (by omega) heT henT hT (hold.of_block (G8.block ob (by omega) (by simp; omega))) (hnb.of_block (G8.block nb (by omega) (by simp; omega))) ?_ (fun a11 w11 z d p2 p3 p4 p5 p20 p21 p22 p26 p27 p39 p41 p43 p44 p50 p52 p58 r59 hb11 => ?_)
    · intro j hj
      have h1 := hnv (enAt start L x - offAt start L x - L x + j) (by omega)
      rw [show nO start K k + (enAt start L x - offAt start L x - L x + j) = nE start K k - L x + j by omega, show offAt start L x + (enAt start L x - offAt start L x - L x + j) = enAt start L x - L x + j by omega] at h1
      exact h1
    have h11 : SlM T ob kg m2 kcap ng hg s nb cg ao2 ao3 ao4 ao5 og eg n start en_ a11 := ⟨z, d, p2, p3, p4, p5, p20, p21, p22, p26, p27, p39, p41, p43, p44, p50, p52, p58⟩
    clear z d p2 p3 p4 p5 p20 p21 p22 p26 p27 p39 p41 p43 p44 p50 p52 p58 q59 q60 q63 h10
    show (sy (sy (bx (bx (sy (sx (tk 55 (Tryf.f6.body.getD .skip)))))))).wp _ _ a11 w11
    refine pM8 T ob kg m2 kcap ng hg s nb cg k ao2 ao3 ao4 ao5 og eg n start en_ _ a11 w11 h11.sz h11.df h11.s2 h11.s3 h11.s4 h11.s5 h11.s20 h11.s21 h11.s22 h11.s26 h11.s27 h11.s39 h11.s41 h11.s43 h11.s44 h11.s50 h11.s52 h11.s58 r59 hk hm2 (fun a12 w12 z d p2 p3 p4 p5 p20 p21 p22 p26 p27 p39 p41 p43 p44 p50 p52 p58 q59 hw => ?_)
    subst hw
    have h12 : SlM T ob kg m2 kcap ng hg s nb cg ao2 ao3 ao4 ao5 og eg n start en_ a12 := ⟨z, d, p2, p3, p4, p5, p20, p21, p22, p26, p27, p39, p41, p43, p44, p50, p52, p58⟩
    clear z d p2 p3 p4 p5 p20 p21 p22 p26 p27 p39 p41 p43 p44 p50 p52 p58
    refine ⟨⟨k + 1, hk, h12, q59, ⟨C', hcov8.of_block (hb11.block cg hcov8.lt), MarkJ.done hmk8 (by omega)⟩, up G8 hb11⟩, ?_⟩
    show m2 - (intOf (a12.tmps.getD 59 undef)).toNat < m2 - (intOf (a2.tmps.getD 59 undef)).toNat
    rw [q59, e59]
    simp only [intOf, Int.toNat_natCast]
    omega
  · refine pM1x T ob kg m2 kcap ng hg s nb cg k ao2 ao3 ao4 ao5 og eg n start en_ _ a2 w2 h2.sz h2.df h2.s2 h2.s3 h2.s4 h2.s5 h2.s20 h2.s21 h2.s22 h2.s26 h2.s27 h2.s39 h2.s41 h2.s43 h2.s44 h2.s50 h2.s52 h2.s58 e59 hk hm2 (fun a3 w3 z d p2 p3 p4 p5 p20 p21 p22 p26 p27 p39 p41 p43 p44 p50 p52 p58 hw => ?_)
    subst hw
    have h3 : SlM T ob kg m2 kcap ng hg s nb cg ao2 ao3 ao4 ao5 og eg n start en_ a3 := ⟨z, d, p2, p3, p4, p5, p20, p21, p22, p26, p27, p39, p41, p43, p44, p50, p52, p58⟩
    obtain rfl : k = m2 := by omega
    exact hQ a3 w3 h3 ⟨C, hcov, hmark⟩ hG
end Go.Proofs.Qxb6003952aFmt
