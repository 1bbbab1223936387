/- The law's own function, whole. -/
import Derived.Test.Qxb6003952aFmtSegA
import Derived.Test.Qxb6003952aFmtSegB
import Derived.Test.Qxb6003952aFmtSegC
import Derived.Test.Qxb6003952aFmtSegD
import Derived.Test.Qxb6003952aFmtSegF
import Derived.Test.Qxb6003952aFmtSegG
import Derived.Test.Qxb6003952aFmtSegI
import Derived.Test.Qxb6003952aFmtSegJ
import Derived.Test.Qxb6003952aFmtSegK
import Derived.Test.Qxb6003952aFmtSegL
import Derived.Test.Qxb6003952aFmtSegM
import Derived.Test.Qxb6003952aFmtSegN
import Derived.Test.Qxb6003952aFmtPlainB
namespace Go.Proofs.Qxb6003952aFmt
open Go.RowKit Go.Extern.Stop Go.Stop Go.Extern
set_option linter.unusedVariables false

theorem cell_of_owns {w : World} {B g m cap : Nat} {M : List Nat} (h : w.ownsRow B 3 1 (.slice (some ⟨g, 0, none⟩) m cap) m (M.map fun i : Nat => Value.int .i64 (i : Int))) {i x : Nat} (hx : M[i]? = some x) : w.cell? ⟨g, i, none⟩ = some (.int .i64 (x : Int)) := by
  have hi : i < M.length := (List.getElem?_eq_some_iff.1 hx).1
  have hl := h.1
  rw [List.length_map] at hl
  rw [h.cellAt i (by omega), List.getElem?_map, hx]; rfl
theorem below_up' {B : Nat} {w w' w'' : World} (h : Below B w w') (hB : B ≤ w'.heap.size) (h2 : Below w'.heap.size w' w'') : Below B w w'' := h.trans (h2.mono hB)
theorem zl_at {start : Nat} {L : Nat → Nat} {I S A : Nat → Int} {n : Nat} {r : Rec} (h : r ∈ zl start L I S A n) : ∃ i, i < n ∧ r = recOf start L I S A i := by
  rw [zl, List.mem_map] at h
  obtain ⟨i, hi, rfl⟩ := h
  exact ⟨i, (mem_live.1 hi).1, rfl⟩

set_option maxRecDepth 1000000 in
set_option maxHeartbeats 3200000 in
theorem law (F : Interp) (p0 p1 p2 p3 p4 p5 : Option Addr) (n0 n1 n2 n3 n4 n5 c0 c1 c2 c3 c4 c5 slack : Nat) (vid size : Int) (PX PY I S : Nat → Int) (L : Nat → Nat) (A : Nat → Int) (w : World) (hF : F.answers w.tape)
    (hm : n0 ≤ maxLen ∧ n1 ≤ maxLen ∧ n2 ≤ maxLen ∧ n3 ≤ maxLen ∧ n4 ≤ maxLen ∧ n5 ≤ maxLen) (hsl : slack ≤ 65535) (hv0 : 0 ≤ vid) (hv1 : vid < 256)
    (hs0 : Srd .u8 w p0 n0 c0 PX) (hs1 : Srd .u8 w p1 n1 c1 PY) (hs2 : Srd .u8 w p2 n2 c2 I) (hs3 : Srd .u8 w p3 n3 c3 S) (hs4 : Srd .u8 w p4 n4 c4 fun i => (L i : Int)) (hd4 : Dat .u8 w p4 n4 fun i => (L i : Int)) (hs5 : Srd .u32 w p5 n5 c5 A)
    (hL : ∀ i, L i < 256) (hI : ∀ i, i < n2 → 0 ≤ I i ∧ I i < 256) (hS : ∀ i, i < n3 → 0 ≤ S i) :
    Calls Tryf.prog 6 #[.slice p0 n0 c0, .slice p1 n1 c1, .slice p2 n2 c2, .slice p3 n3 c3, .slice p4 n4 c4, .slice p5 n5 c5, .int .u16 (slack : Int), .int .u8 vid, .int .i64 size] w fun e w' => e = .returned (.bool true) ∧ Below w.heap.size w w' := by
  go_enter Tryf.func6, Tryf.ntmps6
  refine segA p0 p1 p2 p3 p4 p5 n0 n1 n2 n3 n4 n5 c0 c1 c2 c3 c4 c5 slack vid size L (fun e w' => e = .returned (.bool true) ∧ Below w.heap.size w w') _ w rfl rfl rfl rfl rfl rfl rfl rfl rfl rfl rfl hm hsl hL hd4 ⟨rfl, Below.refl _ _⟩ (fun a1 w1 fz fd f0 f1 f2 f3 f4 f5 f6 f7 f8 bn0 bn1 bn2 bn3 bn4 bn5 hT hw => ?_)
  obtain rfl := hw
  obtain rfl := bn3.symm
  obtain rfl := bn4.symm
  obtain rfl := bn5.symm
  have hnl0 : n0 ≤ offAt n0 L n2 := off_mono n0 L (Nat.zero_le n2)
  have hT1 : offAt n0 L n2 + slack + n1 ≤ 2097152 := hT


  refine segB p0 p1 p2 p3 p4 p5 c0 c1 c2 c3 c4 c5 n2 n0 n1 slack vid size PX PY I S L A _ a1 w1 fz fd f0 f1 f2 f3 f4 f5 f6 f7 f8 hs0 hs1 hs2 hs3 hs4 hs5 bn2 bn0 bn1 (fun ao0 ao1 ao2 ao3 ao4 ao5 B og eg a2 w2 gz gd g0 g1 g2 g3 g4 g5 g6 g7 g8 g19 g20 g21 g22 g23 hB1 hB2 hB3 hB4 d0 d1 d2 d3 d4 d5 ro re bel2 => ?_)
  refine segC B ao0 ao1 ao2 ao3 ao4 ao5 og eg n2 n0 n1 slack vid size L _ a2 w2 gz gd g0 g1 g2 g3 g4 g5 g6 g7 g8 g19 g20 g21 g22 g23 ro re d4 hL hB2 (by omega) (by omega) bn2 bn0 (fun a3 w3 hz hd h0 h1 h2 h3 h4 h5 h6 h7 h8 h19 h20 h21 h22 ro3 re3 bel3 => ?_)
  have bel13 : Below w1.heap.size w1 w3 := bel2.trans (bel3.mono hB1)
  have s3 := bel3.size
  have E3 : Env w3.heap.size w3 ao2 ao3 ao4 ao5 og eg n2 n0 I S L A := ⟨(d2.keep bel3.block).mono (by omega), (d3.keep bel3.block).mono (by omega), (d4.keep bel3.block).mono (by omega), (d5.keep bel3.block).mono (by omega), by omega, by omega, ro3, re3⟩
  have D0 : DatB w3.heap.size .u8 w3 ao0 n0 PX := (d0.keep bel3.block).mono (by omega)
  have D1 : DatB w3.heap.size .u8 w3 ao1 n1 PY := (d1.keep bel3.block).mono (by omega)
  clear ro re d0 d1 d2 d3 d4 d5 bel2
  refine segD ao0 ao1 ao2 ao3 ao4 ao5 og eg n2 n0 n1 slack vid size L _ a3 w3 hz hd h0 h1 h2 h3 h4 h5 h6 h7 h8 h19 h20 h21 h22 re3 bn2 hsl hT1 (fun a4 w4 iz id i0 i1 i2 i3 i4 i5 i6 i7 i8 i19 i20 i21 i22 i25 i26 i27 i28 row4 g4 => ?_)
  obtain ⟨bb, hbb⟩ : ∃ bb, bb = w3.heap.size := ⟨_, rfl⟩
  have hbb1 : w3.heap.size ≤ bb := by omega
  have s13 := bel13.size
  rw [← hbb] at row4 i28
  have E4 := E3.grown g4 (Nat.le_refl _) (fun j hj => by cases hj)
  have bel14 : Below w1.heap.size w1 w4 := bel13.grown g4 s13 (fun j hj => by cases hj)
  have s4 := g4.size
  refine segE2 w3.heap.size bb (offAt n0 L n2 + slack + n1) ao0 ao1 ao2 ao3 ao4 ao5 og eg n2 n0 n1 slack (offAt n0 L n2) (offAt n0 L n2 + slack) vid size _ PX _ a4 w4 iz id i0 i1 i2 i3 i4 i5 i6 i7 i8 i19 i20 i21 i22 i25 i26 i27 i28 row4 hbb1 hT1 (Nat.zero_le _) (by omega) (D0.keep fun k hk => g4.block k hk (by simp)) (fun a5 w5 jz jd j0 j1 j2 j3 j4 j5 j6 j7 j8 j19 j20 j21 j22 j25 j26 j27 j28 row5 g5 => ?_)
  obtain ⟨X5, row5⟩ := row5
  have E5 := E4.grown g5 s4 (fun j hj => by cases hj; exact hbb1)
  have bel15 : Below w1.heap.size w1 w5 := bel14.grown g5 (by omega) (fun j hj => by cases hj; omega)
  have s5 := g5.size
  refine segE3 w3.heap.size bb (offAt n0 L n2 + slack + n1) ao0 ao1 ao2 ao3 ao4 ao5 og eg n2 n0 n1 slack (offAt n0 L n2) (offAt n0 L n2 + slack) vid size X5 PX _ a5 w5 jz jd j0 j1 j2 j3 j4 j5 j6 j7 j8 j19 j20 j21 j22 j25 j26 j27 j28 row5 hbb1 hT1 (off_mono n0 L (Nat.zero_le n2)) (by omega) (fun a6 w6 kz kd k0 k1 k2 k3 k4 k5 k6 k7 k8 k19 k20 k21 k22 k25 k26 k27 k28 row6 g6 => ?_)
  obtain ⟨X6, row6⟩ := row6
  have E6 := E5.grown g6 (by omega) (fun j hj => by cases hj; exact hbb1)
  have bel16 : Below w1.heap.size w1 w6 := bel15.grown g6 (by omega) (fun j hj => by cases hj; omega)
  have s6 := g6.size
  refine segE4 w3.heap.size bb (offAt n0 L n2 + slack + n1) ao0 ao1 ao2 ao3 ao4 ao5 og eg n2 n0 n1 slack (offAt n0 L n2) (offAt n0 L n2 + slack) vid size X6 PX _ a6 w6 kz kd k0 k1 k2 k3 k4 k5 k6 k7 k8 k19 k20 k21 k22 k25 k26 k27 k28 row6 hbb1 hT1 (by omega) (by omega) (fun a7 w7 lz ld l0 l1 l2 l3 l4 l5 l6 l7 l8 l19 l20 l21 l22 l25 l26 l27 l28 row7 g7 => ?_)
  obtain ⟨X7, row7⟩ := row7
  have E7 := E6.grown g7 (by omega) (fun j hj => by cases hj; exact hbb1)
  have bel17 : Below w1.heap.size w1 w7 := bel16.grown g7 (by omega) (fun j hj => by cases hj; omega)
  have s7 := g7.size
  have D17 : DatB w3.heap.size .u8 w7 ao1 n1 PY := D1.keep fun k hk => by
    rw [g7.block k (by omega) (by simp; omega), g6.block k (by omega) (by simp; omega), g5.block k (by omega) (by simp; omega), g4.block k hk (by simp)]
  refine segE5 w3.heap.size bb (offAt n0 L n2 + slack + n1) ao0 ao1 ao2 ao3 ao4 ao5 og eg n2 n0 n1 slack (offAt n0 L n2) (offAt n0 L n2 + slack) vid size X7 PY _ a7 w7 lz ld l0 l1 l2 l3 l4 l5 l6 l7 l8 l19 l20 l21 l22 l25 l26 l27 l28 row7 hbb1 hT1 (Nat.zero_le _) (by omega) D17 (fun a8 w8 mz md m0 m1 m2 m3 m4 m5 m6 m7 m8 m19 m20 m21 m22 m25 m26 m27 m28 row8 g8 => ?_)
  obtain ⟨X8, row8⟩ := row8
  have E8 := E7.grown g8 (by omega) (fun j hj => by cases hj; exact hbb1)
  have bel18 : Below w1.heap.size w1 w8 := bel17.grown g8 (by omega) (fun j hj => by cases hj; omega)
  have s8 := g8.size
  clear fz fd f0 f1 f2 f3 f4 f5 f6 f7 f8 gz gd g0 g1 g2 g3 g4 g5 g6 g7 g8 g19 g20 g21 g22 g23 hz hd h0 h1 h2 h3 h4 h5 h6 h7 h8 h19 h20 h21 h22 iz id i0 i1 i2 i3 i4 i5 i6 i7 i8 i19 i20 i21 i22 i25 i26 i27 i28 jz jd j0 j1 j2 j3 j4 j5 j6 j7 j8 j19 j20 j21 j22 j25 j26 j27 j28 kz kd k0 k1 k2 k3 k4 k5 k6 k7 k8 k19 k20 k21 k22 k25 k26 k27 k28 lz ld l0 l1 l2 l3 l4 l5 l6 l7 l8 l19 l20 l21 l22 l25 l26 l27 l28
  refine segF w3.heap.size bb (offAt n0 L n2 + slack + n1) ao0 ao1 ao2 ao3 ao4 ao5 og eg n2 n0 n1 slack (offAt n0 L n2) (offAt n0 L n2 + slack) vid size X8 I S L A _ a8 w8 mz md m0 m1 m2 m3 m4 m5 m6 m7 m8 m19 m20 m21 m22 m25 m26 m27 m28 row8 E8 hbb1 hT1 bn2 hL (by omega) (fun a9 w9 fz fd f0 f1 f2 f3 f4 f5 f6 f7 f8 f19 f20 f21 f22 f25 f26 f27 f28 hc9 row9 g9 => ?_)
  obtain ⟨OB, row9⟩ := row9
  obtain ⟨cc, hcc, f33⟩ := hc9
  have E9 := E8.grown g9 (by omega) (fun j hj => by cases hj; exact hbb1)
  have bel19 : Below w1.heap.size w1 w9 := bel18.grown g9 (by omega) (fun j hj => by cases hj; omega)
  have s9 := g9.size
  have hbb9 := row9.lt
  clear row4 row5 row6 row7 row8 E3 E4 E5 E6 E7 E8 g4 g5 g6 g7 g8 g9 D0 D1 D17 bel14 bel15 bel16 bel17 bel18 mz md m0 m1 m2 m3 m4 m5 m6 m7 m8 m19 m20 m21 m22 m25 m26 m27 m28
  refine segG w3.heap.size bb (offAt n0 L n2 + slack + n1) cc ao0 ao1 ao2 ao3 ao4 ao5 og eg n2 n0 n1 slack (offAt n0 L n2) (offAt n0 L n2 + slack) vid size I S L A _ a9 w9 fz fd f0 f1 f2 f3 f4 f5 f6 f7 f8 f19 f20 f21 f22 f25 f26 f27 f28 f33 E9 (by omega) bn2 hcc hL hI (fun a10 w10 gz gd g0 g1 g2 g3 g4 g5 g6 g7 g8 g19 g20 g21 g22 g25 g26 g27 g28 hz10 bel10 => ?_)
  obtain ⟨zg, zcap, g37, hown10⟩ := hz10
  have E10 := E9.keep fun k hk => bel10.block k (by omega)
  have s10 := bel10.size
  have row10 := row9.of_block (bel10.block bb hbb9)
  have bel110 := below_up' bel19 (by omega) bel10
  refine segH w3.heap.size bb (offAt n0 L n2 + slack + n1) ao0 ao1 ao2 ao3 ao4 ao5 og eg n2 n0 n1 slack (offAt n0 L n2) (offAt n0 L n2 + slack) zg (zl n0 L I S A n2).length zcap vid size OB I S L A _ a10 w10 gz gd g0 g1 g2 g3 g4 g5 g6 g7 g8 g19 g20 g21 g22 g25 g26 g27 g28 g37 row10 E10 (by omega) hT1 bn2 hI hv0 hv1 (fun a11 w11 hz hd h0 h1 h2 h3 h4 h5 h6 h7 h8 h19 h20 h21 h22 h25 h26 h27 h28 h37 hk11 bel11 => ?_)
  obtain ⟨ob, kg, kcap, M, h39, hob, rowO, h41, hownK, hkept⟩ := hk11
  have hMn : ∀ i ∈ M, i < n2 := fun i hi => ((hkept.2 i).1 hi).1
  have hMl : M.length ≤ n2 := hkept.len
  have hpack : frOf n0 (M.map (recOf n0 L I S A)) ≤ offAt n0 L n2 := pack_le M hkept.1 hMn n0 0 (fun _ _ => Nat.zero_le _) (Nat.zero_le _) (Nat.le_refl _)
  have E11 := E10.keep fun k hk => bel11.block k (by omega)
  have s11 := bel11.size
  have row11 := row10.of_block (bel11.block bb (by omega))
  have bel111 := below_up' bel110 (by omega) bel11
  have hkr11 : ∀ (i x : Nat), M[i]? = some x → w11.cell? ⟨kg, i, none⟩ = some (.int .i64 (x : Int)) := fun i x hx => cell_of_owns hownK hx
  have hz11 : ∀ i r, (zl n0 L I S A n2)[i]? = some r → w11.rangeAt zg (i * 22) (zc r) := fun i r hr => by
    have h10 := range_of_owns len_zc hown10 hr
    exact range_below h10 bel11 (World.block_lt_of_cell? w10 _ (h10 0 _ rfl))
  have hIfit : frOf n0 (M.map (recOf n0 L I S A)) ≤ offAt n0 L n2 + slack := by omega
  refine segI w3.heap.size (offAt n0 L n2 + slack + n1) bb zg (zl n0 L I S A n2).length zcap ob kg M.length kcap ao0 ao1 ao2 ao3 ao4 ao5 og eg n2 n0 n1 slack (offAt n0 L n2) (offAt n0 L n2 + slack) vid size I S L A M _ a11 w11 hz hd h0 h1 h2 h3 h4 h5 h6 h7 h8 h19 h20 h21 h22 h25 h26 h27 h28 h37 h39 h41 E11 (by omega) bn2 hkr11 rfl hMn (by omega) hL bn0 hIfit (by omega) (by omega) (fun a12 w12 iz id i0 i1 i2 i3 i4 i5 i6 i7 i8 i19 i20 i21 i22 i25 i26 i27 i28 i37 i39 i41 hn12 i47 i49 bel12 => ?_)
  obtain ⟨ng, hg, i43, i44, rowN, rowH⟩ := hn12
  have E12 := E11.keep fun k hk => bel12.block k (by omega)
  have s12 := bel12.size
  have row12 := row11.of_block (bel12.block bb (by omega))
  have rowO12 := rowO.of_block (bel12.block ob rowO.lt)
  have bel112 := below_up' bel111 (by omega) bel12
  have hkr12 : ∀ (i x : Nat), M[i]? = some x → w12.cell? ⟨kg, i, none⟩ = some (.int .i64 (x : Int)) := fun i x hx => by
    rw [bel12.cell (World.block_lt_of_cell? w11 _ (hkr11 i x hx))]; exact hkr11 i x hx
  have hz12 : ∀ i r, (zl n0 L I S A n2)[i]? = some r → w12.rangeAt zg (i * 22) (zc r) := fun i r hr => range_below (hz11 i r hr) bel12 (World.block_lt_of_cell? w11 _ (hz11 i r hr 0 _ rfl))
  have hzl := zl_len n0 L I S A n2
  have hZr : ∀ r ∈ zl n0 L I S A n2, (0 ≤ r.c ∧ r.c < 8) ∧ r.off ≤ r.en ∧ r.en ≤ offAt n0 L n2 + slack ∧ r.dl ≤ ln r := fun r hr => by
    obtain ⟨i, hi, rfl⟩ := zl_at hr
    have e1 := en_eq n0 L i
    have e2 := en_le n0 L hi
    refine ⟨⟨?_, ?_⟩, ?_, ?_, ?_⟩
    · show 0 ≤ I i % 8; omega
    · show I i % 8 < 8; omega
    · show offAt n0 L i ≤ enAt n0 L i; omega
    · show enAt n0 L i ≤ _; omega
    · show L i ≤ enAt n0 L i - offAt n0 L i; omega
  have hF12 : F.answers w12.tape := by rw [bel112.tape]; exact hF
  refine segJ F (offAt n0 L n2 + slack + n1) bb zg (zl n0 L I S A n2).length zcap ob kg M.length kcap ng hg (frOf n0 (M.map (recOf n0 L I S A))) ao0 ao1 ao2 ao3 ao4 ao5 og eg n2 n0 n1 slack (offAt n0 L n2) (offAt n0 L n2 + slack) vid size OB (zl n0 L I S A n2) (M.map (recOf n0 L I S A)) _ a12 w12 iz id i0 i1 i2 i3 i4 i5 i6 i7 i8 i19 i20 i21 i22 i25 i26 i27 i28 i37 i39 i41 i43 i44 i47 i49 hF12 row12 rowO12 rfl (by omega) hz12 hZr hT1 (by have := off_mono n0 L (Nat.zero_le n2); have e : offAt n0 L 0 = n0 := rfl; omega) (by omega) hv0 hv1 hIfit rfl (kept_same hkept hS) (fun a13 w13 jz jd j0 j1 j2 j3 j4 j5 j6 j7 j8 j19 j20 j21 j22 j25 j26 j27 j28 j37 j39 j41 j43 j44 j47 hout bel13' => ?_)
  have row13 := row12.of_block (bel13'.block bb (by omega))
  have rowO13 := rowO12.of_block (bel13'.block ob rowO12.lt)
  have bel113 := below_up' bel112 (by omega) bel13'
  have s13' := bel13'.size
  rcases hout with ⟨s, rg, p, j50, j51, j52, hst, hup⟩ | ⟨s, nb, ao, cap, j50, j51, j52, hst, hnbrow, hrecs⟩
  · refine segK (offAt n0 L n2 + slack + n1) bb zg (zl n0 L I S A n2).length zcap ob s rg n0 (offAt n0 L n2) (offAt n0 L n2 + slack) p OB (zl n0 L I S A n2) _ a13 w13 jz jd j20 j25 j26 j27 j28 j37 j39 j50 j51 j52 row13 rowO13 rfl (by omega) (fun i r hr => range_below (hz12 i r hr) bel13' (World.block_lt_of_cell? w12 _ (hz12 i r hr 0 _ rfl))) (fun r hr => ?_) hT1 hst hup (fun w' hb' => ⟨rfl, below_up' bel113 bel113.size hb'⟩)
    obtain ⟨_, k1, k2, k3⟩ := hZr r hr
    unfold ln at k3
    exact ⟨by omega, by omega⟩
  · have hnl : n0 ≤ offAt n0 L n2 + slack := by have := off_mono n0 L (Nat.zero_le n2); have e : offAt n0 L 0 = n0 := rfl; omega
    have E13 := E12.keep fun k hk => bel13'.block k (by omega)
    have rowN13 := rowN.of_block (bel13'.block ng rowN.lt)
    have rowH13 := rowH.of_block (bel13'.block hg rowH.lt)
    have hKlen : (M.map (recOf n0 L I S A)).length = M.length := List.length_map ..
    rw [hKlen] at hst hrecs
    have hkr13 : ∀ (i x : Nat), M[i]? = some x → kg < w13.heap.size ∧ w13.cell? ⟨kg, i, none⟩ = some (.int .i64 (x : Int)) := fun i x hx => by
      have hlt := World.block_lt_of_cell? w12 _ (hkr12 i x hx)
      refine ⟨Nat.lt_of_lt_of_le hlt s13', ?_⟩
      rw [bel13'.cell hlt]; exact hkr12 i x hx
    refine segL (offAt n0 L n2 + slack + n1) ob kg M.length kcap ng hg (frOf n0 (M.map (recOf n0 L I S A))) s nb ao2 ao3 ao4 ao5 ao og eg n2 n0 (offAt n0 L n2 + slack) cap OB _ _ a13 w13 jz jd j2 j3 j4 j5 j19 j20 j21 j22 j26 j27 j39 j41 j43 j44 j47 j50 j52 j51 rowO13 hnbrow (fun i hi => newB_out hnl hIfit (.inl hi)) (fun i h1 h2 => newB_out hnl hIfit (.inr ⟨h1, h2⟩)) hnl (by omega) hT1 (by omega) hst (fun a14 w14 qz qd q2 q3 q4 q5 q19 q20 q21 q22 q26 q27 q39 q41 q43 q44 q47 q50 q52 hcg14 bel14' => ?_)
    obtain ⟨cg, q58, hcgl, hcgrow⟩ := hcg14
    have bel114 := below_up' bel113 bel113.size bel14'
    have hslt : s < w13.heap.size := (Array.getElem?_eq_some_iff.1 hst).1
    refine segM w3.heap.size (offAt n0 L n2 + slack + n1) ob kg M.length kcap ng hg s nb cg ao2 ao3 ao4 ao5 og eg n2 n0 (offAt n0 L n2 + slack) ao cap (frOf n0 (M.map (recOf n0 L I S A))) OB _ I S L A M _ a14 w14 ⟨qz, qd, q2, q3, q4, q5, q20, q21, q22, q26, q27, q39, q41, q43, q44, q50, q52, q58⟩ (E13.keep fun k hk => bel14'.block k (by omega)) (by omega) bn2 (fun i x hx => ?_) rfl hMn (by omega) hL hI (rowN13.of_block (bel14'.block ng rowN13.lt)) (rowH13.of_block (bel14'.block hg rowH13.lt)) (rowO13.of_block (bel14'.block ob rowO13.lt)) (hnbrow.of_block (bel14'.block nb hnbrow.lt)) hcgrow ⟨Nat.lt_of_lt_of_le rowN13.lt hcgl, Nat.lt_of_lt_of_le rowH13.lt hcgl, Nat.lt_of_lt_of_le rowO13.lt hcgl, Nat.lt_of_lt_of_le hnbrow.lt hcgl, Nat.lt_of_lt_of_le hslt hcgl⟩ (fun k j r hr hj => newB_in hr hj) (by rw [bel14'.block s hslt]; exact hst) ?_ hT1 (by omega) (by omega) (fun a15 w15 S15 hC15 g15 => ?_)
    · obtain ⟨k1, k2⟩ := hkr13 i x hx
      exact ⟨Nat.lt_of_lt_of_le k1 hcgl, by rw [bel14'.cell k1]; exact k2⟩
    · rcases hrecs with h | ⟨rg, hao, hup⟩
      · exact .inl h
      · by_cases h0' : M.length = 0
        · exact .inl h0'
        · right
          obtain ⟨u, hu⟩ := Option.isSome_iff_exists.1 ((hup.1 0 (by omega)) 0 (by omega)).1
          have hrl : rg < w13.heap.size := World.block_lt_of_cell? w13 _ hu
          exact ⟨rg, Nat.lt_of_lt_of_le hrl hcgl, hao, hup.of_block (bel14'.block rg hrl)⟩
    · obtain ⟨C, hCrow, hCm⟩ := hC15
      have bel115 : Below w1.heap.size w1 w15 := bel114.grown g15 bel114.size (fun j hj => by cases hj; have := bel113.size; omega)
      have hnb15 := (hnbrow.of_block (bel14'.block nb hnbrow.lt)).of_block (g15.block nb (Nat.lt_of_lt_of_le hnbrow.lt bel14'.size) (by have := hnbrow.lt; simp; omega))
      refine segN (offAt n0 L n2 + slack + n1) nb cg n0 (offAt n0 L n2 + slack) _ C _ a15 w15 S15.sz S15.df S15.s20 S15.s26 S15.s27 S15.s52 S15.s58 hnb15 hCrow (fun i k1 k2 hc => newB_free k1 k2 fun k hk hin => ?_) hnl (by omega) hT1 (fun w' hb' => ⟨rfl, below_up' bel115 bel115.size hb'⟩)
      have := hCm k (by rw [hKlen] at hk; exact hk) i hin.1 hin.2
      rw [this] at hc
      cases hc
end Go.Proofs.Qxb6003952aFmt
