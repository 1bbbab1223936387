/- The law's own function: where the kept records are to go. -/
import Derived.Test.Qxb6003952aFmtPlainA
namespace Go.Proofs.Qxb6003952aFmt
open Go.RowKit Go.Extern.Stop Go.Stop Go.Extern
set_option linter.unusedVariables false

theorem grown_set_any {w W : World} {b j : Nat} {v : Value} (hW : w.setCell ⟨b, j, none⟩ v = W) : w.grownBy W (some b) := hW ▸ grown_set w b j v
set_option maxRecDepth 1000000 in
set_option maxHeartbeats 6400000 in
theorem segI (B T bb zg m zcap ob kg m2 kcap : Nat) (ao0 ao1 ao2 ao3 ao4 ao5 : Option Addr) (og eg n start post slack free en_ : Nat) (vid size : Int) (I S : Nat → Int) (L : Nat → Nat) (A : Nat → Int) (M : List Nat) (Q : Exit → Act → World → Prop) (a : Act) (w : World) (hsz : a.tmps.size = 848) (hd : a.defers = [])
    (h0 : a.tmps.getD 0 undef = .slice ao0 start start) (h1 : a.tmps.getD 1 undef = .slice ao1 post post) (h2 : a.tmps.getD 2 undef = .slice ao2 n n) (h3 : a.tmps.getD 3 undef = .slice ao3 n n) (h4 : a.tmps.getD 4 undef = .slice ao4 n n) (h5 : a.tmps.getD 5 undef = .slice ao5 n n) (h6 : a.tmps.getD 6 undef = .int .u16 (slack : Int)) (h7 : a.tmps.getD 7 undef = .int .u8 vid) (h8 : a.tmps.getD 8 undef = .int .i64 size) (h19 : a.tmps.getD 19 undef = .int .i64 (n : Int)) (h20 : a.tmps.getD 20 undef = .int .i64 (start : Int)) (h21 : a.tmps.getD 21 undef = .slice (some ⟨og, 0, none⟩) n n) (h22 : a.tmps.getD 22 undef = .slice (some ⟨eg, 0, none⟩) n n) (h25 : a.tmps.getD 25 undef = .int .i64 (free : Int)) (h26 : a.tmps.getD 26 undef = .int .i64 (en_ : Int)) (h27 : a.tmps.getD 27 undef = .int .i64 (T : Int)) (h28 : a.tmps.getD 28 undef = .slice (some ⟨bb, 0, none⟩) T T) (h37 : a.tmps.getD 37 undef = .slice (some ⟨zg, 0, none⟩) m zcap) (h39 : a.tmps.getD 39 undef = .slice (some ⟨ob, 0, none⟩) T T) (h41 : a.tmps.getD 41 undef = .slice (some ⟨kg, 0, none⟩) m2 kcap)
    (hE : Env B w ao2 ao3 ao4 ao5 og eg n start I S L A) (hB : B ≤ w.heap.size) (hn : n ≤ 4096) (hkr : ∀ (i x : Nat), M[i]? = some x → w.cell? ⟨kg, i, none⟩ = some (.int .i64 (x : Int))) (hMl : M.length = m2) (hMn : ∀ i ∈ M, i < n) (hm2 : m2 ≤ 4096) (hL : ∀ i, L i < 256) (hst : start ≤ 65536) (hfit : frOf start (M.map (recOf start L I S A)) ≤ en_) (hen : en_ ≤ 2097152) (hoff : offAt start L n ≤ 2097152)
    (hQ : ∀ a' w', a'.tmps.size = 848 → a'.defers = [] → a'.tmps.getD 0 undef = .slice ao0 start start → a'.tmps.getD 1 undef = .slice ao1 post post → a'.tmps.getD 2 undef = .slice ao2 n n → a'.tmps.getD 3 undef = .slice ao3 n n → a'.tmps.getD 4 undef = .slice ao4 n n → a'.tmps.getD 5 undef = .slice ao5 n n → a'.tmps.getD 6 undef = .int .u16 (slack : Int) → a'.tmps.getD 7 undef = .int .u8 vid → a'.tmps.getD 8 undef = .int .i64 size → a'.tmps.getD 19 undef = .int .i64 (n : Int) → a'.tmps.getD 20 undef = .int .i64 (start : Int) → a'.tmps.getD 21 undef = .slice (some ⟨og, 0, none⟩) n n → a'.tmps.getD 22 undef = .slice (some ⟨eg, 0, none⟩) n n → a'.tmps.getD 25 undef = .int .i64 (free : Int) → a'.tmps.getD 26 undef = .int .i64 (en_ : Int) → a'.tmps.getD 27 undef = .int .i64 (T : Int) → a'.tmps.getD 28 undef = .slice (some ⟨bb, 0, none⟩) T T → a'.tmps.getD 37 undef = .slice (some ⟨zg, 0, none⟩) m zcap → a'.tmps.getD 39 undef = .slice (some ⟨ob, 0, none⟩) T T → a'.tmps.getD 41 undef = .slice (some ⟨kg, 0, none⟩) m2 kcap → (∃ ng hg, a'.tmps.getD 43 undef = .slice (some ⟨ng, 0, none⟩) m2 m2 ∧ a'.tmps.getD 44 undef = .slice (some ⟨hg, 0, none⟩) m2 m2 ∧ w'.rowIs ng 3 m2 (V .i64 fun k => (nO start (M.map (recOf start L I S A)) k : Int)) ∧ w'.rowIs hg 3 m2 (V .i64 fun k => (nE start (M.map (recOf start L I S A)) k : Int))) → a'.tmps.getD 47 undef = .int .i64 ((frOf start (M.map (recOf start L I S A)) : Nat) : Int) → a'.tmps.getD 49 undef = .bool (decide (size ≤ (en_ : Int) - ((frOf start (M.map (recOf start L I S A)) : Nat) : Int))) → Below w.heap.size w w' → Code.wp Tryf.prog (tk 44 (Tryf.f6.body.getD .skip)) Q a' w') :
    Code.wp Tryf.prog (tk 35 (Tryf.f6.body.getD .skip)) Q a w := by
  obtain ⟨f, hf, rfl⟩ := lit848 a hsz hd
  have e0 : f 0 = .slice ao0 start start := (hf 0).symm.trans h0
  have e1 : f 1 = .slice ao1 post post := (hf 1).symm.trans h1
  have e2 : f 2 = .slice ao2 n n := (hf 2).symm.trans h2
  have e3 : f 3 = .slice ao3 n n := (hf 3).symm.trans h3
  have e4 : f 4 = .slice ao4 n n := (hf 4).symm.trans h4
  have e5 : f 5 = .slice ao5 n n := (hf 5).symm.trans h5
  have e6 : f 6 = .int .u16 (slack : Int) := (hf 6).symm.trans h6
  have e7 : f 7 = .int .u8 vid := (hf 7).symm.trans h7
  have e8 : f 8 = .int .i64 size := (hf 8).symm.trans h8
  have e19 : f 19 = .int .i64 (n : Int) := (hf 19).symm.trans h19
  have e20 : f 20 = .int .i64 (start : Int) := (hf 20).symm.trans h20
  have e21 : f 21 = .slice (some ⟨og, 0, none⟩) n n := (hf 21).symm.trans h21
  have e22 : f 22 = .slice (some ⟨eg, 0, none⟩) n n := (hf 22).symm.trans h22
  have e25 : f 25 = .int .i64 (free : Int) := (hf 25).symm.trans h25
  have e26 : f 26 = .int .i64 (en_ : Int) := (hf 26).symm.trans h26
  have e27 : f 27 = .int .i64 (T : Int) := (hf 27).symm.trans h27
  have e28 : f 28 = .slice (some ⟨bb, 0, none⟩) T T := (hf 28).symm.trans h28
  have e37 : f 37 = .slice (some ⟨zg, 0, none⟩) m zcap := (hf 37).symm.trans h37
  have e39 : f 39 = .slice (some ⟨ob, 0, none⟩) T T := (hf 39).symm.trans h39
  have e41 : f 41 = .slice (some ⟨kg, 0, none⟩) m2 kcap := (hf 41).symm.trans h41
  have HQ : Hid (∀ a' w', a'.tmps.size = 848 → a'.defers = [] → a'.tmps.getD 0 undef = .slice ao0 start start → a'.tmps.getD 1 undef = .slice ao1 post post → a'.tmps.getD 2 undef = .slice ao2 n n → a'.tmps.getD 3 undef = .slice ao3 n n → a'.tmps.getD 4 undef = .slice ao4 n n → a'.tmps.getD 5 undef = .slice ao5 n n → a'.tmps.getD 6 undef = .int .u16 (slack : Int) → a'.tmps.getD 7 undef = .int .u8 vid → a'.tmps.getD 8 undef = .int .i64 size → a'.tmps.getD 19 undef = .int .i64 (n : Int) → a'.tmps.getD 20 undef = .int .i64 (start : Int) → a'.tmps.getD 21 undef = .slice (some ⟨og, 0, none⟩) n n → a'.tmps.getD 22 undef = .slice (some ⟨eg, 0, none⟩) n n → a'.tmps.getD 25 undef = .int .i64 (free : Int) → a'.tmps.getD 26 undef = .int .i64 (en_ : Int) → a'.tmps.getD 27 undef = .int .i64 (T : Int) → a'.tmps.getD 28 undef = .slice (some ⟨bb, 0, none⟩) T T → a'.tmps.getD 37 undef = .slice (some ⟨zg, 0, none⟩) m zcap → a'.tmps.getD 39 undef = .slice (some ⟨ob, 0, none⟩) T T → a'.tmps.getD 41 undef = .slice (some ⟨kg, 0, none⟩) m2 kcap → (∃ ng hg, a'.tmps.getD 43 undef = .slice (some ⟨ng, 0, none⟩) m2 m2 ∧ a'.tmps.getD 44 undef = .slice (some ⟨hg, 0, none⟩) m2 m2 ∧ w'.rowIs ng 3 m2 (V .i64 fun k => (nO start (M.map (recOf start L I S A)) k : Int)) ∧ w'.rowIs hg 3 m2 (V .i64 fun k => (nE start (M.map (recOf start L I S A)) k : Int))) → a'.tmps.getD 47 undef = .int .i64 ((frOf start (M.map (recOf start L I S A)) : Nat) : Int) → a'.tmps.getD 49 undef = .bool (decide (size ≤ (en_ : Int) - ((frOf start (M.map (recOf start L I S A)) : Nat) : Int))) → Below w.heap.size w w' → Code.wp Tryf.prog (tk 44 (Tryf.f6.body.getD .skip)) Q a' w') := hQ
  rw [e0, e1, e2, e3, e4, e5, e6, e7, e8, e19, e20, e21, e22, e25, e26, e27, e28, e37, e39, e41]
  clear h0 e0 h1 e1 h2 e2 h3 e3 h4 e4 h5 e5 h6 e6 h7 e7 h8 e8 h19 e19 h20 e20 h21 e21 h22 e22 h25 e25 h26 e26 h27 e27 h28 e28 h37 e37 h39 e39 h41 e41 hf hsz hd hQ
  conv => arg 2; whnf
  obtain ⟨K, hK⟩ : ∃ K, K = (M.map (recOf start L I S A)) := ⟨_, rfl⟩
  rw [← hK] at HQ hfit
  have HE : Hid (Env B w ao2 ao3 ao4 ao5 og eg n start I S L A) := hE
  have HKR : Hid (∀ (i x : Nat), M[i]? = some x → w.cell? ⟨kg, i, none⟩ = some (.int .i64 (x : Int))) := hkr
  have HML : Hid (M.length = m2) := hMl
  have HKL : Hid (K.length = m2) := by rw [hK, List.length_map]; exact hMl
  have HMN : Hid (∀ i ∈ M, i < n) := hMn
  have HKK : Hid (∀ (i x : Nat), M[i]? = some x → K[i]? = some (recOf start L I S A x)) := fun i x hx => by rw [hK, List.getElem?_map, hx]; rfl
  have HOFF : Hid (offAt start L n ≤ 2097152) := hoff
  have HFIT : Hid (frOf start K ≤ en_) := hfit
  have hmk := run_make_row' (P := Tryf.prog) 40 3 (.int .i64 0) 8 Tryf.underlying40 info3 rfl .i64 .i64 m2 (by omega) (by omega)
  clear hE hkr hMl hMn hL hfit hoff hK
  go_wp2_with fail
  obtain ⟨W0, hW0⟩ : ∃ W0, W0 = (w.alloc (.cells (madeCells #[.int .i64 0] m2) 3)).alloc (.cells (madeCells #[.int .i64 0] m2) 3) := ⟨_, rfl⟩
  rw [← hW0]
  obtain ⟨ng, hng0⟩ : ∃ ng, ng = w.heap.size := ⟨_, rfl⟩
  obtain ⟨hg, hhg0⟩ : ∃ hg, hg = w.heap.size + 1 := ⟨_, rfl⟩
  have hsz1 : (w.alloc (.cells (madeCells #[.int .i64 0] m2) 3)).heap.size = w.heap.size + 1 := by simp
  have HRO : Hid (W0.rowIs ng 3 m2 (V .i64 (fillF (fun i => (nO start K i : Int)) 0))) := by rw [hW0, hng0]; exact fill_none ((World.rowIs_made w (.int .i64 0) m2 3).alloc _)
  have HRE : Hid (W0.rowIs hg 3 m2 (V .i64 (fillF (fun i => (nE start K i : Int)) 0))) := by rw [hW0, hhg0, ← hsz1]; exact fill_none (World.rowIs_made _ (.int .i64 0) m2 3)
  have HB0 : Hid (Below w.heap.size w W0) := by rw [hW0]; exact ((Below.refl _ _).alloc (Nat.le_refl _) _).alloc (by simp) _
  have hng : w.heap.size ≤ ng := by omega
  have hhg : w.heap.size ≤ hg := by omega
  have hnh : ng ≠ hg := by omega
  rw [← hhg0, ← hng0]
  clear hW0 hsz1 hmk hng0 hhg0
  go_loopw [45, 46] (fun pv iv wr => ∃ k : Nat, k ≤ m2 ∧ iv = .int .i64 (k : Int) ∧ (k = 0 → pv = .int .i64 (start : Int)) ∧ wr.rowIs ng 3 m2 (V .i64 (fillF (fun i => (nO start K i : Int)) k)) ∧ wr.rowIs hg 3 m2 (V .i64 (fillF (fun i => (nE start K i : Int)) k)) ∧ Below w.heap.size w wr) (fun _ iv _ => m2 - (intOf iv).toNat)
  case atStart => exact ⟨0, Nat.zero_le _, rfl, fun _ => rfl, HRO.out, HRE.out, HB0.out⟩
  case round =>
    obtain ⟨k, hk, rfl, hp, hro, hre, hb⟩ := hrel
    have HO : Hid (wr.rowIs ng 3 m2 (V .i64 (fillF (fun i => (nO start K i : Int)) k))) := hro
    have HE2 : Hid (wr.rowIs hg 3 m2 (V .i64 (fillF (fun i => (nE start K i : Int)) k))) := hre
    have HB : Hid (Below w.heap.size w wr) := hb
    have HP : Hid (k = 0 → u45 = .int .i64 (start : Int)) := hp
    clear hro hre hb hp
    by_cases hlt : k < m2
    · have hki : (k : Int) < (m2 : Int) := by omega
      obtain ⟨x, hx⟩ : ∃ x, M[k]? = some x := ⟨_, List.getElem?_eq_getElem (by rw [HML.out]; exact hlt)⟩
      have hxn : x < n := HMN.out x (List.mem_of_getElem? hx)
      have hKk := HKK.out k x hx
      have hkglt : kg < w.heap.size := World.block_lt_of_cell? w _ (HKR.out k x hx)
      have hck : wr.cell? ⟨kg, k, none⟩ = some (.int .i64 (x : Int)) := by rw [HB.out.cell (by exact hkglt)]; exact HKR.out k x hx
      have hEk := HE.out.keep fun j hj => HB.out.block j (Nat.lt_of_lt_of_le hj hB)
      have hlo := HE.out.lo
      have hle := HE.out.le
      obtain ⟨of, hof⟩ : ∃ of, of = offAt start L x := ⟨_, rfl⟩
      obtain ⟨en, hene⟩ : ∃ en, en = enAt start L x := ⟨_, rfl⟩
      have hoe : of + 12 ≤ en := by rw [hof, hene]; exact off_le_en start L x
      have hen2 : en ≤ 2097152 := by rw [hene]; exact Nat.le_trans (en_le start L hxn) HOFF.out
      have hce : wr.cell? ⟨eg, x, none⟩ = some (.int .i64 (en : Int)) := by rw [hEk.re.cell hxn, hene]; rfl
      have hco : wr.cell? ⟨og, x, none⟩ = some (.int .i64 (of : Int)) := by rw [hEk.ro.cell hxn, hof]; rfl
      have hix1 := ix40 (g := ng) (c := m2) hlt
      have hix2 := ix40 (g := hg) (c := m2) hlt
      have hix3 := ix40 (g := kg) (c := kcap) hlt
      have hix4 := ix40 (g := eg) (c := n) hxn
      have hix5 := ix40 (g := og) (c := n) hxn
      obtain ⟨o, ho⟩ : ∃ o, o = nO start K k := ⟨_, rfl⟩
      have HOO : Hid (o = nO start K k) := ho
      have hob : o ≤ 2097152 := by rw [ho]; have := nO_le (start := start) K k; have := HFIT.out; omega
      have HNE : Hid ((o : Int) + (en : Int) - (of : Int) = ((nE start K k : Nat) : Int)) := by
        rw [nE_at hKk, ← ho]
        have e : ln (recOf start L I S A x) = enAt start L x - offAt start L x := rfl
        unfold Hid
        omega
      have hwr : IntKind.i64.wrap ((o : Int) + (en : Int)) = (o : Int) + (en : Int) := by rw [IntKind.wrap_i64]; omega
      have hwr2 : IntKind.i64.wrap ((o : Int) + (en : Int) - (of : Int)) = (o : Int) + (en : Int) - (of : Int) := by rw [IntKind.wrap_i64]; omega
      obtain ⟨v0, hv0⟩ : ∃ v0, wr.cell? ⟨ng, k, none⟩ = some v0 := ⟨_, HO.out.cell hlt⟩
      have hfr : wr.frozen? ⟨ng, k, none⟩ = false := HO.out.frozen _
      clear ho hof hene hEk hKk hx
      by_cases h0 : k = 0
      · have hp : u45 = .int .i64 (o : Int) := by
          have hos : o = start := by rw [HOO.out, h0]; rfl
          rw [hos]; exact HP.out h0
        have hkd : decide ((k : Int) > 0) = false := by simp; omega
        have hk0 : ¬ (0 : Int) < (k : Int) := by omega
        obtain rfl := hp
        clear h0
        go_upto_region 97 with fail
        clear hv0 hfr
        generalize hW : World.setCell _ ⟨ng, k, none⟩ _ = W
        have hgW : wr.grownBy W (some ng) := grown_set_any hW
        have q1 : W.cell? ⟨kg, k, none⟩ = some (.int .i64 (x : Int)) := hgW.cell hck (by simp; omega)
        have q2 : W.cell? ⟨eg, x, none⟩ = some (.int .i64 (en : Int)) := hgW.cell hce (by simp; omega)
        have q3 : W.cell? ⟨og, x, none⟩ = some (.int .i64 (of : Int)) := hgW.cell hco (by simp; omega)
        have HHW : Hid (W.rowIs hg 3 m2 (V .i64 (fillF (fun i => (nE start K i : Int)) k))) := HE2.out.of_block (hgW.block hg HE2.out.lt (by simp; omega))
        have HNW : Hid (W.rowIs ng 3 m2 (V .i64 (fillF (fun i => (nO start K i : Int)) (k + 1)))) := by
          have := fill_step (X := fun i => (nO start K i : Int)) HO.out
          rw [← hW, HOO.out]; exact this
        have HBW : Hid (Below w.heap.size w W) := by rw [← hW]; exact HB.out.setCell (p := ⟨ng, k, none⟩) hng _
        obtain ⟨v1, hv1⟩ : ∃ v1, W.cell? ⟨hg, k, none⟩ = some v1 := ⟨_, HHW.out.cell hlt⟩
        have hf1 : W.frozen? ⟨hg, k, none⟩ = false := HHW.out.frozen _
        have hv1d : W.drew.cell? ⟨hg, k, none⟩ = some v1 := hv1
        have hf1d : W.drew.frozen? ⟨hg, k, none⟩ = false := hf1
        clear hW hgW hck hce hco hv1 hf1
        go_region_held3 (fun w' => w'.cell? ⟨kg, k, none⟩ = some (.int .i64 (x : Int)) ∧ w'.cell? ⟨eg, x, none⟩ = some (.int .i64 (en : Int)) ∧ w'.cell? ⟨og, x, none⟩ = some (.int .i64 (of : Int)))
          (first
            | (go_split_ands; simp only [World.cell?_drew]; refine ⟨?_, ?_, ?_⟩ <;> with_reducible assumption)
            | (go_split_ands
               simp only [World.cell?_drew]
               refine ⟨?_, ?_, ?_⟩
               · (rw [World.cell?_setCell_far _ _ _ _ (by show hg ≠ kg; omega)]; assumption)
               · (rw [World.cell?_setCell_far _ _ _ _ (by show hg ≠ eg; omega)]; assumption)
               · (rw [World.cell?_setCell_far _ _ _ _ (by show hg ≠ og; omega)]; assumption)))
          (fail)
        go_wp2_with fail
        generalize hW2 : World.setCell _ ⟨hg, k, none⟩ _ = W2
        have HFIN : W2.rowIs hg 3 m2 (V .i64 (fillF (fun i => (nE start K i : Int)) (k + 1))) ∧ W2.rowIs ng 3 m2 (V .i64 (fillF (fun i => (nO start K i : Int)) (k + 1))) ∧ Below w.heap.size w W2 := by
          have := fill_step (X := fun i => (nE start K i : Int)) HHW.out
          rw [← hW2, HNE.out]
          refine ⟨this, World.rowIs.of_block HNW.out (Below.heap_setCell _ _ _ _ (fun e => hnh e)), HBW.out.setCell (p := ⟨hg, k, none⟩) hhg _⟩
        clear hW2
        go_wp2_with fail
        go_roundw
        case rel => exact ⟨k + 1, by omega, by go_num, fun h => by omega, HFIN.2.1, HFIN.1, HFIN.2.2.drew⟩
        case measure => simp [intOf]; omega

      · obtain ⟨j, hj⟩ : ∃ j, k = j + 1 := ⟨k - 1, by omega⟩
        have hk0 : (0 : Int) < (k : Int) := by omega
        have hk1 : (k : Int) - 1 = (j : Int) := by omega
        have hjn : j < m2 := by omega
        have hiw := ix40 (g := hg) (c := m2) hjn
        obtain ⟨e, he⟩ : ∃ e, e = nE start K j := ⟨_, rfl⟩
        have hcee : wr.cell? ⟨hg, j, none⟩ = some (.int .i64 (e : Int)) := by
          rw [HE2.out.cell hjn, he]
          simp [V, fillF, hj]
        have HOE : Hid (o = al e) := by
          rw [HOO.out, hj, he]
          exact nO_succ (List.getElem?_eq_getElem (by rw [HKL.out]; exact hjn))
        have heb : e ≤ 2097152 := by have h1 := le_al e; have h2 : o = al e := HOE.out; omega
        clear hj he
        go_wp2_with fail
        refine (align4 e (by omega) _).mono ?_
        rintro e' w' ⟨rfl, rfl⟩
        rw [← HOE.out]
        clear hcee hiw
        go_upto_region 97 with fail
        clear hv0 hfr
        generalize hW : World.setCell _ ⟨ng, k, none⟩ _ = W
        have hgW : w'.grownBy W (some ng) := grown_set_any hW
        have q1 : W.cell? ⟨kg, k, none⟩ = some (.int .i64 (x : Int)) := hgW.cell hck (by simp; omega)
        have q2 : W.cell? ⟨eg, x, none⟩ = some (.int .i64 (en : Int)) := hgW.cell hce (by simp; omega)
        have q3 : W.cell? ⟨og, x, none⟩ = some (.int .i64 (of : Int)) := hgW.cell hco (by simp; omega)
        have HHW : Hid (W.rowIs hg 3 m2 (V .i64 (fillF (fun i => (nE start K i : Int)) k))) := HE2.out.of_block (hgW.block hg HE2.out.lt (by simp; omega))
        have HNW : Hid (W.rowIs ng 3 m2 (V .i64 (fillF (fun i => (nO start K i : Int)) (k + 1)))) := by
          have := fill_step (X := fun i => (nO start K i : Int)) HO.out
          rw [← hW, HOO.out]; exact this
        have HBW : Hid (Below w.heap.size w W) := by rw [← hW]; exact HB.out.setCell (p := ⟨ng, k, none⟩) hng _
        obtain ⟨v1, hv1⟩ : ∃ v1, W.cell? ⟨hg, k, none⟩ = some v1 := ⟨_, HHW.out.cell hlt⟩
        have hf1 : W.frozen? ⟨hg, k, none⟩ = false := HHW.out.frozen _
        have hv1d : W.drew.cell? ⟨hg, k, none⟩ = some v1 := hv1
        have hf1d : W.drew.frozen? ⟨hg, k, none⟩ = false := hf1
        clear hW hgW hck hce hco hv1 hf1
        go_region_held3 (fun w' => w'.cell? ⟨kg, k, none⟩ = some (.int .i64 (x : Int)) ∧ w'.cell? ⟨eg, x, none⟩ = some (.int .i64 (en : Int)) ∧ w'.cell? ⟨og, x, none⟩ = some (.int .i64 (of : Int)))
          (first
            | (go_split_ands; simp only [World.cell?_drew]; refine ⟨?_, ?_, ?_⟩ <;> with_reducible assumption)
            | (go_split_ands
               simp only [World.cell?_drew]
               refine ⟨?_, ?_, ?_⟩
               · (rw [World.cell?_setCell_far _ _ _ _ (by show hg ≠ kg; omega)]; assumption)
               · (rw [World.cell?_setCell_far _ _ _ _ (by show hg ≠ eg; omega)]; assumption)
               · (rw [World.cell?_setCell_far _ _ _ _ (by show hg ≠ og; omega)]; assumption)))
          (fail)
        go_wp2_with fail
        generalize hW2 : World.setCell _ ⟨hg, k, none⟩ _ = W2
        have HFIN : W2.rowIs hg 3 m2 (V .i64 (fillF (fun i => (nE start K i : Int)) (k + 1))) ∧ W2.rowIs ng 3 m2 (V .i64 (fillF (fun i => (nO start K i : Int)) (k + 1))) ∧ Below w.heap.size w W2 := by
          have := fill_step (X := fun i => (nE start K i : Int)) HHW.out
          rw [← hW2, HNE.out]
          refine ⟨this, World.rowIs.of_block HNW.out (Below.heap_setCell _ _ _ _ (fun e => hnh e)), HBW.out.setCell (p := ⟨hg, k, none⟩) hhg _⟩
        clear hW2
        go_wp2_with fail
        go_roundw
        case rel => exact ⟨k + 1, by omega, by go_num, fun h => by omega, HFIN.2.1, HFIN.1, HFIN.2.2.drew⟩
        case measure => simp [intOf]; omega

    · have hkd : decide ((k : Int) < (m2 : Int)) = false := by simp; omega
      obtain rfl : k = m2 := by omega
      have HFO : Hid (wr.rowIs ng 3 k (V .i64 fun i => (nO start K i : Int))) := fill_all HO.out
      have HFE : Hid (wr.rowIs hg 3 k (V .i64 fun i => (nE start K i : Int))) := fill_all HE2.out
      obtain ⟨fe, hfe⟩ : ∃ fe, fe = frOf start K := ⟨_, rfl⟩
      rw [← hfe] at HQ
      have hfle : fe ≤ en_ := by rw [hfe]; exact HFIT.out
      have hneg : ¬ ((en_ : Int) - (fe : Int) < 0) := by omega
      have hnegd : decide ((en_ : Int) - (fe : Int) < 0) = false := by simp; omega
      by_cases h0 : k = 0
      · have hkd0 : decide ((k : Int) > 0) = false := by simp; omega
        have hk0 : ¬ (0 : Int) < (k : Int) := by omega
        have hfs : fe = start := by
          have : K.length = 0 := by rw [HKL.out]; exact h0
          rw [hfe, List.eq_nil_of_length_eq_zero this]; rfl
        obtain rfl := hfs
        clear hfe h0
        go_upto_region 104 with fail
        rename_i K hK
        have HK : Hid (∀ (a : Act) (w : World), Code.wp Tryf.prog (tk 44 (Tryf.f6.body.getD .skip)) Q a w → K a w) := hK
        clear hK
        go_wp2_with fail
        refine HK.out _ _ ?_
        refine HQ.out _ _ rfl rfl rfl rfl rfl rfl rfl rfl rfl rfl rfl rfl rfl rfl rfl rfl rfl rfl rfl rfl rfl rfl ⟨ng, hg, rfl, rfl, HFO.out, HFE.out⟩ rfl rfl HB.out
      · obtain ⟨j, hj⟩ : ∃ j, k = j + 1 := ⟨k - 1, by omega⟩
        have hk0 : (0 : Int) < (k : Int) := by omega
        have hk1 : (k : Int) - 1 = (j : Int) := by omega
        have hjn : j < k := by omega
        have hiw := ix40 (g := hg) (c := k) hjn
        obtain ⟨e, he⟩ : ∃ e, e = nE start K j := ⟨_, rfl⟩
        have hcee : wr.cell? ⟨hg, j, none⟩ = some (.int .i64 (e : Int)) := by rw [HFE.out.cell hjn, he]; rfl
        have HOE : Hid (fe = al e) := by
          have h1 := nO_succ (start := start) (List.getElem?_eq_getElem (l := K) (i := j) (by rw [HKL.out]; exact hjn))
          have h2 := nO_all start K
          rw [HKL.out, hj] at h2
          show fe = al e
          rw [hfe, he, ← h1, ← h2]
        have heb : e ≤ 2097152 := by have h1 := le_al e; have h2 : fe = al e := HOE.out; omega
        clear hj he hfe
        go_wp2_with fail
        refine (align4 e (by omega) _).mono ?_
        rintro e' w' ⟨rfl, rfl⟩
        rw [← HOE.out]
        clear hcee hiw
        go_upto_region 104 with fail
        rename_i K hK
        have HK : Hid (∀ (a : Act) (w : World), Code.wp Tryf.prog (tk 44 (Tryf.f6.body.getD .skip)) Q a w → K a w) := hK
        clear hK
        go_wp2_with fail
        refine HK.out _ _ ?_
        refine HQ.out _ _ rfl rfl rfl rfl rfl rfl rfl rfl rfl rfl rfl rfl rfl rfl rfl rfl rfl rfl rfl rfl rfl rfl ⟨ng, hg, rfl, rfl, HFO.out, HFE.out⟩ rfl rfl HB.out
end Go.Proofs.Qxb6003952aFmt
