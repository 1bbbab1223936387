/- The law's own function: the offsets and the ends. -/
import Derived.Test.Qxb6003952aFmtWalkO
namespace Go.Proofs.Qxb6003952aFmt
open Go.RowKit Go.Extern.Stop Go.Stop Go.Extern
set_option linter.unusedVariables false

set_option maxRecDepth 1000000 in
set_option maxHeartbeats 6400000 in
theorem segC (B : Nat) (ao0 ao1 ao2 ao3 ao4 ao5 : Option Addr) (og eg n start post slack : Nat) (vid size : Int) (L : Nat → Nat) (Q : Exit → Act → World → Prop) (a : Act) (w : World) (hsz : a.tmps.size = 848) (hd : a.defers = [])
    (h0 : a.tmps.getD 0 undef = .slice ao0 start start) (h1 : a.tmps.getD 1 undef = .slice ao1 post post) (h2 : a.tmps.getD 2 undef = .slice ao2 n n) (h3 : a.tmps.getD 3 undef = .slice ao3 n n) (h4 : a.tmps.getD 4 undef = .slice ao4 n n) (h5 : a.tmps.getD 5 undef = .slice ao5 n n) (h6 : a.tmps.getD 6 undef = .int .u16 (slack : Int)) (h7 : a.tmps.getD 7 undef = .int .u8 vid) (h8 : a.tmps.getD 8 undef = .int .i64 size) (h19 : a.tmps.getD 19 undef = .int .i64 (n : Int)) (h20 : a.tmps.getD 20 undef = .int .i64 (start : Int)) (h21 : a.tmps.getD 21 undef = .slice (some ⟨og, 0, none⟩) n n) (h22 : a.tmps.getD 22 undef = .slice (some ⟨eg, 0, none⟩) n n) (h23 : a.tmps.getD 23 undef = .int .i64 (start : Int))
    (hro : w.rowIs og 3 n fun _ => .int .i64 0) (hre : w.rowIs eg 3 n fun _ => .int .i64 0) (h4d : DatB B .u8 w ao4 n fun i => (L i : Int)) (hL : ∀ i, L i < 256) (hBo : B ≤ og) (hBe : B ≤ eg) (hoe : og ≠ eg) (hn : n ≤ 4096) (hst : start ≤ 65536)
    (hQ : ∀ a' w', a'.tmps.size = 848 → a'.defers = [] → a'.tmps.getD 0 undef = .slice ao0 start start → a'.tmps.getD 1 undef = .slice ao1 post post → a'.tmps.getD 2 undef = .slice ao2 n n → a'.tmps.getD 3 undef = .slice ao3 n n → a'.tmps.getD 4 undef = .slice ao4 n n → a'.tmps.getD 5 undef = .slice ao5 n n → a'.tmps.getD 6 undef = .int .u16 (slack : Int) → a'.tmps.getD 7 undef = .int .u8 vid → a'.tmps.getD 8 undef = .int .i64 size → a'.tmps.getD 19 undef = .int .i64 (n : Int) → a'.tmps.getD 20 undef = .int .i64 (start : Int) → a'.tmps.getD 21 undef = .slice (some ⟨og, 0, none⟩) n n → a'.tmps.getD 22 undef = .slice (some ⟨eg, 0, none⟩) n n → w'.rowIs og 3 n (V .i64 fun i => (offAt start L i : Int)) → w'.rowIs eg 3 n (V .i64 fun i => (enAt start L i : Int)) → Below B w w' → Code.wp Tryf.prog (tk 18 (Tryf.f6.body.getD .skip)) Q a' w') :
    Code.wp Tryf.prog (tk 17 (Tryf.f6.body.getD .skip)) Q a w := by
  obtain ⟨f, hf, rfl⟩ := lit848 a hsz hd
  have e0 : f 0 = .slice ao0 start start := (hf 0).symm.trans h0
  have e1 : f 1 = .slice ao1 post post := (hf 1).symm.trans h1
  have e2 : f 2 = .slice ao2 n n := (hf 2).symm.trans h2
  have e3 : f 3 = .slice ao3 n n := (hf 3).symm.trans h3
  have e4 : f 4 = .slice ao4 n n := (hf 4).symm.trans h4
  have e5 : f 5 = .slice ao5 n n := (hf 5).symm.trans h5
  have e6 : f 6 = .int .u16 (slack : Int) := (hf 6).symm.trans h6
  have e7 : f 7 = .int .u8 vid := (hf 7).symm.trans h7
  have e8 : f 8 = .int .i64 size := (hf 8).symm.trans h8
  have e19 : f 19 = .int .i64 (n : Int) := (hf 19).symm.trans h19
  have e20 : f 20 = .int .i64 (start : Int) := (hf 20).symm.trans h20
  have e21 : f 21 = .slice (some ⟨og, 0, none⟩) n n := (hf 21).symm.trans h21
  have e22 : f 22 = .slice (some ⟨eg, 0, none⟩) n n := (hf 22).symm.trans h22
  have e23 : f 23 = .int .i64 (start : Int) := (hf 23).symm.trans h23
  have HQ : Hid (∀ a' w', a'.tmps.size = 848 → a'.defers = [] → a'.tmps.getD 0 undef = .slice ao0 start start → a'.tmps.getD 1 undef = .slice ao1 post post → a'.tmps.getD 2 undef = .slice ao2 n n → a'.tmps.getD 3 undef = .slice ao3 n n → a'.tmps.getD 4 undef = .slice ao4 n n → a'.tmps.getD 5 undef = .slice ao5 n n → a'.tmps.getD 6 undef = .int .u16 (slack : Int) → a'.tmps.getD 7 undef = .int .u8 vid → a'.tmps.getD 8 undef = .int .i64 size → a'.tmps.getD 19 undef = .int .i64 (n : Int) → a'.tmps.getD 20 undef = .int .i64 (start : Int) → a'.tmps.getD 21 undef = .slice (some ⟨og, 0, none⟩) n n → a'.tmps.getD 22 undef = .slice (some ⟨eg, 0, none⟩) n n → w'.rowIs og 3 n (V .i64 fun i => (offAt start L i : Int)) → w'.rowIs eg 3 n (V .i64 fun i => (enAt start L i : Int)) → Below B w w' → Code.wp Tryf.prog (tk 18 (Tryf.f6.body.getD .skip)) Q a' w') := hQ
  rw [e0, e1, e2, e3, e4, e5, e6, e7, e8, e19, e20, e21, e22, e23]
  clear h0 e0 h1 e1 h2 e2 h3 e3 h4 e4 h5 e5 h6 e6 h7 e7 h8 e8 h19 e19 h20 e20 h21 e21 h22 e22 h23 e23 hf hsz hd hQ
  conv => arg 2; whnf
  have HRO : Hid (w.rowIs og 3 n (V .i64 (fillF (fun i => (offAt start L i : Int)) 0))) := fill_none hro
  have HRE : Hid (w.rowIs eg 3 n (V .i64 (fillF (fun i => (enAt start L i : Int)) 0))) := fill_none hre
  have HD : Hid (DatB B .u8 w ao4 n fun i => (L i : Int)) := h4d
  have HL : Hid (∀ i, L i < 256) := hL
  clear hro hre h4d hL
  go_wp2_with fail
  rename_i K hK
  have HK : Hid (∀ (a : Act) (w : World), Code.wp Tryf.prog (tk 18 (Tryf.f6.body.getD .skip)) Q a w → K a w) := hK
  clear hK
  go_loopw [23, 24] (fun pv iv wr => ∃ k : Nat, k ≤ n ∧ iv = .int .i64 (k : Int) ∧ (k = 0 → pv = .int .i64 (start : Int)) ∧ wr.rowIs og 3 n (V .i64 (fillF (fun i => (offAt start L i : Int)) k)) ∧ wr.rowIs eg 3 n (V .i64 (fillF (fun i => (enAt start L i : Int)) k)) ∧ Below B w wr) (fun _ iv _ => n - (intOf iv).toNat)
  case atStart => exact ⟨0, Nat.zero_le _, rfl, fun _ => rfl, HRO.out, HRE.out, Below.refl _ _⟩
  case round =>
    obtain ⟨k, hk, rfl, hp, hro, hre, hb⟩ := hrel
    have HO : Hid (wr.rowIs og 3 n (V .i64 (fillF (fun i => (offAt start L i : Int)) k))) := hro
    have HE : Hid (wr.rowIs eg 3 n (V .i64 (fillF (fun i => (enAt start L i : Int)) k))) := hre
    have HB : Hid (Below B w wr) := hb
    have HP : Hid (k = 0 → u23 = .int .i64 (start : Int)) := hp
    clear hro hre hb hp
    by_cases hlt : k < n
    · have hki : (k : Int) < (n : Int) := by omega
      have hix := ix40 (g := og) (c := n) hlt
      have hiy := ix40 (g := eg) (c := n) hlt
      obtain ⟨b4, o4, hb4, ha4, hc4⟩ := (HD.out.keep fun j hj => HB.out.block j hj).at hlt
      have hiz := index22 (c := n) hlt ha4
      obtain ⟨l, hl⟩ : ∃ l, l = L k := ⟨_, rfl⟩
      have HLK : Hid (l = L k) := hl
      have hl256 : l < 256 := by rw [hl]; exact HL.out k
      rw [← hl] at hc4
      obtain ⟨o, ho⟩ : ∃ o, o = offAt start L k := ⟨_, rfl⟩
      have HOO : Hid (o = offAt start L k) := ho
      have hob : o ≤ 1212416 := by rw [ho]; have := off_bd start L HL.out k; omega
      have hgo : b4 ≠ og := by omega
      have hge : b4 ≠ eg := by omega
      obtain ⟨v0, hv0⟩ : ∃ v0, wr.cell? ⟨og, k, none⟩ = some v0 := ⟨_, HO.out.cell hlt⟩
      have hfr : wr.frozen? ⟨og, k, none⟩ = false := HO.out.frozen _
      have HFIN : Hid (∃ k' : Nat, k' ≤ n ∧ Value.int .i64 ((k : Int) + 1) = .int .i64 (k' : Int) ∧ (k' = 0 → Value.int .i64 (o : Int) = .int .i64 (start : Int)) ∧ (((wr.setCell ⟨og, k, none⟩ (.int .i64 (o : Int))).setCell ⟨eg, k, none⟩ (.int .i64 ((o : Int) + 12 + (l : Int)))).rowIs og 3 n (V .i64 (fillF (fun i => (offAt start L i : Int)) k'))) ∧ (((wr.setCell ⟨og, k, none⟩ (.int .i64 (o : Int))).setCell ⟨eg, k, none⟩ (.int .i64 ((o : Int) + 12 + (l : Int)))).rowIs eg 3 n (V .i64 (fillF (fun i => (enAt start L i : Int)) k'))) ∧ Below B w ((wr.setCell ⟨og, k, none⟩ (.int .i64 (o : Int))).setCell ⟨eg, k, none⟩ (.int .i64 ((o : Int) + 12 + (l : Int))))) := by
        have e1 : (o : Int) + 12 + (l : Int) = ((enAt start L k : Nat) : Int) := by rw [en_eq, ho, hl]; omega
        refine ⟨k + 1, by omega, by simp, fun h => by omega, ?_, ?_, (HB.out.setCell (p := ⟨og, k, none⟩) hBo _).setCell (p := ⟨eg, k, none⟩) hBe _⟩
        · rw [ho]
          refine World.rowIs.of_block (fill_step (X := fun i => (offAt start L i : Int)) HO.out) ?_
          exact Below.heap_setCell _ _ _ _ (fun e => hoe e)
        · rw [e1]
          refine fill_step (X := fun i => (enAt start L i : Int)) (HE.out.of_block ?_)
          exact Below.heap_setCell _ _ _ _ (fun e => hoe e.symm)
      obtain ⟨v1, hv1⟩ : ∃ v1, (wr.setCell ⟨og, k, none⟩ (.int .i64 (o : Int))).cell? ⟨eg, k, none⟩ = some v1 := ⟨_, by rw [World.cell?_setCell_far _ _ _ _ hoe]; exact HE.out.cell hlt⟩
      have hfr1 : (wr.setCell ⟨og, k, none⟩ (.int .i64 (o : Int))).frozen? ⟨eg, k, none⟩ = false := (World.rowIs.of_block HE.out (Below.heap_setCell _ _ _ _ (fun e => hoe e.symm))).frozen _
      have hc5 : (wr.setCell ⟨og, k, none⟩ (.int .i64 (o : Int))).cell? ⟨b4, o4 + k, none⟩ = some (.int .u8 (l : Int)) := by rw [World.cell?_setCell_far _ _ _ _ (fun e => hgo e.symm)]; exact hc4
      clear ha4 hl ho hc4
      by_cases h0 : k = 0
      · have hp : u23 = .int .i64 (o : Int) := by
          have hos : o = start := by rw [HOO.out, h0]; rfl
          rw [hos]; exact HP.out h0
        have hk0 : ¬ (0 : Int) < (k : Int) := by omega
        have hkd : decide ((k : Int) > 0) = false := by simp; omega
        obtain rfl := hp
        clear h0
        go_wp2_with fail
        go_roundw
        case rel => exact HFIN.out
        case measure => simp [intOf]; omega
      · obtain ⟨j, hj⟩ : ∃ j, k = j + 1 := ⟨k - 1, by omega⟩
        have hk0 : (0 : Int) < (k : Int) := by omega
        have hk1 : (k : Int) - 1 = (j : Int) := by omega
        have hjn : j < n := by omega
        have hiw := ix40 (g := eg) (c := n) hjn
        obtain ⟨e, he⟩ : ∃ e, e = enAt start L j := ⟨_, rfl⟩
        have hce : wr.cell? ⟨eg, j, none⟩ = some (.int .i64 (e : Int)) := by
          rw [HE.out.cell hjn, he]
          simp [V, fillF, hj]
        have HOE : Hid (o = al e) := by rw [HOO.out, hj, he]; rfl
        have heb : e ≤ 1212416 := by have h1 := le_al e; have h2 : o = al e := HOE.out; omega
        clear hj he
        go_wp2_with fail
        refine (align4 e (by omega) _).mono ?_
        rintro e' w' ⟨rfl, rfl⟩
        rw [← HOE.out]
        go_wp2_with fail
        go_roundw
        case rel => exact HFIN.out
        case measure => simp [intOf]; omega
    · have hkd : decide ((k : Int) < (n : Int)) = false := by simp; omega
      obtain rfl : k = n := by omega
      go_wp2_with fail
      refine HK.out _ _ ?_
      refine HQ.out _ _ rfl rfl rfl rfl rfl rfl rfl rfl rfl rfl rfl rfl rfl rfl rfl (fill_all HO.out) (fill_all HE.out) HB.out
end Go.Proofs.Qxb6003952aFmt
