/- The law's own function: reclaim has accepted: what lies outside the area. -/
import Derived.Test.Qxb6003952aFmtPlainA
import Derived.Test.Qxb6003952aFmtWalkT
namespace Go.Proofs.Qxb6003952aFmt
open Go.RowKit Go.Extern.Stop Go.Stop Go.Extern
set_option linter.unusedVariables false

theorem below_drewN {B : Nat} {w w' : World} (h : Below B w w') (q : Nat) : Below B w (w'.drewN q) := ⟨h.os, h.tape, h.output, h.size, h.block⟩
set_option maxRecDepth 1000000 in
set_option maxHeartbeats 6400000 in
theorem segL (T ob kg m2 kcap ng hg fe s nb : Nat) (ao2 ao3 ao4 ao5 ao : Option Addr) (og eg n start en_ cap : Nat) (OB NB : Nat → Int) (Q : Exit → Act → World → Prop) (a : Act) (w : World) (hsz : a.tmps.size = 848) (hd : a.defers = [])
    (h2 : a.tmps.getD 2 undef = .slice ao2 n n) (h3 : a.tmps.getD 3 undef = .slice ao3 n n) (h4 : a.tmps.getD 4 undef = .slice ao4 n n) (h5 : a.tmps.getD 5 undef = .slice ao5 n n) (h19 : a.tmps.getD 19 undef = .int .i64 (n : Int)) (h20 : a.tmps.getD 20 undef = .int .i64 (start : Int)) (h21 : a.tmps.getD 21 undef = .slice (some ⟨og, 0, none⟩) n n) (h22 : a.tmps.getD 22 undef = .slice (some ⟨eg, 0, none⟩) n n) (h26 : a.tmps.getD 26 undef = .int .i64 (en_ : Int)) (h27 : a.tmps.getD 27 undef = .int .i64 (T : Int)) (h39 : a.tmps.getD 39 undef = .slice (some ⟨ob, 0, none⟩) T T) (h41 : a.tmps.getD 41 undef = .slice (some ⟨kg, 0, none⟩) m2 kcap) (h43 : a.tmps.getD 43 undef = .slice (some ⟨ng, 0, none⟩) m2 m2) (h44 : a.tmps.getD 44 undef = .slice (some ⟨hg, 0, none⟩) m2 m2) (h47 : a.tmps.getD 47 undef = .int .i64 (fe : Int)) (h50 : a.tmps.getD 50 undef = .pointer (some ⟨s, 0, none⟩)) (h52 : a.tmps.getD 52 undef = .slice (some ⟨nb, 0, none⟩) T T) (h51 : a.tmps.getD 51 undef = .nilIface)
    (hold : w.rowIs ob 5 T (V .u8 OB)) (hnb : w.rowIs nb 5 T (V .u8 NB)) (hlow : ∀ i, i < start → NB i = OB i) (hhigh : ∀ i, en_ ≤ i → i < T → NB i = OB i) (hse : start ≤ en_) (heT : en_ ≤ T) (hT : T ≤ 2097152) (hm2 : m2 ≤ 4096) (hst : w.heap[s]? = some (.cells #[.slice (some ⟨nb, 0, none⟩) T T, .slice ao m2 cap, .int .i64 (start : Int), .int .i64 (fe : Int), .int .i64 (en_ : Int)] 72 (0, 0)))
    (hQ : ∀ a' w', a'.tmps.size = 848 → a'.defers = [] → a'.tmps.getD 2 undef = .slice ao2 n n → a'.tmps.getD 3 undef = .slice ao3 n n → a'.tmps.getD 4 undef = .slice ao4 n n → a'.tmps.getD 5 undef = .slice ao5 n n → a'.tmps.getD 19 undef = .int .i64 (n : Int) → a'.tmps.getD 20 undef = .int .i64 (start : Int) → a'.tmps.getD 21 undef = .slice (some ⟨og, 0, none⟩) n n → a'.tmps.getD 22 undef = .slice (some ⟨eg, 0, none⟩) n n → a'.tmps.getD 26 undef = .int .i64 (en_ : Int) → a'.tmps.getD 27 undef = .int .i64 (T : Int) → a'.tmps.getD 39 undef = .slice (some ⟨ob, 0, none⟩) T T → a'.tmps.getD 41 undef = .slice (some ⟨kg, 0, none⟩) m2 kcap → a'.tmps.getD 43 undef = .slice (some ⟨ng, 0, none⟩) m2 m2 → a'.tmps.getD 44 undef = .slice (some ⟨hg, 0, none⟩) m2 m2 → a'.tmps.getD 47 undef = .int .i64 (fe : Int) → a'.tmps.getD 50 undef = .pointer (some ⟨s, 0, none⟩) → a'.tmps.getD 52 undef = .slice (some ⟨nb, 0, none⟩) T T → (∃ cg, a'.tmps.getD 58 undef = .slice (some ⟨cg, 0, none⟩) T T ∧ w.heap.size ≤ cg ∧ (w'.rowIs cg 4 T fun _ => .bool false)) → Below w.heap.size w w' → Code.wp Tryf.prog (tk 55 (Tryf.f6.body.getD .skip)) Q a' w') :
    Code.wp Tryf.prog (tk 49 (Tryf.f6.body.getD .skip)) Q a w := by
  obtain ⟨f, hf, rfl⟩ := lit848 a hsz hd
  have e2 : f 2 = .slice ao2 n n := (hf 2).symm.trans h2
  have e3 : f 3 = .slice ao3 n n := (hf 3).symm.trans h3
  have e4 : f 4 = .slice ao4 n n := (hf 4).symm.trans h4
  have e5 : f 5 = .slice ao5 n n := (hf 5).symm.trans h5
  have e19 : f 19 = .int .i64 (n : Int) := (hf 19).symm.trans h19
  have e20 : f 20 = .int .i64 (start : Int) := (hf 20).symm.trans h20
  have e21 : f 21 = .slice (some ⟨og, 0, none⟩) n n := (hf 21).symm.trans h21
  have e22 : f 22 = .slice (some ⟨eg, 0, none⟩) n n := (hf 22).symm.trans h22
  have e26 : f 26 = .int .i64 (en_ : Int) := (hf 26).symm.trans h26
  have e27 : f 27 = .int .i64 (T : Int) := (hf 27).symm.trans h27
  have e39 : f 39 = .slice (some ⟨ob, 0, none⟩) T T := (hf 39).symm.trans h39
  have e41 : f 41 = .slice (some ⟨kg, 0, none⟩) m2 kcap := (hf 41).symm.trans h41
  have e43 : f 43 = .slice (some ⟨ng, 0, none⟩) m2 m2 := (hf 43).symm.trans h43
  have e44 : f 44 = .slice (some ⟨hg, 0, none⟩) m2 m2 := (hf 44).symm.trans h44
  have e47 : f 47 = .int .i64 (fe : Int) := (hf 47).symm.trans h47
  have e50 : f 50 = .pointer (some ⟨s, 0, none⟩) := (hf 50).symm.trans h50
  have e52 : f 52 = .slice (some ⟨nb, 0, none⟩) T T := (hf 52).symm.trans h52
  have e51 : f 51 = .nilIface := (hf 51).symm.trans h51
  have HQ : Hid (∀ a' w', a'.tmps.size = 848 → a'.defers = [] → a'.tmps.getD 2 undef = .slice ao2 n n → a'.tmps.getD 3 undef = .slice ao3 n n → a'.tmps.getD 4 undef = .slice ao4 n n → a'.tmps.getD 5 undef = .slice ao5 n n → a'.tmps.getD 19 undef = .int .i64 (n : Int) → a'.tmps.getD 20 undef = .int .i64 (start : Int) → a'.tmps.getD 21 undef = .slice (some ⟨og, 0, none⟩) n n → a'.tmps.getD 22 undef = .slice (some ⟨eg, 0, none⟩) n n → a'.tmps.getD 26 undef = .int .i64 (en_ : Int) → a'.tmps.getD 27 undef = .int .i64 (T : Int) → a'.tmps.getD 39 undef = .slice (some ⟨ob, 0, none⟩) T T → a'.tmps.getD 41 undef = .slice (some ⟨kg, 0, none⟩) m2 kcap → a'.tmps.getD 43 undef = .slice (some ⟨ng, 0, none⟩) m2 m2 → a'.tmps.getD 44 undef = .slice (some ⟨hg, 0, none⟩) m2 m2 → a'.tmps.getD 47 undef = .int .i64 (fe : Int) → a'.tmps.getD 50 undef = .pointer (some ⟨s, 0, none⟩) → a'.tmps.getD 52 undef = .slice (some ⟨nb, 0, none⟩) T T → (∃ cg, a'.tmps.getD 58 undef = .slice (some ⟨cg, 0, none⟩) T T ∧ w.heap.size ≤ cg ∧ (w'.rowIs cg 4 T fun _ => .bool false)) → Below w.heap.size w w' → Code.wp Tryf.prog (tk 55 (Tryf.f6.body.getD .skip)) Q a' w') := hQ
  rw [e2, e3, e4, e5, e19, e20, e21, e22, e26, e27, e39, e41, e43, e44, e47, e50, e52, e51]
  clear h2 e2 h3 e3 h4 e4 h5 e5 h19 e19 h20 e20 h21 e21 h22 e22 h26 e26 h27 e27 h39 e39 h41 e41 h43 e43 h44 e44 h47 e47 h50 e50 h52 e52 h51 e51 hf hsz hd hQ
  conv => arg 2; whnf
  have HOLD : Hid (w.rowIs ob 5 T (V .u8 OB)) := hold
  have HNB : Hid (w.rowIs nb 5 T (V .u8 NB)) := hnb
  have HLOW : Hid (∀ i, i < start → NB i = OB i) := hlow
  have HHIGH : Hid (∀ i, en_ ≤ i → i < T → NB i = OB i) := hhigh
  have HST : Hid (w.heap[s]? = some (.cells #[.slice (some ⟨nb, 0, none⟩) T T, .slice ao m2 cap, .int .i64 (start : Int), .int .i64 (fe : Int), .int .i64 (en_ : Int)] 72 (0, 0))) := hst
  have HPREV : Hid (Below w.heap.size w w) := Below.refl _ _
  have hslt : s < w.heap.size := (Array.getElem?_eq_some_iff.1 hst).1
  clear hold hnb hlow hhigh hst
  go_wp2_with fail
  go_loopw [56] (fun iv wr => ∃ k : Nat, 0 ≤ k ∧ k ≤ start ∧ iv = .int .i64 (k : Int) ∧ Below w.heap.size w wr) (fun iv _ => start - (intOf iv).toNat)
  case atStart => exact ⟨0, Nat.le_refl _, by omega, rfl, HPREV.out⟩
  case round =>
    obtain ⟨k, hk0, hk, rfl, hb⟩ := hrel
    have HB : Hid (Below w.heap.size w wr) := hb
    clear hb
    by_cases hlt : k < start
    · have hki : (k : Int) < (start : Int) := by omega
      have hix1 := ix22 (g := nb) (c := T) (show k < T by omega)
      have hix2 := ix22 (g := ob) (c := T) (show k < T by omega)
      have hc1 : wr.cell? ⟨nb, k, none⟩ = some (.int .u8 (OB k)) := by
        rw [(HNB.out.of_block (HB.out.block nb HNB.out.lt)).cell (by omega)]
        show some (Value.int .u8 (NB k)) = _
        rw [HLOW.out k hlt]
      have hc2 : wr.cell? ⟨ob, k, none⟩ = some (.int .u8 (OB k)) := (HOLD.out.of_block (HB.out.block ob HOLD.out.lt)).cell (by omega)
      go_wp2_with fail
      go_quiet (fail)
      go_wp2_with fail
      go_roundw
      case rel => exact ⟨k + 1, by omega, by omega, by go_num, below_drewN HB.out _⟩
      case measure => simp [intOf]; omega
    · have hkd : decide ((k : Int) < (start : Int)) = false := by simp; omega
      obtain rfl : start = k := by omega
      go_wp2_with fail
      have HPREV : Hid (Below w.heap.size w wr) := HB.out
      clear HB
      go_loopw [57] (fun iv wr => ∃ k : Nat, en_ ≤ k ∧ k ≤ T ∧ iv = .int .i64 (k : Int) ∧ Below w.heap.size w wr) (fun iv _ => T - (intOf iv).toNat)
      case atStart => exact ⟨en_, Nat.le_refl _, by omega, rfl, HPREV.out⟩
      case round =>
        obtain ⟨k, hk0, hk, rfl, hb⟩ := hrel
        have HB : Hid (Below w.heap.size w wr) := hb
        clear hb
        by_cases hlt : k < T
        · have hki : (k : Int) < (T : Int) := by omega
          have hix1 := ix22 (g := nb) (c := T) (show k < T by omega)
          have hix2 := ix22 (g := ob) (c := T) (show k < T by omega)
          have hc1 : wr.cell? ⟨nb, k, none⟩ = some (.int .u8 (OB k)) := by
            rw [(HNB.out.of_block (HB.out.block nb HNB.out.lt)).cell (by omega)]
            show some (Value.int .u8 (NB k)) = _
            rw [HHIGH.out k hk0 hlt]
          have hc2 : wr.cell? ⟨ob, k, none⟩ = some (.int .u8 (OB k)) := (HOLD.out.of_block (HB.out.block ob HOLD.out.lt)).cell (by omega)
          go_wp2_with fail
          go_quiet (fail)
          go_wp2_with fail
          go_roundw
          case rel => exact ⟨k + 1, by omega, by omega, by go_num, below_drewN HB.out _⟩
          case measure => simp [intOf]; omega
        · have hkd : decide ((k : Int) < (T : Int)) = false := by simp; omega
          obtain rfl : T = k := by omega
          go_wp2_with fail
          have hs1 : wr.heap[s]? = _ := (HB.out.block s hslt).trans HST.out
          refine (zzFree s _ _ (cell_of_row wr s 3 _ _ _ hs1)).mono ?_
          rintro e w5 ⟨rfl, rfl⟩
          go_wp2_with fail
          refine (zzCount s _ _ _ _ (cell_of_row w5 s 1 _ _ _ hs1)).mono ?_
          rintro e w6 ⟨rfl, rfl⟩
          have hmk := run_make_row' (P := Tryf.prog) 60 4 (.bool false) 1 Tryf.underlying60 info4 rfl .i64 .i64 T (by omega) (by omega)
          clear hs1
          go_upto_region 143 with fail
          rename_i K hK
          have HK : Hid (∀ (a : Act) (w : World), Code.wp Tryf.prog (tk 55 (Tryf.f6.body.getD .skip)) Q a w → K a w) := hK
          clear hK
          go_wp2_with fail
          refine HK.out _ _ ?_
          refine HQ.out _ _ rfl rfl rfl rfl rfl rfl rfl rfl rfl rfl rfl rfl rfl rfl rfl rfl rfl rfl rfl ⟨w6.heap.size, rfl, HB.out.size, World.rowIs_made w6 (.bool false) T 4⟩ (HB.out.alloc HB.out.size _)
end Go.Proofs.Qxb6003952aFmt
