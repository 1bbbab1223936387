/- The law's own function: the kept records: their bytes. -/
import Derived.Test.Qxb6003952aFmtWalkU
namespace Go.Proofs.Qxb6003952aFmt
open Go.RowKit Go.Extern.Stop Go.Stop Go.Extern
set_option linter.unusedVariables false

theorem grown_drew_set (w : World) (q b j : Nat) (v : Value) : w.grownBy ((w.drewN q).setCell ⟨b, j, none⟩ v) (some b) :=
  have h := grown_set (w.drewN q) b j v
  ⟨h.os, h.tape, h.output, h.size, h.block⟩
set_option maxRecDepth 1000000 in
set_option maxHeartbeats 6400000 in
theorem pM5 (T ob kg m2 kcap ng hg s nb cg k : Nat) (ao2 ao3 ao4 ao5 : Option Addr) (og eg n start en_ : Nat) (x o e of en : Nat) (OB NB : Nat → Int) (K : List Rec) (C : Nat → Bool) (Q : Exit → Act → World → Prop) (a : Act) (w : World) (hsz : a.tmps.size = 848) (hd : a.defers = [])
    (h2 : a.tmps.getD 2 undef = .slice ao2 n n) (h3 : a.tmps.getD 3 undef = .slice ao3 n n) (h4 : a.tmps.getD 4 undef = .slice ao4 n n) (h5 : a.tmps.getD 5 undef = .slice ao5 n n) (h20 : a.tmps.getD 20 undef = .int .i64 (start : Int)) (h21 : a.tmps.getD 21 undef = .slice (some ⟨og, 0, none⟩) n n) (h22 : a.tmps.getD 22 undef = .slice (some ⟨eg, 0, none⟩) n n) (h26 : a.tmps.getD 26 undef = .int .i64 (en_ : Int)) (h27 : a.tmps.getD 27 undef = .int .i64 (T : Int)) (h39 : a.tmps.getD 39 undef = .slice (some ⟨ob, 0, none⟩) T T) (h41 : a.tmps.getD 41 undef = .slice (some ⟨kg, 0, none⟩) m2 kcap) (h43 : a.tmps.getD 43 undef = .slice (some ⟨ng, 0, none⟩) m2 m2) (h44 : a.tmps.getD 44 undef = .slice (some ⟨hg, 0, none⟩) m2 m2) (h50 : a.tmps.getD 50 undef = .pointer (some ⟨s, 0, none⟩)) (h52 : a.tmps.getD 52 undef = .slice (some ⟨nb, 0, none⟩) T T) (h58 : a.tmps.getD 58 undef = .slice (some ⟨cg, 0, none⟩) T T) (h59 : a.tmps.getD 59 undef = .int .i64 (k : Int)) (h60 : a.tmps.getD 60 undef = .int .i64 (x : Int))
    (hk : k < m2) (hx : x < n) (q2 : w.cell? ⟨ng, k, none⟩ = some (.int .i64 (o : Int))) (q3 : w.cell? ⟨hg, k, none⟩ = some (.int .i64 (e : Int))) (q4 : w.cell? ⟨og, x, none⟩ = some (.int .i64 (of : Int))) (hne : ng ≠ cg ∧ hg ≠ cg ∧ og ≠ cg ∧ ob ≠ cg ∧ nb ≠ cg) (hold : w.rowIs ob 5 T (V .u8 OB)) (hnb : w.rowIs nb 5 T (V .u8 NB)) (hcov : w.rowIs cg 4 T fun i => .bool (C i)) (hmk : Mark start K k C) (heo : e = o + (en - of)) (hoe : of ≤ en) (heT : e ≤ T) (henT : en ≤ T) (hT : T ≤ 2097152) (hnv : ∀ j, j < en - of → NB (o + j) = OB (of + j))
    (hQ : ∀ a' w', a'.tmps.size = 848 → a'.defers = [] → a'.tmps.getD 2 undef = .slice ao2 n n → a'.tmps.getD 3 undef = .slice ao3 n n → a'.tmps.getD 4 undef = .slice ao4 n n → a'.tmps.getD 5 undef = .slice ao5 n n → a'.tmps.getD 20 undef = .int .i64 (start : Int) → a'.tmps.getD 21 undef = .slice (some ⟨og, 0, none⟩) n n → a'.tmps.getD 22 undef = .slice (some ⟨eg, 0, none⟩) n n → a'.tmps.getD 26 undef = .int .i64 (en_ : Int) → a'.tmps.getD 27 undef = .int .i64 (T : Int) → a'.tmps.getD 39 undef = .slice (some ⟨ob, 0, none⟩) T T → a'.tmps.getD 41 undef = .slice (some ⟨kg, 0, none⟩) m2 kcap → a'.tmps.getD 43 undef = .slice (some ⟨ng, 0, none⟩) m2 m2 → a'.tmps.getD 44 undef = .slice (some ⟨hg, 0, none⟩) m2 m2 → a'.tmps.getD 50 undef = .pointer (some ⟨s, 0, none⟩) → a'.tmps.getD 52 undef = .slice (some ⟨nb, 0, none⟩) T T → a'.tmps.getD 58 undef = .slice (some ⟨cg, 0, none⟩) T T → a'.tmps.getD 59 undef = .int .i64 (k : Int) → a'.tmps.getD 60 undef = .int .i64 (x : Int) → (∃ C', (w'.rowIs cg 4 T fun i => .bool (C' i)) ∧ MarkJ start K k o (en - of) C') → w.grownBy w' (some cg) → Q .normal a' w') :
    Code.wp Tryf.prog (sx (tk 4 (bx (sx (sy (bx (bx (sy (sx (tk 55 (Tryf.f6.body.getD .skip))))))))))) Q a w := by
  obtain ⟨f, hf, rfl⟩ := lit848 a hsz hd
  have e2 : f 2 = .slice ao2 n n := (hf 2).symm.trans h2
  have e3 : f 3 = .slice ao3 n n := (hf 3).symm.trans h3
  have e4 : f 4 = .slice ao4 n n := (hf 4).symm.trans h4
  have e5 : f 5 = .slice ao5 n n := (hf 5).symm.trans h5
  have e20 : f 20 = .int .i64 (start : Int) := (hf 20).symm.trans h20
  have e21 : f 21 = .slice (some ⟨og, 0, none⟩) n n := (hf 21).symm.trans h21
  have e22 : f 22 = .slice (some ⟨eg, 0, none⟩) n n := (hf 22).symm.trans h22
  have e26 : f 26 = .int .i64 (en_ : Int) := (hf 26).symm.trans h26
  have e27 : f 27 = .int .i64 (T : Int) := (hf 27).symm.trans h27
  have e39 : f 39 = .slice (some ⟨ob, 0, none⟩) T T := (hf 39).symm.trans h39
  have e41 : f 41 = .slice (some ⟨kg, 0, none⟩) m2 kcap := (hf 41).symm.trans h41
  have e43 : f 43 = .slice (some ⟨ng, 0, none⟩) m2 m2 := (hf 43).symm.trans h43
  have e44 : f 44 = .slice (some ⟨hg, 0, none⟩) m2 m2 := (hf 44).symm.trans h44
  have e50 : f 50 = .pointer (some ⟨s, 0, none⟩) := (hf 50).symm.trans h50
  have e52 : f 52 = .slice (some ⟨nb, 0, none⟩) T T := (hf 52).symm.trans h52
  have e58 : f 58 = .slice (some ⟨cg, 0, none⟩) T T := (hf 58).symm.trans h58
  have e59 : f 59 = .int .i64 (k : Int) := (hf 59).symm.trans h59
  have e60 : f 60 = .int .i64 (x : Int) := (hf 60).symm.trans h60
  have HQ : Hid (∀ a' w', a'.tmps.size = 848 → a'.defers = [] → a'.tmps.getD 2 undef = .slice ao2 n n → a'.tmps.getD 3 undef = .slice ao3 n n → a'.tmps.getD 4 undef = .slice ao4 n n → a'.tmps.getD 5 undef = .slice ao5 n n → a'.tmps.getD 20 undef = .int .i64 (start : Int) → a'.tmps.getD 21 undef = .slice (some ⟨og, 0, none⟩) n n → a'.tmps.getD 22 undef = .slice (some ⟨eg, 0, none⟩) n n → a'.tmps.getD 26 undef = .int .i64 (en_ : Int) → a'.tmps.getD 27 undef = .int .i64 (T : Int) → a'.tmps.getD 39 undef = .slice (some ⟨ob, 0, none⟩) T T → a'.tmps.getD 41 undef = .slice (some ⟨kg, 0, none⟩) m2 kcap → a'.tmps.getD 43 undef = .slice (some ⟨ng, 0, none⟩) m2 m2 → a'.tmps.getD 44 undef = .slice (some ⟨hg, 0, none⟩) m2 m2 → a'.tmps.getD 50 undef = .pointer (some ⟨s, 0, none⟩) → a'.tmps.getD 52 undef = .slice (some ⟨nb, 0, none⟩) T T → a'.tmps.getD 58 undef = .slice (some ⟨cg, 0, none⟩) T T → a'.tmps.getD 59 undef = .int .i64 (k : Int) → a'.tmps.getD 60 undef = .int .i64 (x : Int) → (∃ C', (w'.rowIs cg 4 T fun i => .bool (C' i)) ∧ MarkJ start K k o (en - of) C') → w.grownBy w' (some cg) → Q .normal a' w') := hQ
  rw [e2, e3, e4, e5, e20, e21, e22, e26, e27, e39, e41, e43, e44, e50, e52, e58, e59, e60]
  clear h2 e2 h3 e3 h4 e4 h5 e5 h20 e20 h21 e21 h22 e22 h26 e26 h27 e27 h39 e39 h41 e41 h43 e43 h44 e44 h50 e50 h52 e52 h58 e58 h59 e59 h60 e60 hf hsz hd hQ
  conv => arg 2; whnf
  have hix2 := ix40 (g := ng) (c := m2) hk
  have hix3 := ix40 (g := hg) (c := m2) hk
  have hix4 := ix40 (g := og) (c := n) hx
  have HOLD : Hid (w.rowIs ob 5 T (V .u8 OB)) := hold
  have HNB : Hid (w.rowIs nb 5 T (V .u8 NB)) := hnb
  have HCOV : Hid (w.rowIs cg 4 T fun i => .bool (C i)) := hcov
  have HMK : Hid (Mark start K k C) := hmk
  have HNV : Hid (∀ j, j < en - of → NB (o + j) = OB (of + j)) := hnv
  have HQ2 : Hid (w.cell? ⟨ng, k, none⟩ = some (.int .i64 (o : Int)) ∧ w.cell? ⟨hg, k, none⟩ = some (.int .i64 (e : Int)) ∧ w.cell? ⟨og, x, none⟩ = some (.int .i64 (of : Int))) := ⟨q2, q3, q4⟩
  obtain ⟨hn1, hn2, hn3, hn4, hn5⟩ := hne
  obtain ⟨len, hlen⟩ : ∃ len, len = en - of := ⟨_, rfl⟩
  rw [← hlen] at HQ HNV
  have heo2 : e = o + len := by rw [heo, hlen]
  have hofl : of + len ≤ T := by omega
  clear hold hnb hcov hmk hnv q2 q3 q4 heo hoe henT hlen
  go_wp2_with fail
  go_loopw [62] (fun jv wv => ∃ (j : Nat) (C' : Nat → Bool), j ≤ len ∧ jv = .int .i64 (j : Int) ∧ ((wv.rowIs cg 4 T fun i => .bool (C' i)) ∧ MarkJ start K k o j C' ∧ w.grownBy wv (some cg))) (fun jv _ => len - (intOf jv).toNat)
  case atStart => exact ⟨0, C, Nat.zero_le _, rfl, HCOV.out, HMK.out.begin o, grown_refl _ _⟩
  case round =>
    obtain ⟨j, C', hj, rfl, hrel⟩ := hrel
    have HREL : Hid ((wr.rowIs cg 4 T fun i => .bool (C' i)) ∧ MarkJ start K k o j C' ∧ w.grownBy wr (some cg)) := hrel
    have hgr := hrel.2.2
    have q2 : wr.cell? ⟨ng, k, none⟩ = some (.int .i64 (o : Int)) := hgr.cell HQ2.out.1 (by simpa using hn1)
    have q3 : wr.cell? ⟨hg, k, none⟩ = some (.int .i64 (e : Int)) := hgr.cell HQ2.out.2.1 (by simpa using hn2)
    have q4 : wr.cell? ⟨og, x, none⟩ = some (.int .i64 (of : Int)) := hgr.cell HQ2.out.2.2 (by simpa using hn3)
    have hsub : IntKind.i64.wrap ((e : Int) - (o : Int)) = (len : Int) := by rw [IntKind.wrap_i64]; omega
    have hsub2 : (e : Int) - (o : Int) = (len : Int) := by omega
    by_cases hlt : j < len
    · have hji : (j : Int) < (len : Int) := by omega
      have hixa := ix22 (g := nb) (c := T) (show o + j < T by omega)
      have hixb := ix22 (g := ob) (c := T) (show of + j < T by omega)
      have hixc := ix60 (g := cg) (c := T) (show o + j < T by omega)
      have hc1 : wr.cell? ⟨nb, o + j, none⟩ = some (.int .u8 (OB (of + j))) := by
        rw [(HNB.out.of_block (hgr.block nb HNB.out.lt (by simpa using hn5))).cell (by omega)]
        show some (Value.int .u8 (NB (o + j))) = _
        rw [HNV.out j hlt]
      have hc2 : wr.cell? ⟨ob, of + j, none⟩ = some (.int .u8 (OB (of + j))) := (HOLD.out.of_block (hgr.block ob HOLD.out.lt (by simpa using hn4))).cell (by omega)
      obtain ⟨v0, hv0⟩ : ∃ v0, wr.cell? ⟨cg, o + j, none⟩ = some v0 := ⟨_, hrel.1.cell (by omega)⟩
      have hfz : wr.frozen? ⟨cg, o + j, none⟩ = false := hrel.1.frozen _
      clear hrel hgr
      go_wp2_with fail
      go_quiet (fail)
      go_wp2_with fail
      go_quiet (fail)
      go_wp2_with fail
      go_roundw
      case rel =>
        have h := HREL.out
        exact ⟨j + 1, _, by omega, by go_num, put_bool (w := wr.drewN _) (k := o + j) h.1, h.2.1.step, h.2.2.trans (grown_drew_set wr _ cg (o + j) (.bool true))⟩
      case measure => simp [intOf]; omega
    · have hjd : decide ((j : Int) < (len : Int)) = false := by simp; omega
      obtain rfl : len = j := by omega
      clear hrel hgr
      go_wp2_with fail
      go_quiet (fail)
      go_wp2_with fail
      exact HQ.out _ _ rfl rfl rfl rfl rfl rfl rfl rfl rfl rfl rfl rfl rfl rfl rfl rfl rfl rfl rfl rfl ⟨C', HREL.out.1, HREL.out.2.1⟩ ⟨HREL.out.2.2.os, HREL.out.2.2.tape, HREL.out.2.2.output, HREL.out.2.2.size, HREL.out.2.2.block⟩
end Go.Proofs.Qxb6003952aFmt
