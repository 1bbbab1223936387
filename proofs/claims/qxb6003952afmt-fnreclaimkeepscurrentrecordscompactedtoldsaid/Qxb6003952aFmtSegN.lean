/- The law's own function: reclaim has accepted: the rest of the area is erased. -/
import Derived.Test.Qxb6003952aFmtPlainA
namespace Go.Proofs.Qxb6003952aFmt
open Go.RowKit Go.Extern.Stop Go.Stop Go.Extern
set_option linter.unusedVariables false

set_option maxRecDepth 1000000 in
set_option maxHeartbeats 6400000 in
theorem segN (T nb cg start en_ : Nat) (NB : Nat → Int) (C : Nat → Bool) (R : Ending → World → Prop) (a : Act) (w : World) (hsz : a.tmps.size = 848) (hd : a.defers = [])
    (h20 : a.tmps.getD 20 undef = .int .i64 (start : Int)) (h26 : a.tmps.getD 26 undef = .int .i64 (en_ : Int)) (h27 : a.tmps.getD 27 undef = .int .i64 (T : Int)) (h52 : a.tmps.getD 52 undef = .slice (some ⟨nb, 0, none⟩) T T) (h58 : a.tmps.getD 58 undef = .slice (some ⟨cg, 0, none⟩) T T)
    (hnb : w.rowIs nb 5 T (V .u8 NB)) (hcg : w.rowIs cg 4 T fun i => .bool (C i)) (hfree : ∀ i, start ≤ i → i < en_ → C i = false → NB i = 255) (hse : start ≤ en_) (heT : en_ ≤ T) (hT : T ≤ 2097152)
    (hR : ∀ w', Below w.heap.size w w' → R (.returned (.bool true)) w') :
    Code.wp Tryf.prog (tk 56 (Tryf.f6.body.getD .skip)) (bodyPost Tryf.prog Tryf.f6 R) a w := by
  obtain ⟨f, hf, rfl⟩ := lit848 a hsz hd
  have e20 : f 20 = .int .i64 (start : Int) := (hf 20).symm.trans h20
  have e26 : f 26 = .int .i64 (en_ : Int) := (hf 26).symm.trans h26
  have e27 : f 27 = .int .i64 (T : Int) := (hf 27).symm.trans h27
  have e52 : f 52 = .slice (some ⟨nb, 0, none⟩) T T := (hf 52).symm.trans h52
  have e58 : f 58 = .slice (some ⟨cg, 0, none⟩) T T := (hf 58).symm.trans h58
  have HR : Hid (∀ w', Below w.heap.size w w' → R (.returned (.bool true)) w') := hR
  rw [e20, e26, e27, e52, e58]
  clear h20 e20 h26 e26 h27 e27 h52 e52 h58 e58 hf hsz hd hR
  conv => arg 2; whnf
  have HNB : Hid (w.rowIs nb 5 T (V .u8 NB)) := hnb
  have HCG : Hid (w.rowIs cg 4 T fun i => .bool (C i)) := hcg
  have HFREE : Hid (∀ i, start ≤ i → i < en_ → C i = false → NB i = 255) := hfree
  clear hnb hcg hfree
  go_wp2_with fail
  go_loopw [65] (fun iv wr => ∃ k : Nat, start ≤ k ∧ k ≤ en_ ∧ iv = .int .i64 (k : Int) ∧ Below w.heap.size w wr) (fun iv _ => en_ - (intOf iv).toNat)
  case atStart => exact ⟨start, Nat.le_refl _, hse, rfl, Below.refl _ _⟩
  case round =>
    obtain ⟨k, hk0, hk, rfl, hb⟩ := hrel
    have HB : Hid (Below w.heap.size w wr) := hb
    clear hb
    by_cases hlt : k < en_
    · have hki : (k : Int) < (en_ : Int) := by omega
      have hix1 := ix22 (g := nb) (c := T) (show k < T by omega)
      have hix2 := ix60 (g := cg) (c := T) (show k < T by omega)
      have hc1 : wr.cell? ⟨nb, k, none⟩ = some (.int .u8 (NB k)) := (HNB.out.of_block (HB.out.block nb HNB.out.lt)).cell (by omega)
      have hc2 : wr.cell? ⟨cg, k, none⟩ = some (.bool (C k)) := (HCG.out.of_block (HB.out.block cg HCG.out.lt)).cell (by omega)
      cases hC : C k with
      | true =>
        rw [hC] at hc2
        clear hC
        go_wp2_with fail
        go_roundw
        case rel => exact ⟨k + 1, by omega, by omega, by go_num, HB.out⟩
        case measure => simp [intOf]; omega
      | false =>
        rw [hC] at hc2
        rw [HFREE.out k hk0 hlt hC] at hc1
        clear hC
        go_wp2_with fail
        go_roundw
        case rel => exact ⟨k + 1, by omega, by omega, by go_num, HB.out⟩
        case measure => simp [intOf]; omega
    · have hkd : decide ((k : Int) < (en_ : Int)) = false := by simp; omega
      go_wp2_with fail
      exact HR.out _ HB.out
end Go.Proofs.Qxb6003952aFmt
