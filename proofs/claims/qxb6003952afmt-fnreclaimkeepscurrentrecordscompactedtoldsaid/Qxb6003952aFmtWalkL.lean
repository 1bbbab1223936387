/- The walk of reclaim: the area is erased. -/
import Derived.Test.Qxb6003952aFmtWalkJ
namespace Go.Proofs.Qxb6003952aFmt
open Go.RowKit Go.Extern.Stop Go.Stop Go.Extern
set_option linter.unusedVariables false

theorem slice_mid (o e T : Nat) (h : o ≤ e) (h2 : e ≤ T) (w' : World) (b : Nat) : (Instr.slice 22 (.slice (some ⟨b, 0, none⟩) T T) (some (.int .i64 (o : Int))) (some (.int .i64 (e : Int))) none).run Tryf.prog w' = .ok (.slice (some (cutAt b o T)) (e - o) (T - o)) w' := by
  by_cases q : T = o
  · obtain rfl : e = o := by omega
    simp [Instr.slice, Instr.sliceBounds, Instr.sliceBound, run_underlying Tryf.underlying22, asIntOf, cutAt, q]
  · simp [Instr.slice, Instr.sliceBounds, Instr.sliceBound, run_underlying Tryf.underlying22, asIntOf, h, h2, cutAt, q, Addr.add_lit]
theorem over_step {w : World} {b T o k : Nat} {X : Nat → Int} {c : Int} (h : w.rowIs b 5 T (V .u8 (over X o k fun _ => c))) : (w.setCell ⟨b, o + k, none⟩ (.int .u8 c)).rowIs b 5 T (V .u8 (over X o (k + 1) fun _ => c)) := by
  refine (h.set (o + k) _).congr fun j _ => ?_
  by_cases e : j = o + k
  · subst e; simp [V, over]
  · rw [if_neg e]
    simp only [V, over, show (o ≤ j ∧ j < o + (k + 1)) = (o ≤ j ∧ j < o + k) by simp; omega]

set_option maxRecDepth 100000 in
set_option maxHeartbeats 3200000 in
theorem rest_yes2 (s nb T start en_ : Nat) (X : Nat → Int) (Q : Exit → Act → World → Prop) (a : Act) (w : World) (hsz : a.tmps.size = 193) (hd : a.defers = [])
    (h0 : a.tmps.getD 0 undef = .pointer (some ⟨s, 0, none⟩)) (h12 : a.tmps.getD 12 undef = .slice (some ⟨nb, 0, none⟩) T T)
    (hs2 : w.cell? ⟨s, 2, none⟩ = some (.int .i64 (start : Int))) (hs4 : w.cell? ⟨s, 4, none⟩ = some (.int .i64 (en_ : Int)))
    (hrow : w.rowIs nb 5 T (V .u8 X)) (hse : start ≤ en_) (heT : en_ ≤ T) (hT : T ≤ 4194304)
    (hQ : ∀ a' w', a'.tmps.size = 193 → a'.defers = [] → a'.tmps.getD 0 undef = .pointer (some ⟨s, 0, none⟩) → a'.tmps.getD 7 undef = a.tmps.getD 7 undef → a'.tmps.getD 12 undef = .slice (some ⟨nb, 0, none⟩) T T →
      w'.rowIs nb 5 T (V .u8 (over X start (en_ - start) fun _ => 255)) → w.grownBy w' (some nb) → Code.wp Tryf.prog (tl 10 (Tryf.f36.body.getD .skip)) Q a' w') :
    Code.wp Tryf.prog (tl 8 (Tryf.f36.body.getD .skip)) Q a w := by
  obtain ⟨f, hf, rfl⟩ := lit193 a hsz hd
  have e0 : f 0 = .pointer (some ⟨s, 0, none⟩) := (hf 0).symm.trans h0
  have e12 : f 12 = .slice (some ⟨nb, 0, none⟩) T T := (hf 12).symm.trans h12
  have HQQ : Hid (∀ a' w', a'.tmps.size = 193 → a'.defers = [] → a'.tmps.getD 0 undef = .pointer (some ⟨s, 0, none⟩) → a'.tmps.getD 7 undef = f 7 → a'.tmps.getD 12 undef = .slice (some ⟨nb, 0, none⟩) T T →
      w'.rowIs nb 5 T (V .u8 (over X start (en_ - start) fun _ => 255)) → w.grownBy w' (some nb) → Code.wp Tryf.prog (tl 10 (Tryf.f36.body.getD .skip)) Q a' w') := hQ
  have HROW : Hid (w.rowIs nb 5 T (V .u8 X)) := hrow
  have hsl := slice_mid start en_ T hse heT
  rw [e0, e12]
  clear h0 h12 hf hsz hd e0 e12 hQ hrow
  conv => arg 2; whnf
  go_wp2_with fail
  go_quiet (fail)
  go_wp2_with fail
  rename_i K hK
  have HK : Hid (∀ (a : Act) (w : World), Code.wp Tryf.prog (tl 10 (Tryf.f36.body.getD .skip)) Q a w → K a w) := hK
  clear hK hsl
  have hce : ((en_ - start : Nat) : Int) = (en_ : Int) - (start : Int) := by omega
  obtain ⟨L, hL⟩ : ∃ L, L = en_ - start := ⟨_, rfl⟩
  rw [← hL]
  have HL : Hid (L = en_ - start) := hL
  have hLT : L ≤ 4194304 := by omega
  have hLs : start + L ≤ T := by omega
  clear hL hce
  go_loopw [121] (fun iv wr => ∃ k : Nat, k ≤ L ∧ iv = .int .i64 (k : Int) ∧ wr.rowIs nb 5 T (V .u8 (over X start k fun _ => 255)) ∧ w.grownBy wr (some nb)) (fun iv _ => L - (intOf iv).toNat)
  case atStart => exact ⟨0, Nat.zero_le _, rfl, HROW.out.congr (fun i _ => by simp [V, over]; omega), ⟨rfl, rfl, rfl, Nat.le_refl _, fun _ _ _ => rfl⟩⟩
  case round =>
    obtain ⟨k, hk, rfl, hr, hg⟩ := hrel
    have HR : Hid (wr.rowIs nb 5 T (V .u8 (over X start k fun _ => 255))) := hr
    have HG : Hid (w.grownBy wr (some nb)) := hg
    clear hr hg
    by_cases hlt : k < L
    · have hki : (k : Int) < (L : Int) := by omega
      have hix := index22 (c := T - start) hlt (show some (cutAt nb start T) = some ⟨nb, start, none⟩ by rw [cutAt, if_neg (by omega)])
      obtain ⟨v0, hv0⟩ : ∃ v0, wr.cell? ⟨nb, start + k, none⟩ = some v0 := ⟨_, HR.out.cell (by omega)⟩
      have hfr : wr.frozen? ⟨nb, start + k, none⟩ = false := HR.out.frozen _
      go_wp2_with fail
      go_roundw
      case rel => exact ⟨k + 1, by omega, by go_num, over_step HR.out, HG.out.trans ⟨rfl, rfl, rfl, by simp [World.setCell], fun j hj hne => Below.heap_setCell _ _ _ _ (fun e => hne (by rw [e]))⟩⟩
      case measure => simp [intOf]; omega
    · have hkd : decide ((k : Int) < (L : Int)) = false := by simp; omega
      obtain rfl : k = L := by omega
      go_wp2_with fail
      refine HK.out _ _ (HQQ.out _ _ rfl rfl rfl rfl rfl ?_ HG.out)
      rw [← HL.out]; exact HR.out
end Go.Proofs.Qxb6003952aFmt
