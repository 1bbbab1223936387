/- The law's own function: what is asked of the arguments. -/
import Derived.Test.Qxb6003952aFmtWalkO
namespace Go.Proofs.Qxb6003952aFmt
open Go.RowKit Go.Extern.Stop Go.Stop Go.Extern
set_option linter.unusedVariables false

set_option maxRecDepth 1000000 in
set_option maxHeartbeats 6400000 in
theorem segA (p0 p1 p2 p3 p4 p5 : Option Addr) (n0 n1 n2 n3 n4 n5 c0 c1 c2 c3 c4 c5 slack : Nat) (vid size : Int) (L : Nat → Nat) (R : Ending → World → Prop) (a : Act) (w : World) (hsz : a.tmps.size = 848) (hd : a.defers = [])
    (h0 : a.tmps.getD 0 undef = .slice p0 n0 c0) (h1 : a.tmps.getD 1 undef = .slice p1 n1 c1) (h2 : a.tmps.getD 2 undef = .slice p2 n2 c2) (h3 : a.tmps.getD 3 undef = .slice p3 n3 c3) (h4 : a.tmps.getD 4 undef = .slice p4 n4 c4) (h5 : a.tmps.getD 5 undef = .slice p5 n5 c5) (h6 : a.tmps.getD 6 undef = .int .u16 (slack : Int)) (h7 : a.tmps.getD 7 undef = .int .u8 vid) (h8 : a.tmps.getD 8 undef = .int .i64 size)
    (hm : n0 ≤ maxLen ∧ n1 ≤ maxLen ∧ n2 ≤ maxLen ∧ n3 ≤ maxLen ∧ n4 ≤ maxLen ∧ n5 ≤ maxLen) (hsl : slack ≤ 65535) (hL : ∀ i, L i < 256) (hd4 : Dat .u8 w p4 n4 fun i => (L i : Int))
    (hR : R (.returned (.bool true)) w)
    (hQ : ∀ a' w', a'.tmps.size = 848 → a'.defers = [] → a'.tmps.getD 0 undef = .slice p0 n0 c0 → a'.tmps.getD 1 undef = .slice p1 n1 c1 → a'.tmps.getD 2 undef = .slice p2 n2 c2 → a'.tmps.getD 3 undef = .slice p3 n3 c3 → a'.tmps.getD 4 undef = .slice p4 n4 c4 → a'.tmps.getD 5 undef = .slice p5 n5 c5 → a'.tmps.getD 6 undef = .int .u16 (slack : Int) → a'.tmps.getD 7 undef = .int .u8 vid → a'.tmps.getD 8 undef = .int .i64 size → n0 ≤ 65536 → n1 ≤ 65536 → n2 ≤ 4096 → n3 = n2 → n4 = n2 → n5 = n2 → offAt n0 L n2 + slack + n1 ≤ 2097152 → w' = w → Code.wp Tryf.prog (tk 6 (Tryf.f6.body.getD .skip)) (bodyPost Tryf.prog Tryf.f6 R) a' w') :
    Code.wp Tryf.prog (tk 0 (Tryf.f6.body.getD .skip)) (bodyPost Tryf.prog Tryf.f6 R) a w := by
  obtain ⟨f, hf, rfl⟩ := lit848 a hsz hd
  have e0 : f 0 = .slice p0 n0 c0 := (hf 0).symm.trans h0
  have e1 : f 1 = .slice p1 n1 c1 := (hf 1).symm.trans h1
  have e2 : f 2 = .slice p2 n2 c2 := (hf 2).symm.trans h2
  have e3 : f 3 = .slice p3 n3 c3 := (hf 3).symm.trans h3
  have e4 : f 4 = .slice p4 n4 c4 := (hf 4).symm.trans h4
  have e5 : f 5 = .slice p5 n5 c5 := (hf 5).symm.trans h5
  have e6 : f 6 = .int .u16 (slack : Int) := (hf 6).symm.trans h6
  have e7 : f 7 = .int .u8 vid := (hf 7).symm.trans h7
  have e8 : f 8 = .int .i64 size := (hf 8).symm.trans h8
  have HQ : Hid (∀ a' w', a'.tmps.size = 848 → a'.defers = [] → a'.tmps.getD 0 undef = .slice p0 n0 c0 → a'.tmps.getD 1 undef = .slice p1 n1 c1 → a'.tmps.getD 2 undef = .slice p2 n2 c2 → a'.tmps.getD 3 undef = .slice p3 n3 c3 → a'.tmps.getD 4 undef = .slice p4 n4 c4 → a'.tmps.getD 5 undef = .slice p5 n5 c5 → a'.tmps.getD 6 undef = .int .u16 (slack : Int) → a'.tmps.getD 7 undef = .int .u8 vid → a'.tmps.getD 8 undef = .int .i64 size → n0 ≤ 65536 → n1 ≤ 65536 → n2 ≤ 4096 → n3 = n2 → n4 = n2 → n5 = n2 → offAt n0 L n2 + slack + n1 ≤ 2097152 → w' = w → Code.wp Tryf.prog (tk 6 (Tryf.f6.body.getD .skip)) (bodyPost Tryf.prog Tryf.f6 R) a' w') := hQ
  have HR : Hid (R (.returned (.bool true)) w) := hR
  rw [e0, e1, e2, e3, e4, e5, e6, e7, e8]
  clear h0 e0 h1 e1 h2 e2 h3 e3 h4 e4 h5 e5 h6 e6 h7 e7 h8 e8 hf hsz hd hQ hR
  conv => arg 2; whnf
  obtain ⟨hm0, hm1, hm2, hm3, hm4, hm5⟩ := hm
  have HD4 : Hid (Dat .u8 w p4 n4 fun i => (L i : Int)) := hd4
  have HL : Hid (∀ i, L i < 256) := hL
  clear hd4 hL
  unfold maxLen at hm0 hm1 hm2 hm3 hm4 hm5
  go_wp2_with fail
  by_cases hb : n0 + n1 + n2 + n3 + n4 + n5 ≤ 1048576
  · refine (bytes16_yes p0 p1 p2 p3 p4 p5 n0 n1 n2 n3 n4 n5 c0 c1 c2 c3 c4 c5 _ _ _ hb w).mono ?_
    rintro e w' ⟨rfl, rfl⟩
    go_upto_region 3 with fail
    by_cases hs : n0 + n1 + n2 + n3 + n4 + 8 * n5 ≤ 1048576
    · have hsd : decide ((1048576 : Int) < (n0 : Int) + (n1 : Int) + (n2 : Int) + (n3 : Int) + (n4 : Int) + 8 * (n5 : Int)) = false := by simp; omega
      go_upto_region 5 with fail
      clear hsd
      by_cases h2 : n2 ≤ 4096
      · have h2d : decide ((4096 : Int) < (n2 : Int)) = false := by simp; omega
        by_cases h0 : n0 ≤ 65536
        · have h0d : decide ((65536 : Int) < (n0 : Int)) = false := by simp; omega
          by_cases h1 : n1 ≤ 65536
          · have h1d : decide ((65536 : Int) < (n1 : Int)) = false := by simp; omega
            go_upto_region 7 with fail
            clear h2d h0d h1d
            by_cases h3 : n3 = n2
            · have h3d : decide ((n3 : Int) = (n2 : Int)) = true := by simp; omega
              by_cases h4 : n4 = n2
              · have h4d : decide ((n4 : Int) = (n2 : Int)) = true := by simp; omega
                by_cases h5 : n5 = n2
                · have HT : Hid (n3 = n2 ∧ n4 = n2 ∧ n5 = n2) := ⟨h3, h4, h5⟩
                  subst h3 h4 h5
                  clear h3d h4d
                  go_upto_region 9 with fail
                  have HTOT : Hid (Calls Tryf.prog 17 #[.int .i64 (n0 : Int), .slice p4 n5 c4, .int .u16 (slack : Int), .int .i64 (n1 : Int)] w' fun e w'' => e = .returned (.int .i64 ((offAt n0 L n5 + slack + n1 : Nat) : Int)) ∧ w'' = w') := total_any n0 n5 c4 slack n1 p4 L HL.out w' h0 h2 hsl h1 HD4.out
                  go_wp2_with fail
                  refine HTOT.out.mono ?_
                  rintro e w2 ⟨rfl, rfl⟩
                  obtain ⟨tot, htot⟩ : ∃ tot, tot = offAt n0 L n5 + slack + n1 := ⟨_, rfl⟩
                  rw [← htot] at HQ ⊢
                  have hob := off_bd n0 L HL.out n5
                  have htb : tot ≤ 4194304 := by omega
                  clear htot hob
                  by_cases ht : tot ≤ 2097152
                  · have htd : decide ((2097152 : Int) < (tot : Int)) = false := by simp; omega
                    rename_i K hK K1 h11 K0 h00
                    have HK : Hid (∀ (a : Act) (w : World), Code.wp Tryf.prog (tk 6 (Tryf.f6.body.getD .skip)) (bodyPost Tryf.prog Tryf.f6 R) a w → K a w) := hK
                    clear hK
                    go_wp2_with fail
                    refine HK.out _ _ ?_
                    exact HQ.out _ _ rfl rfl rfl rfl rfl rfl rfl rfl rfl rfl rfl h0 h1 h2 (by simp) (by simp) (by simp) ht (by simp)
                  · have htd : decide ((2097152 : Int) < (tot : Int)) = true := by simp; omega
                    go_wp2_with fail
                    exact HR.out
                · have h5d : decide ((n5 : Int) = (n2 : Int)) = false := by simp; omega
                  go_wp2_with fail
                  exact HR.out
              · have h4d : decide ((n4 : Int) = (n2 : Int)) = false := by simp; omega
                go_wp2_with fail
                exact HR.out
            · have h3d : decide ((n3 : Int) = (n2 : Int)) = false := by simp; omega
              go_wp2_with fail
              exact HR.out
          · have h1d : decide ((65536 : Int) < (n1 : Int)) = true := by simp; omega
            go_wp2_with fail
            exact HR.out
        · have h0d : decide ((65536 : Int) < (n0 : Int)) = true := by simp; omega
          go_wp2_with fail
          exact HR.out
      · have h2d : decide ((4096 : Int) < (n2 : Int)) = true := by simp; omega
        go_wp2_with fail
        exact HR.out
    · have hsd : decide ((1048576 : Int) < (n0 : Int) + (n1 : Int) + (n2 : Int) + (n3 : Int) + (n4 : Int) + 8 * (n5 : Int)) = true := by simp; omega
      go_wp2_with fail
      exact HR.out
  · refine (bytes16_no p0 p1 p2 p3 p4 p5 n0 n1 n2 n3 n4 n5 c0 c1 c2 c3 c4 c5 _ _ _ hb (by unfold maxLen; omega) (by unfold maxLen; omega) (by unfold maxLen; omega) (by unfold maxLen; omega) (by unfold maxLen; omega) (by unfold maxLen; omega) w).mono ?_
    rintro e w' ⟨rfl, rfl⟩
    go_wp2_with fail
    exact HR.out
end Go.Proofs.Qxb6003952aFmt
