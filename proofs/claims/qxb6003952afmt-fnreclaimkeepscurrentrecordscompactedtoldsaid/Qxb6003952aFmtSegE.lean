/- The law's own function: the bytes are laid. -/
import Derived.Test.Qxb6003952aFmtWalkO
namespace Go.Proofs.Qxb6003952aFmt
open Go.RowKit Go.Extern.Stop Go.Stop Go.Extern
set_option linter.unusedVariables false

set_option maxRecDepth 1000000 in
set_option maxHeartbeats 6400000 in
theorem segE2 (B bb T : Nat) (ao0 ao1 ao2 ao3 ao4 ao5 : Option Addr) (og eg n start post slack free en_ : Nat) (vid size : Int) (X PX : Nat → Int) (Q : Exit → Act → World → Prop) (a : Act) (w : World) (hsz : a.tmps.size = 848) (hd : a.defers = [])
    (h0 : a.tmps.getD 0 undef = .slice ao0 start start) (h1 : a.tmps.getD 1 undef = .slice ao1 post post) (h2 : a.tmps.getD 2 undef = .slice ao2 n n) (h3 : a.tmps.getD 3 undef = .slice ao3 n n) (h4 : a.tmps.getD 4 undef = .slice ao4 n n) (h5 : a.tmps.getD 5 undef = .slice ao5 n n) (h6 : a.tmps.getD 6 undef = .int .u16 (slack : Int)) (h7 : a.tmps.getD 7 undef = .int .u8 vid) (h8 : a.tmps.getD 8 undef = .int .i64 size) (h19 : a.tmps.getD 19 undef = .int .i64 (n : Int)) (h20 : a.tmps.getD 20 undef = .int .i64 (start : Int)) (h21 : a.tmps.getD 21 undef = .slice (some ⟨og, 0, none⟩) n n) (h22 : a.tmps.getD 22 undef = .slice (some ⟨eg, 0, none⟩) n n) (h25 : a.tmps.getD 25 undef = .int .i64 (free : Int)) (h26 : a.tmps.getD 26 undef = .int .i64 (en_ : Int)) (h27 : a.tmps.getD 27 undef = .int .i64 (T : Int)) (h28 : a.tmps.getD 28 undef = .slice (some ⟨bb, 0, none⟩) T T)
    (hrow : w.rowIs bb 5 T (V .u8 X)) (hB : B ≤ bb) (hT : T ≤ 2097152) (hlo : 0 ≤ start) (hfit : 0 + start ≤ T) (hsrc : DatB B .u8 w ao0 start PX)
    (hQ : ∀ a' w', a'.tmps.size = 848 → a'.defers = [] → a'.tmps.getD 0 undef = .slice ao0 start start → a'.tmps.getD 1 undef = .slice ao1 post post → a'.tmps.getD 2 undef = .slice ao2 n n → a'.tmps.getD 3 undef = .slice ao3 n n → a'.tmps.getD 4 undef = .slice ao4 n n → a'.tmps.getD 5 undef = .slice ao5 n n → a'.tmps.getD 6 undef = .int .u16 (slack : Int) → a'.tmps.getD 7 undef = .int .u8 vid → a'.tmps.getD 8 undef = .int .i64 size → a'.tmps.getD 19 undef = .int .i64 (n : Int) → a'.tmps.getD 20 undef = .int .i64 (start : Int) → a'.tmps.getD 21 undef = .slice (some ⟨og, 0, none⟩) n n → a'.tmps.getD 22 undef = .slice (some ⟨eg, 0, none⟩) n n → a'.tmps.getD 25 undef = .int .i64 (free : Int) → a'.tmps.getD 26 undef = .int .i64 (en_ : Int) → a'.tmps.getD 27 undef = .int .i64 (T : Int) → a'.tmps.getD 28 undef = .slice (some ⟨bb, 0, none⟩) T T → (∃ X', w'.rowIs bb 5 T (V .u8 X')) → w.grownBy w' (some bb) → Code.wp Tryf.prog (tk 24 (Tryf.f6.body.getD .skip)) Q a' w') :
    Code.wp Tryf.prog (tk 23 (Tryf.f6.body.getD .skip)) Q a w := by
  obtain ⟨f, hf, rfl⟩ := lit848 a hsz hd
  have e0 : f 0 = .slice ao0 start start := (hf 0).symm.trans h0
  have e1 : f 1 = .slice ao1 post post := (hf 1).symm.trans h1
  have e2 : f 2 = .slice ao2 n n := (hf 2).symm.trans h2
  have e3 : f 3 = .slice ao3 n n := (hf 3).symm.trans h3
  have e4 : f 4 = .slice ao4 n n := (hf 4).symm.trans h4
  have e5 : f 5 = .slice ao5 n n := (hf 5).symm.trans h5
  have e6 : f 6 = .int .u16 (slack : Int) := (hf 6).symm.trans h6
  have e7 : f 7 = .int .u8 vid := (hf 7).symm.trans h7
  have e8 : f 8 = .int .i64 size := (hf 8).symm.trans h8
  have e19 : f 19 = .int .i64 (n : Int) := (hf 19).symm.trans h19
  have e20 : f 20 = .int .i64 (start : Int) := (hf 20).symm.trans h20
  have e21 : f 21 = .slice (some ⟨og, 0, none⟩) n n := (hf 21).symm.trans h21
  have e22 : f 22 = .slice (some ⟨eg, 0, none⟩) n n := (hf 22).symm.trans h22
  have e25 : f 25 = .int .i64 (free : Int) := (hf 25).symm.trans h25
  have e26 : f 26 = .int .i64 (en_ : Int) := (hf 26).symm.trans h26
  have e27 : f 27 = .int .i64 (T : Int) := (hf 27).symm.trans h27
  have e28 : f 28 = .slice (some ⟨bb, 0, none⟩) T T := (hf 28).symm.trans h28
  have HQ : Hid (∀ a' w', a'.tmps.size = 848 → a'.defers = [] → a'.tmps.getD 0 undef = .slice ao0 start start → a'.tmps.getD 1 undef = .slice ao1 post post → a'.tmps.getD 2 undef = .slice ao2 n n → a'.tmps.getD 3 undef = .slice ao3 n n → a'.tmps.getD 4 undef = .slice ao4 n n → a'.tmps.getD 5 undef = .slice ao5 n n → a'.tmps.getD 6 undef = .int .u16 (slack : Int) → a'.tmps.getD 7 undef = .int .u8 vid → a'.tmps.getD 8 undef = .int .i64 size → a'.tmps.getD 19 undef = .int .i64 (n : Int) → a'.tmps.getD 20 undef = .int .i64 (start : Int) → a'.tmps.getD 21 undef = .slice (some ⟨og, 0, none⟩) n n → a'.tmps.getD 22 undef = .slice (some ⟨eg, 0, none⟩) n n → a'.tmps.getD 25 undef = .int .i64 (free : Int) → a'.tmps.getD 26 undef = .int .i64 (en_ : Int) → a'.tmps.getD 27 undef = .int .i64 (T : Int) → a'.tmps.getD 28 undef = .slice (some ⟨bb, 0, none⟩) T T → (∃ X', w'.rowIs bb 5 T (V .u8 X')) → w.grownBy w' (some bb) → Code.wp Tryf.prog (tk 24 (Tryf.f6.body.getD .skip)) Q a' w') := hQ
  rw [e0, e1, e2, e3, e4, e5, e6, e7, e8, e19, e20, e21, e22, e25, e26, e27, e28]
  clear h0 e0 h1 e1 h2 e2 h3 e3 h4 e4 h5 e5 h6 e6 h7 e7 h8 e8 h19 e19 h20 e20 h21 e21 h22 e22 h25 e25 h26 e26 h27 e27 h28 e28 hf hsz hd hQ
  conv => arg 2; whnf
  have HROW : Hid (w.rowIs bb 5 T (V .u8 X)) := hrow
  have HSRC : Hid (DatB B .u8 w ao0 start PX) := hsrc
  clear hrow hsrc
  go_wp2_with fail
  rename_i K hK
  have HK : Hid (∀ (a : Act) (w : World), Code.wp Tryf.prog (tk 24 (Tryf.f6.body.getD .skip)) Q a w → K a w) := hK
  clear hK
  go_loopw [29] (fun iv wr => ∃ k : Nat, 0 ≤ k ∧ k ≤ start ∧ iv = .int .i64 (k : Int) ∧ (∃ X', wr.rowIs bb 5 T (V .u8 X')) ∧ w.grownBy wr (some bb)) (fun iv _ => start - (intOf iv).toNat)
  case atStart => exact ⟨0, Nat.le_refl _, hlo, rfl, ⟨_, HROW.out⟩, grown_refl _ _⟩
  case round =>
    obtain ⟨k, hk0, hk, rfl, ⟨X', hr⟩, hg⟩ := hrel
    have HR : Hid (wr.rowIs bb 5 T (V .u8 X')) := hr
    have HG : Hid (w.grownBy wr (some bb)) := hg
    clear hr hg
    by_cases hlt : k < start
    · have hki : (k : Int) < (start : Int) := by omega
      have hix := ix22 (g := bb) (c := T) (show k < T by omega)
      obtain ⟨v0, hv0⟩ : ∃ v0, wr.cell? ⟨bb, k, none⟩ = some v0 := ⟨_, HR.out.cell (by omega)⟩
      have hfr : wr.frozen? ⟨bb, k, none⟩ = false := HR.out.frozen _
      obtain ⟨b0, o0, hb0, ha0, hc0⟩ := (HSRC.out.keep fun j hj => HG.out.block j (by have := HROW.out.lt; omega) (by simp; omega)).at hlt
      have hiy := index22 (c := start) hlt ha0
      clear ha0
      go_wp2_with fail
      go_roundw
      case rel => exact ⟨k + 1, by omega, by omega, by go_num, ⟨_, put_row (k) (PX k) HR.out⟩, HG.out.trans (grown_set _ _ _ _)⟩
      case measure => simp [intOf]; omega
    · have hkd : decide ((k : Int) < (start : Int)) = false := by simp; omega
      obtain rfl : k = start := by omega
      go_wp2_with fail
      refine HK.out _ _ ?_
      refine HQ.out _ _ rfl rfl rfl rfl rfl rfl rfl rfl rfl rfl rfl rfl rfl rfl rfl rfl rfl rfl rfl ⟨_, HR.out⟩ HG.out
set_option maxRecDepth 1000000 in
set_option maxHeartbeats 6400000 in
theorem segE3 (B bb T : Nat) (ao0 ao1 ao2 ao3 ao4 ao5 : Option Addr) (og eg n start post slack free en_ : Nat) (vid size : Int) (X PX : Nat → Int) (Q : Exit → Act → World → Prop) (a : Act) (w : World) (hsz : a.tmps.size = 848) (hd : a.defers = [])
    (h0 : a.tmps.getD 0 undef = .slice ao0 start start) (h1 : a.tmps.getD 1 undef = .slice ao1 post post) (h2 : a.tmps.getD 2 undef = .slice ao2 n n) (h3 : a.tmps.getD 3 undef = .slice ao3 n n) (h4 : a.tmps.getD 4 undef = .slice ao4 n n) (h5 : a.tmps.getD 5 undef = .slice ao5 n n) (h6 : a.tmps.getD 6 undef = .int .u16 (slack : Int)) (h7 : a.tmps.getD 7 undef = .int .u8 vid) (h8 : a.tmps.getD 8 undef = .int .i64 size) (h19 : a.tmps.getD 19 undef = .int .i64 (n : Int)) (h20 : a.tmps.getD 20 undef = .int .i64 (start : Int)) (h21 : a.tmps.getD 21 undef = .slice (some ⟨og, 0, none⟩) n n) (h22 : a.tmps.getD 22 undef = .slice (some ⟨eg, 0, none⟩) n n) (h25 : a.tmps.getD 25 undef = .int .i64 (free : Int)) (h26 : a.tmps.getD 26 undef = .int .i64 (en_ : Int)) (h27 : a.tmps.getD 27 undef = .int .i64 (T : Int)) (h28 : a.tmps.getD 28 undef = .slice (some ⟨bb, 0, none⟩) T T)
    (hrow : w.rowIs bb 5 T (V .u8 X)) (hB : B ≤ bb) (hT : T ≤ 2097152) (hlo : start ≤ free) (hfit : 0 + free ≤ T)
    (hQ : ∀ a' w', a'.tmps.size = 848 → a'.defers = [] → a'.tmps.getD 0 undef = .slice ao0 start start → a'.tmps.getD 1 undef = .slice ao1 post post → a'.tmps.getD 2 undef = .slice ao2 n n → a'.tmps.getD 3 undef = .slice ao3 n n → a'.tmps.getD 4 undef = .slice ao4 n n → a'.tmps.getD 5 undef = .slice ao5 n n → a'.tmps.getD 6 undef = .int .u16 (slack : Int) → a'.tmps.getD 7 undef = .int .u8 vid → a'.tmps.getD 8 undef = .int .i64 size → a'.tmps.getD 19 undef = .int .i64 (n : Int) → a'.tmps.getD 20 undef = .int .i64 (start : Int) → a'.tmps.getD 21 undef = .slice (some ⟨og, 0, none⟩) n n → a'.tmps.getD 22 undef = .slice (some ⟨eg, 0, none⟩) n n → a'.tmps.getD 25 undef = .int .i64 (free : Int) → a'.tmps.getD 26 undef = .int .i64 (en_ : Int) → a'.tmps.getD 27 undef = .int .i64 (T : Int) → a'.tmps.getD 28 undef = .slice (some ⟨bb, 0, none⟩) T T → (∃ X', w'.rowIs bb 5 T (V .u8 X')) → w.grownBy w' (some bb) → Code.wp Tryf.prog (tk 25 (Tryf.f6.body.getD .skip)) Q a' w') :
    Code.wp Tryf.prog (tk 24 (Tryf.f6.body.getD .skip)) Q a w := by
  obtain ⟨f, hf, rfl⟩ := lit848 a hsz hd
  have e0 : f 0 = .slice ao0 start start := (hf 0).symm.trans h0
  have e1 : f 1 = .slice ao1 post post := (hf 1).symm.trans h1
  have e2 : f 2 = .slice ao2 n n := (hf 2).symm.trans h2
  have e3 : f 3 = .slice ao3 n n := (hf 3).symm.trans h3
  have e4 : f 4 = .slice ao4 n n := (hf 4).symm.trans h4
  have e5 : f 5 = .slice ao5 n n := (hf 5).symm.trans h5
  have e6 : f 6 = .int .u16 (slack : Int) := (hf 6).symm.trans h6
  have e7 : f 7 = .int .u8 vid := (hf 7).symm.trans h7
  have e8 : f 8 = .int .i64 size := (hf 8).symm.trans h8
  have e19 : f 19 = .int .i64 (n : Int) := (hf 19).symm.trans h19
  have e20 : f 20 = .int .i64 (start : Int) := (hf 20).symm.trans h20
  have e21 : f 21 = .slice (some ⟨og, 0, none⟩) n n := (hf 21).symm.trans h21
  have e22 : f 22 = .slice (some ⟨eg, 0, none⟩) n n := (hf 22).symm.trans h22
  have e25 : f 25 = .int .i64 (free : Int) := (hf 25).symm.trans h25
  have e26 : f 26 = .int .i64 (en_ : Int) := (hf 26).symm.trans h26
  have e27 : f 27 = .int .i64 (T : Int) := (hf 27).symm.trans h27
  have e28 : f 28 = .slice (some ⟨bb, 0, none⟩) T T := (hf 28).symm.trans h28
  have HQ : Hid (∀ a' w', a'.tmps.size = 848 → a'.defers = [] → a'.tmps.getD 0 undef = .slice ao0 start start → a'.tmps.getD 1 undef = .slice ao1 post post → a'.tmps.getD 2 undef = .slice ao2 n n → a'.tmps.getD 3 undef = .slice ao3 n n → a'.tmps.getD 4 undef = .slice ao4 n n → a'.tmps.getD 5 undef = .slice ao5 n n → a'.tmps.getD 6 undef = .int .u16 (slack : Int) → a'.tmps.getD 7 undef = .int .u8 vid → a'.tmps.getD 8 undef = .int .i64 size → a'.tmps.getD 19 undef = .int .i64 (n : Int) → a'.tmps.getD 20 undef = .int .i64 (start : Int) → a'.tmps.getD 21 undef = .slice (some ⟨og, 0, none⟩) n n → a'.tmps.getD 22 undef = .slice (some ⟨eg, 0, none⟩) n n → a'.tmps.getD 25 undef = .int .i64 (free : Int) → a'.tmps.getD 26 undef = .int .i64 (en_ : Int) → a'.tmps.getD 27 undef = .int .i64 (T : Int) → a'.tmps.getD 28 undef = .slice (some ⟨bb, 0, none⟩) T T → (∃ X', w'.rowIs bb 5 T (V .u8 X')) → w.grownBy w' (some bb) → Code.wp Tryf.prog (tk 25 (Tryf.f6.body.getD .skip)) Q a' w') := hQ
  rw [e0, e1, e2, e3, e4, e5, e6, e7, e8, e19, e20, e21, e22, e25, e26, e27, e28]
  clear h0 e0 h1 e1 h2 e2 h3 e3 h4 e4 h5 e5 h6 e6 h7 e7 h8 e8 h19 e19 h20 e20 h21 e21 h22 e22 h25 e25 h26 e26 h27 e27 h28 e28 hf hsz hd hQ
  conv => arg 2; whnf
  have HROW : Hid (w.rowIs bb 5 T (V .u8 X)) := hrow
  clear hrow
  go_wp2_with fail
  rename_i K hK
  have HK : Hid (∀ (a : Act) (w : World), Code.wp Tryf.prog (tk 25 (Tryf.f6.body.getD .skip)) Q a w → K a w) := hK
  clear hK
  go_loopw [30] (fun iv wr => ∃ k : Nat, start ≤ k ∧ k ≤ free ∧ iv = .int .i64 (k : Int) ∧ (∃ X', wr.rowIs bb 5 T (V .u8 X')) ∧ w.grownBy wr (some bb)) (fun iv _ => free - (intOf iv).toNat)
  case atStart => exact ⟨start, Nat.le_refl _, hlo, rfl, ⟨_, HROW.out⟩, grown_refl _ _⟩
  case round =>
    obtain ⟨k, hk0, hk, rfl, ⟨X', hr⟩, hg⟩ := hrel
    have HR : Hid (wr.rowIs bb 5 T (V .u8 X')) := hr
    have HG : Hid (w.grownBy wr (some bb)) := hg
    clear hr hg
    by_cases hlt : k < free
    · have hki : (k : Int) < (free : Int) := by omega
      have hix := ix22 (g := bb) (c := T) (show k < T by omega)
      obtain ⟨v0, hv0⟩ : ∃ v0, wr.cell? ⟨bb, k, none⟩ = some v0 := ⟨_, HR.out.cell (by omega)⟩
      have hfr : wr.frozen? ⟨bb, k, none⟩ = false := HR.out.frozen _
      go_wp2_with fail
      go_roundw
      case rel => exact ⟨k + 1, by omega, by omega, by go_num, ⟨_, put_row (k) (90) HR.out⟩, HG.out.trans (grown_set _ _ _ _)⟩
      case measure => simp [intOf]; omega
    · have hkd : decide ((k : Int) < (free : Int)) = false := by simp; omega
      obtain rfl : k = free := by omega
      go_wp2_with fail
      refine HK.out _ _ ?_
      refine HQ.out _ _ rfl rfl rfl rfl rfl rfl rfl rfl rfl rfl rfl rfl rfl rfl rfl rfl rfl rfl rfl ⟨_, HR.out⟩ HG.out
set_option maxRecDepth 1000000 in
set_option maxHeartbeats 6400000 in
theorem segE4 (B bb T : Nat) (ao0 ao1 ao2 ao3 ao4 ao5 : Option Addr) (og eg n start post slack free en_ : Nat) (vid size : Int) (X PX : Nat → Int) (Q : Exit → Act → World → Prop) (a : Act) (w : World) (hsz : a.tmps.size = 848) (hd : a.defers = [])
    (h0 : a.tmps.getD 0 undef = .slice ao0 start start) (h1 : a.tmps.getD 1 undef = .slice ao1 post post) (h2 : a.tmps.getD 2 undef = .slice ao2 n n) (h3 : a.tmps.getD 3 undef = .slice ao3 n n) (h4 : a.tmps.getD 4 undef = .slice ao4 n n) (h5 : a.tmps.getD 5 undef = .slice ao5 n n) (h6 : a.tmps.getD 6 undef = .int .u16 (slack : Int)) (h7 : a.tmps.getD 7 undef = .int .u8 vid) (h8 : a.tmps.getD 8 undef = .int .i64 size) (h19 : a.tmps.getD 19 undef = .int .i64 (n : Int)) (h20 : a.tmps.getD 20 undef = .int .i64 (start : Int)) (h21 : a.tmps.getD 21 undef = .slice (some ⟨og, 0, none⟩) n n) (h22 : a.tmps.getD 22 undef = .slice (some ⟨eg, 0, none⟩) n n) (h25 : a.tmps.getD 25 undef = .int .i64 (free : Int)) (h26 : a.tmps.getD 26 undef = .int .i64 (en_ : Int)) (h27 : a.tmps.getD 27 undef = .int .i64 (T : Int)) (h28 : a.tmps.getD 28 undef = .slice (some ⟨bb, 0, none⟩) T T)
    (hrow : w.rowIs bb 5 T (V .u8 X)) (hB : B ≤ bb) (hT : T ≤ 2097152) (hlo : free ≤ en_) (hfit : 0 + en_ ≤ T)
    (hQ : ∀ a' w', a'.tmps.size = 848 → a'.defers = [] → a'.tmps.getD 0 undef = .slice ao0 start start → a'.tmps.getD 1 undef = .slice ao1 post post → a'.tmps.getD 2 undef = .slice ao2 n n → a'.tmps.getD 3 undef = .slice ao3 n n → a'.tmps.getD 4 undef = .slice ao4 n n → a'.tmps.getD 5 undef = .slice ao5 n n → a'.tmps.getD 6 undef = .int .u16 (slack : Int) → a'.tmps.getD 7 undef = .int .u8 vid → a'.tmps.getD 8 undef = .int .i64 size → a'.tmps.getD 19 undef = .int .i64 (n : Int) → a'.tmps.getD 20 undef = .int .i64 (start : Int) → a'.tmps.getD 21 undef = .slice (some ⟨og, 0, none⟩) n n → a'.tmps.getD 22 undef = .slice (some ⟨eg, 0, none⟩) n n → a'.tmps.getD 25 undef = .int .i64 (free : Int) → a'.tmps.getD 26 undef = .int .i64 (en_ : Int) → a'.tmps.getD 27 undef = .int .i64 (T : Int) → a'.tmps.getD 28 undef = .slice (some ⟨bb, 0, none⟩) T T → (∃ X', w'.rowIs bb 5 T (V .u8 X')) → w.grownBy w' (some bb) → Code.wp Tryf.prog (tk 26 (Tryf.f6.body.getD .skip)) Q a' w') :
    Code.wp Tryf.prog (tk 25 (Tryf.f6.body.getD .skip)) Q a w := by
  obtain ⟨f, hf, rfl⟩ := lit848 a hsz hd
  have e0 : f 0 = .slice ao0 start start := (hf 0).symm.trans h0
  have e1 : f 1 = .slice ao1 post post := (hf 1).symm.trans h1
  have e2 : f 2 = .slice ao2 n n := (hf 2).symm.trans h2
  have e3 : f 3 = .slice ao3 n n := (hf 3).symm.trans h3
  have e4 : f 4 = .slice ao4 n n := (hf 4).symm.trans h4
  have e5 : f 5 = .slice ao5 n n := (hf 5).symm.trans h5
  have e6 : f 6 = .int .u16 (slack : Int) := (hf 6).symm.trans h6
  have e7 : f 7 = .int .u8 vid := (hf 7).symm.trans h7
  have e8 : f 8 = .int .i64 size := (hf 8).symm.trans h8
  have e19 : f 19 = .int .i64 (n : Int) := (hf 19).symm.trans h19
  have e20 : f 20 = .int .i64 (start : Int) := (hf 20).symm.trans h20
  have e21 : f 21 = .slice (some ⟨og, 0, none⟩) n n := (hf 21).symm.trans h21
  have e22 : f 22 = .slice (some ⟨eg, 0, none⟩) n n := (hf 22).symm.trans h22
  have e25 : f 25 = .int .i64 (free : Int) := (hf 25).symm.trans h25
  have e26 : f 26 = .int .i64 (en_ : Int) := (hf 26).symm.trans h26
  have e27 : f 27 = .int .i64 (T : Int) := (hf 27).symm.trans h27
  have e28 : f 28 = .slice (some ⟨bb, 0, none⟩) T T := (hf 28).symm.trans h28
  have HQ : Hid (∀ a' w', a'.tmps.size = 848 → a'.defers = [] → a'.tmps.getD 0 undef = .slice ao0 start start → a'.tmps.getD 1 undef = .slice ao1 post post → a'.tmps.getD 2 undef = .slice ao2 n n → a'.tmps.getD 3 undef = .slice ao3 n n → a'.tmps.getD 4 undef = .slice ao4 n n → a'.tmps.getD 5 undef = .slice ao5 n n → a'.tmps.getD 6 undef = .int .u16 (slack : Int) → a'.tmps.getD 7 undef = .int .u8 vid → a'.tmps.getD 8 undef = .int .i64 size → a'.tmps.getD 19 undef = .int .i64 (n : Int) → a'.tmps.getD 20 undef = .int .i64 (start : Int) → a'.tmps.getD 21 undef = .slice (some ⟨og, 0, none⟩) n n → a'.tmps.getD 22 undef = .slice (some ⟨eg, 0, none⟩) n n → a'.tmps.getD 25 undef = .int .i64 (free : Int) → a'.tmps.getD 26 undef = .int .i64 (en_ : Int) → a'.tmps.getD 27 undef = .int .i64 (T : Int) → a'.tmps.getD 28 undef = .slice (some ⟨bb, 0, none⟩) T T → (∃ X', w'.rowIs bb 5 T (V .u8 X')) → w.grownBy w' (some bb) → Code.wp Tryf.prog (tk 26 (Tryf.f6.body.getD .skip)) Q a' w') := hQ
  rw [e0, e1, e2, e3, e4, e5, e6, e7, e8, e19, e20, e21, e22, e25, e26, e27, e28]
  clear h0 e0 h1 e1 h2 e2 h3 e3 h4 e4 h5 e5 h6 e6 h7 e7 h8 e8 h19 e19 h20 e20 h21 e21 h22 e22 h25 e25 h26 e26 h27 e27 h28 e28 hf hsz hd hQ
  conv => arg 2; whnf
  have HROW : Hid (w.rowIs bb 5 T (V .u8 X)) := hrow
  clear hrow
  go_wp2_with fail
  rename_i K hK
  have HK : Hid (∀ (a : Act) (w : World), Code.wp Tryf.prog (tk 26 (Tryf.f6.body.getD .skip)) Q a w → K a w) := hK
  clear hK
  go_loopw [31] (fun iv wr => ∃ k : Nat, free ≤ k ∧ k ≤ en_ ∧ iv = .int .i64 (k : Int) ∧ (∃ X', wr.rowIs bb 5 T (V .u8 X')) ∧ w.grownBy wr (some bb)) (fun iv _ => en_ - (intOf iv).toNat)
  case atStart => exact ⟨free, Nat.le_refl _, hlo, rfl, ⟨_, HROW.out⟩, grown_refl _ _⟩
  case round =>
    obtain ⟨k, hk0, hk, rfl, ⟨X', hr⟩, hg⟩ := hrel
    have HR : Hid (wr.rowIs bb 5 T (V .u8 X')) := hr
    have HG : Hid (w.grownBy wr (some bb)) := hg
    clear hr hg
    by_cases hlt : k < en_
    · have hki : (k : Int) < (en_ : Int) := by omega
      have hix := ix22 (g := bb) (c := T) (show k < T by omega)
      obtain ⟨v0, hv0⟩ : ∃ v0, wr.cell? ⟨bb, k, none⟩ = some v0 := ⟨_, HR.out.cell (by omega)⟩
      have hfr : wr.frozen? ⟨bb, k, none⟩ = false := HR.out.frozen _
      go_wp2_with fail
      go_roundw
      case rel => exact ⟨k + 1, by omega, by omega, by go_num, ⟨_, put_row (k) (255) HR.out⟩, HG.out.trans (grown_set _ _ _ _)⟩
      case measure => simp [intOf]; omega
    · have hkd : decide ((k : Int) < (en_ : Int)) = false := by simp; omega
      obtain rfl : k = en_ := by omega
      go_wp2_with fail
      refine HK.out _ _ ?_
      refine HQ.out _ _ rfl rfl rfl rfl rfl rfl rfl rfl rfl rfl rfl rfl rfl rfl rfl rfl rfl rfl rfl ⟨_, HR.out⟩ HG.out
set_option maxRecDepth 1000000 in
set_option maxHeartbeats 6400000 in
theorem segE5 (B bb T : Nat) (ao0 ao1 ao2 ao3 ao4 ao5 : Option Addr) (og eg n start post slack free en_ : Nat) (vid size : Int) (X PX : Nat → Int) (Q : Exit → Act → World → Prop) (a : Act) (w : World) (hsz : a.tmps.size = 848) (hd : a.defers = [])
    (h0 : a.tmps.getD 0 undef = .slice ao0 start start) (h1 : a.tmps.getD 1 undef = .slice ao1 post post) (h2 : a.tmps.getD 2 undef = .slice ao2 n n) (h3 : a.tmps.getD 3 undef = .slice ao3 n n) (h4 : a.tmps.getD 4 undef = .slice ao4 n n) (h5 : a.tmps.getD 5 undef = .slice ao5 n n) (h6 : a.tmps.getD 6 undef = .int .u16 (slack : Int)) (h7 : a.tmps.getD 7 undef = .int .u8 vid) (h8 : a.tmps.getD 8 undef = .int .i64 size) (h19 : a.tmps.getD 19 undef = .int .i64 (n : Int)) (h20 : a.tmps.getD 20 undef = .int .i64 (start : Int)) (h21 : a.tmps.getD 21 undef = .slice (some ⟨og, 0, none⟩) n n) (h22 : a.tmps.getD 22 undef = .slice (some ⟨eg, 0, none⟩) n n) (h25 : a.tmps.getD 25 undef = .int .i64 (free : Int)) (h26 : a.tmps.getD 26 undef = .int .i64 (en_ : Int)) (h27 : a.tmps.getD 27 undef = .int .i64 (T : Int)) (h28 : a.tmps.getD 28 undef = .slice (some ⟨bb, 0, none⟩) T T)
    (hrow : w.rowIs bb 5 T (V .u8 X)) (hB : B ≤ bb) (hT : T ≤ 2097152) (hlo : 0 ≤ post) (hfit : en_ + post ≤ T) (hsrc : DatB B .u8 w ao1 post PX)
    (hQ : ∀ a' w', a'.tmps.size = 848 → a'.defers = [] → a'.tmps.getD 0 undef = .slice ao0 start start → a'.tmps.getD 1 undef = .slice ao1 post post → a'.tmps.getD 2 undef = .slice ao2 n n → a'.tmps.getD 3 undef = .slice ao3 n n → a'.tmps.getD 4 undef = .slice ao4 n n → a'.tmps.getD 5 undef = .slice ao5 n n → a'.tmps.getD 6 undef = .int .u16 (slack : Int) → a'.tmps.getD 7 undef = .int .u8 vid → a'.tmps.getD 8 undef = .int .i64 size → a'.tmps.getD 19 undef = .int .i64 (n : Int) → a'.tmps.getD 20 undef = .int .i64 (start : Int) → a'.tmps.getD 21 undef = .slice (some ⟨og, 0, none⟩) n n → a'.tmps.getD 22 undef = .slice (some ⟨eg, 0, none⟩) n n → a'.tmps.getD 25 undef = .int .i64 (free : Int) → a'.tmps.getD 26 undef = .int .i64 (en_ : Int) → a'.tmps.getD 27 undef = .int .i64 (T : Int) → a'.tmps.getD 28 undef = .slice (some ⟨bb, 0, none⟩) T T → (∃ X', w'.rowIs bb 5 T (V .u8 X')) → w.grownBy w' (some bb) → Code.wp Tryf.prog (tk 27 (Tryf.f6.body.getD .skip)) Q a' w') :
    Code.wp Tryf.prog (tk 26 (Tryf.f6.body.getD .skip)) Q a w := by
  obtain ⟨f, hf, rfl⟩ := lit848 a hsz hd
  have e0 : f 0 = .slice ao0 start start := (hf 0).symm.trans h0
  have e1 : f 1 = .slice ao1 post post := (hf 1).symm.trans h1
  have e2 : f 2 = .slice ao2 n n := (hf 2).symm.trans h2
  have e3 : f 3 = .slice ao3 n n := (hf 3).symm.trans h3
  have e4 : f 4 = .slice ao4 n n := (hf 4).symm.trans h4
  have e5 : f 5 = .slice ao5 n n := (hf 5).symm.trans h5
  have e6 : f 6 = .int .u16 (slack : Int) := (hf 6).symm.trans h6
  have e7 : f 7 = .int .u8 vid := (hf 7).symm.trans h7
  have e8 : f 8 = .int .i64 size := (hf 8).symm.trans h8
  have e19 : f 19 = .int .i64 (n : Int) := (hf 19).symm.trans h19
  have e20 : f 20 = .int .i64 (start : Int) := (hf 20).symm.trans h20
  have e21 : f 21 = .slice (some ⟨og, 0, none⟩) n n := (hf 21).symm.trans h21
  have e22 : f 22 = .slice (some ⟨eg, 0, none⟩) n n := (hf 22).symm.trans h22
  have e25 : f 25 = .int .i64 (free : Int) := (hf 25).symm.trans h25
  have e26 : f 26 = .int .i64 (en_ : Int) := (hf 26).symm.trans h26
  have e27 : f 27 = .int .i64 (T : Int) := (hf 27).symm.trans h27
  have e28 : f 28 = .slice (some ⟨bb, 0, none⟩) T T := (hf 28).symm.trans h28
  have HQ : Hid (∀ a' w', a'.tmps.size = 848 → a'.defers = [] → a'.tmps.getD 0 undef = .slice ao0 start start → a'.tmps.getD 1 undef = .slice ao1 post post → a'.tmps.getD 2 undef = .slice ao2 n n → a'.tmps.getD 3 undef = .slice ao3 n n → a'.tmps.getD 4 undef = .slice ao4 n n → a'.tmps.getD 5 undef = .slice ao5 n n → a'.tmps.getD 6 undef = .int .u16 (slack : Int) → a'.tmps.getD 7 undef = .int .u8 vid → a'.tmps.getD 8 undef = .int .i64 size → a'.tmps.getD 19 undef = .int .i64 (n : Int) → a'.tmps.getD 20 undef = .int .i64 (start : Int) → a'.tmps.getD 21 undef = .slice (some ⟨og, 0, none⟩) n n → a'.tmps.getD 22 undef = .slice (some ⟨eg, 0, none⟩) n n → a'.tmps.getD 25 undef = .int .i64 (free : Int) → a'.tmps.getD 26 undef = .int .i64 (en_ : Int) → a'.tmps.getD 27 undef = .int .i64 (T : Int) → a'.tmps.getD 28 undef = .slice (some ⟨bb, 0, none⟩) T T → (∃ X', w'.rowIs bb 5 T (V .u8 X')) → w.grownBy w' (some bb) → Code.wp Tryf.prog (tk 27 (Tryf.f6.body.getD .skip)) Q a' w') := hQ
  rw [e0, e1, e2, e3, e4, e5, e6, e7, e8, e19, e20, e21, e22, e25, e26, e27, e28]
  clear h0 e0 h1 e1 h2 e2 h3 e3 h4 e4 h5 e5 h6 e6 h7 e7 h8 e8 h19 e19 h20 e20 h21 e21 h22 e22 h25 e25 h26 e26 h27 e27 h28 e28 hf hsz hd hQ
  conv => arg 2; whnf
  have HROW : Hid (w.rowIs bb 5 T (V .u8 X)) := hrow
  have HSRC : Hid (DatB B .u8 w ao1 post PX) := hsrc
  clear hrow hsrc
  go_wp2_with fail
  rename_i K hK
  have HK : Hid (∀ (a : Act) (w : World), Code.wp Tryf.prog (tk 27 (Tryf.f6.body.getD .skip)) Q a w → K a w) := hK
  clear hK
  go_loopw [32] (fun iv wr => ∃ k : Nat, 0 ≤ k ∧ k ≤ post ∧ iv = .int .i64 (k : Int) ∧ (∃ X', wr.rowIs bb 5 T (V .u8 X')) ∧ w.grownBy wr (some bb)) (fun iv _ => post - (intOf iv).toNat)
  case atStart => exact ⟨0, Nat.le_refl _, hlo, rfl, ⟨_, HROW.out⟩, grown_refl _ _⟩
  case round =>
    obtain ⟨k, hk0, hk, rfl, ⟨X', hr⟩, hg⟩ := hrel
    have HR : Hid (wr.rowIs bb 5 T (V .u8 X')) := hr
    have HG : Hid (w.grownBy wr (some bb)) := hg
    clear hr hg
    by_cases hlt : k < post
    · have hki : (k : Int) < (post : Int) := by omega
      have hcst : (en_ : Int) + (k : Int) = ((en_ + k : Nat) : Int) := by omega
      have hix := ix22 (g := bb) (c := T) (show en_ + k < T by omega)
      rw [← hcst] at hix
      clear hcst
      obtain ⟨v0, hv0⟩ : ∃ v0, wr.cell? ⟨bb, en_ + k, none⟩ = some v0 := ⟨_, HR.out.cell (by omega)⟩
      have hfr : wr.frozen? ⟨bb, en_ + k, none⟩ = false := HR.out.frozen _
      obtain ⟨b0, o0, hb0, ha0, hc0⟩ := (HSRC.out.keep fun j hj => HG.out.block j (by have := HROW.out.lt; omega) (by simp; omega)).at hlt
      have hiy := index22 (c := post) hlt ha0
      clear ha0
      go_wp2_with fail
      go_roundw
      case rel => exact ⟨k + 1, by omega, by omega, by go_num, ⟨_, put_row (en_ + k) (PX k) HR.out⟩, HG.out.trans (grown_set _ _ _ _)⟩
      case measure => simp [intOf]; omega
    · have hkd : decide ((k : Int) < (post : Int)) = false := by simp; omega
      obtain rfl : k = post := by omega
      go_wp2_with fail
      refine HK.out _ _ ?_
      refine HQ.out _ _ rfl rfl rfl rfl rfl rfl rfl rfl rfl rfl rfl rfl rfl rfl rfl rfl rfl rfl rfl ⟨_, HR.out⟩ HG.out
end Go.Proofs.Qxb6003952aFmt
