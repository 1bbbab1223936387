/- The law's own function: where the records end, and the bytes are made. -/
import Derived.Test.Qxb6003952aFmtWalkO
namespace Go.Proofs.Qxb6003952aFmt
open Go.RowKit Go.Extern.Stop Go.Stop Go.Extern
set_option linter.unusedVariables false

set_option maxRecDepth 1000000 in
set_option maxHeartbeats 6400000 in
theorem segD (ao0 ao1 ao2 ao3 ao4 ao5 : Option Addr) (og eg n start post slack : Nat) (vid size : Int) (L : Nat → Nat) (Q : Exit → Act → World → Prop) (a : Act) (w : World) (hsz : a.tmps.size = 848) (hd : a.defers = [])
    (h0 : a.tmps.getD 0 undef = .slice ao0 start start) (h1 : a.tmps.getD 1 undef = .slice ao1 post post) (h2 : a.tmps.getD 2 undef = .slice ao2 n n) (h3 : a.tmps.getD 3 undef = .slice ao3 n n) (h4 : a.tmps.getD 4 undef = .slice ao4 n n) (h5 : a.tmps.getD 5 undef = .slice ao5 n n) (h6 : a.tmps.getD 6 undef = .int .u16 (slack : Int)) (h7 : a.tmps.getD 7 undef = .int .u8 vid) (h8 : a.tmps.getD 8 undef = .int .i64 size) (h19 : a.tmps.getD 19 undef = .int .i64 (n : Int)) (h20 : a.tmps.getD 20 undef = .int .i64 (start : Int)) (h21 : a.tmps.getD 21 undef = .slice (some ⟨og, 0, none⟩) n n) (h22 : a.tmps.getD 22 undef = .slice (some ⟨eg, 0, none⟩) n n)
    (hre : w.rowIs eg 3 n (V .i64 fun i => (enAt start L i : Int))) (hn : n ≤ 4096) (hsl : slack ≤ 65535) (hT : offAt start L n + slack + post ≤ 2097152)
    (hQ : ∀ a' w', a'.tmps.size = 848 → a'.defers = [] → a'.tmps.getD 0 undef = .slice ao0 start start → a'.tmps.getD 1 undef = .slice ao1 post post → a'.tmps.getD 2 undef = .slice ao2 n n → a'.tmps.getD 3 undef = .slice ao3 n n → a'.tmps.getD 4 undef = .slice ao4 n n → a'.tmps.getD 5 undef = .slice ao5 n n → a'.tmps.getD 6 undef = .int .u16 (slack : Int) → a'.tmps.getD 7 undef = .int .u8 vid → a'.tmps.getD 8 undef = .int .i64 size → a'.tmps.getD 19 undef = .int .i64 (n : Int) → a'.tmps.getD 20 undef = .int .i64 (start : Int) → a'.tmps.getD 21 undef = .slice (some ⟨og, 0, none⟩) n n → a'.tmps.getD 22 undef = .slice (some ⟨eg, 0, none⟩) n n → a'.tmps.getD 25 undef = .int .i64 ((offAt start L n : Nat) : Int) → a'.tmps.getD 26 undef = .int .i64 ((offAt start L n + slack : Nat) : Int) → a'.tmps.getD 27 undef = .int .i64 ((offAt start L n + slack + post : Nat) : Int) → a'.tmps.getD 28 undef = .slice (some ⟨w.heap.size, 0, none⟩) (offAt start L n + slack + post) (offAt start L n + slack + post) → w'.rowIs w.heap.size 5 (offAt start L n + slack + post) (V .u8 fun _ => 0) → w.grownBy w' none → Code.wp Tryf.prog (tk 23 (Tryf.f6.body.getD .skip)) Q a' w') :
    Code.wp Tryf.prog (tk 18 (Tryf.f6.body.getD .skip)) Q a w := by
  obtain ⟨f, hf, rfl⟩ := lit848 a hsz hd
  have e0 : f 0 = .slice ao0 start start := (hf 0).symm.trans h0
  have e1 : f 1 = .slice ao1 post post := (hf 1).symm.trans h1
  have e2 : f 2 = .slice ao2 n n := (hf 2).symm.trans h2
  have e3 : f 3 = .slice ao3 n n := (hf 3).symm.trans h3
  have e4 : f 4 = .slice ao4 n n := (hf 4).symm.trans h4
  have e5 : f 5 = .slice ao5 n n := (hf 5).symm.trans h5
  have e6 : f 6 = .int .u16 (slack : Int) := (hf 6).symm.trans h6
  have e7 : f 7 = .int .u8 vid := (hf 7).symm.trans h7
  have e8 : f 8 = .int .i64 size := (hf 8).symm.trans h8
  have e19 : f 19 = .int .i64 (n : Int) := (hf 19).symm.trans h19
  have e20 : f 20 = .int .i64 (start : Int) := (hf 20).symm.trans h20
  have e21 : f 21 = .slice (some ⟨og, 0, none⟩) n n := (hf 21).symm.trans h21
  have e22 : f 22 = .slice (some ⟨eg, 0, none⟩) n n := (hf 22).symm.trans h22
  have HQ : Hid (∀ a' w', a'.tmps.size = 848 → a'.defers = [] → a'.tmps.getD 0 undef = .slice ao0 start start → a'.tmps.getD 1 undef = .slice ao1 post post → a'.tmps.getD 2 undef = .slice ao2 n n → a'.tmps.getD 3 undef = .slice ao3 n n → a'.tmps.getD 4 undef = .slice ao4 n n → a'.tmps.getD 5 undef = .slice ao5 n n → a'.tmps.getD 6 undef = .int .u16 (slack : Int) → a'.tmps.getD 7 undef = .int .u8 vid → a'.tmps.getD 8 undef = .int .i64 size → a'.tmps.getD 19 undef = .int .i64 (n : Int) → a'.tmps.getD 20 undef = .int .i64 (start : Int) → a'.tmps.getD 21 undef = .slice (some ⟨og, 0, none⟩) n n → a'.tmps.getD 22 undef = .slice (some ⟨eg, 0, none⟩) n n → a'.tmps.getD 25 undef = .int .i64 ((offAt start L n : Nat) : Int) → a'.tmps.getD 26 undef = .int .i64 ((offAt start L n + slack : Nat) : Int) → a'.tmps.getD 27 undef = .int .i64 ((offAt start L n + slack + post : Nat) : Int) → a'.tmps.getD 28 undef = .slice (some ⟨w.heap.size, 0, none⟩) (offAt start L n + slack + post) (offAt start L n + slack + post) → w'.rowIs w.heap.size 5 (offAt start L n + slack + post) (V .u8 fun _ => 0) → w.grownBy w' none → Code.wp Tryf.prog (tk 23 (Tryf.f6.body.getD .skip)) Q a' w') := hQ
  rw [e0, e1, e2, e3, e4, e5, e6, e7, e8, e19, e20, e21, e22]
  clear h0 e0 h1 e1 h2 e2 h3 e3 h4 e4 h5 e5 h6 e6 h7 e7 h8 e8 h19 e19 h20 e20 h21 e21 h22 e22 hf hsz hd hQ
  conv => arg 2; whnf
  obtain ⟨fr, hfr⟩ : ∃ fr, fr = offAt start L n := ⟨_, rfl⟩
  have HFR : Hid (fr = offAt start L n) := hfr
  rw [← hfr] at HQ
  have hT1 : fr + slack + post ≤ 2097152 := by rw [hfr]; exact hT
  have hmk := run_make_row' (P := Tryf.prog) 22 5 (.int .u8 0) 1 Tryf.underlying22 info5 rfl .i64 .i64 (fr + slack + post) (by omega) (by omega)
  have hcast : (fr : Int) + (slack : Int) + (post : Int) = ((fr + slack + post : Nat) : Int) := by omega
  have hc26 : (fr : Int) + (slack : Int) = ((fr + slack : Nat) : Int) := by omega
  rw [← hcast] at hmk
  rw [← hcast, ← hc26] at HQ
  clear hT hcast hc26
  by_cases h0 : n = 0
  · subst h0
    obtain rfl : fr = start := hfr
    clear hre
    go_upto_region 34 with fail
    rename_i K hK
    have HK : Hid (∀ (a : Act) (w : World), Code.wp Tryf.prog (tk 23 (Tryf.f6.body.getD .skip)) Q a w → K a w) := hK
    clear hK
    go_wp2_with fail
    exact HK.out _ _ (HQ.out _ _ rfl rfl rfl rfl rfl rfl rfl rfl rfl rfl rfl rfl rfl rfl rfl rfl rfl rfl rfl (World.rowIs_made w (.int .u8 0) _ 5) (World.grownBy_alloc w _ none))
  · obtain ⟨k, rfl⟩ : ∃ k, n = k + 1 := ⟨n - 1, by omega⟩
    have hcell : w.cell? ⟨eg, k, none⟩ = some (.int .i64 ((enAt start L k : Nat) : Int)) := hre.cell (by omega)
    obtain ⟨en, hen⟩ : ∃ en, en = enAt start L k := ⟨_, rfl⟩
    rw [← hen] at hcell
    have hfe : fr = al en := by rw [hfr, hen]; rfl
    have hk0 : ((k + 1 : Nat) : Int) > 0 := by omega
    have hk1 : ((k + 1 : Nat) : Int) - 1 = (k : Int) := by omega
    have hix := ix40 (g := eg) (c := k + 1) (show k < k + 1 by omega)
    have hel : en ≤ 2097152 := by have := le_al en; omega
    clear hfr hen hre h0
    go_wp2_with fail
    refine (align4 en (by omega) _).mono ?_
    rintro e w' ⟨rfl, rfl⟩
    rw [← hfe]
    clear hfe
    go_upto_region 34 with fail
    rename_i K hK
    have HK : Hid (∀ (a : Act) (w : World), Code.wp Tryf.prog (tk 23 (Tryf.f6.body.getD .skip)) Q a w → K a w) := hK
    clear hK
    go_wp2_with fail
    refine HK.out _ _ ?_
    refine HQ.out _ _ rfl rfl rfl rfl rfl rfl rfl rfl rfl rfl rfl rfl rfl rfl rfl rfl rfl rfl rfl (World.rowIs_made w' (.int .u8 0) _ 5) (World.grownBy_alloc w' _ none)
end Go.Proofs.Qxb6003952aFmt
