/- The law's own function: the kept records: the data. -/
import Derived.Test.Qxb6003952aFmtWalkU
namespace Go.Proofs.Qxb6003952aFmt
open Go.RowKit Go.Extern.Stop Go.Stop Go.Extern
set_option linter.unusedVariables false

set_option maxRecDepth 1000000 in
set_option maxHeartbeats 6400000 in
theorem pM6 (T ob kg m2 kcap ng hg s nb cg k : Nat) (ao2 ao3 ao4 ao5 : Option Addr) (og eg n start en_ : Nat) (x l b4 o4 : Nat) (r : Rec) (Q : Exit → Act → World → Prop) (a : Act) (w : World) (hsz : a.tmps.size = 848) (hd : a.defers = [])
    (h2 : a.tmps.getD 2 undef = .slice ao2 n n) (h3 : a.tmps.getD 3 undef = .slice ao3 n n) (h4 : a.tmps.getD 4 undef = .slice ao4 n n) (h5 : a.tmps.getD 5 undef = .slice ao5 n n) (h20 : a.tmps.getD 20 undef = .int .i64 (start : Int)) (h21 : a.tmps.getD 21 undef = .slice (some ⟨og, 0, none⟩) n n) (h22 : a.tmps.getD 22 undef = .slice (some ⟨eg, 0, none⟩) n n) (h26 : a.tmps.getD 26 undef = .int .i64 (en_ : Int)) (h27 : a.tmps.getD 27 undef = .int .i64 (T : Int)) (h39 : a.tmps.getD 39 undef = .slice (some ⟨ob, 0, none⟩) T T) (h41 : a.tmps.getD 41 undef = .slice (some ⟨kg, 0, none⟩) m2 kcap) (h43 : a.tmps.getD 43 undef = .slice (some ⟨ng, 0, none⟩) m2 m2) (h44 : a.tmps.getD 44 undef = .slice (some ⟨hg, 0, none⟩) m2 m2) (h50 : a.tmps.getD 50 undef = .pointer (some ⟨s, 0, none⟩)) (h52 : a.tmps.getD 52 undef = .slice (some ⟨nb, 0, none⟩) T T) (h58 : a.tmps.getD 58 undef = .slice (some ⟨cg, 0, none⟩) T T) (h59 : a.tmps.getD 59 undef = .int .i64 (k : Int)) (h60 : a.tmps.getD 60 undef = .int .i64 (x : Int))
    (hrd : Calls Tryf.prog 32 #[.pointer (some ⟨s, 0, none⟩), .int .i64 (k : Int)] w fun e w' => e = .returned (.slice (some (dp nb r)) r.dl r.dl) ∧ w' = w)
    (hQ : ∀ a' w', a'.tmps.size = 848 → a'.defers = [] → a'.tmps.getD 2 undef = .slice ao2 n n → a'.tmps.getD 3 undef = .slice ao3 n n → a'.tmps.getD 4 undef = .slice ao4 n n → a'.tmps.getD 5 undef = .slice ao5 n n → a'.tmps.getD 20 undef = .int .i64 (start : Int) → a'.tmps.getD 21 undef = .slice (some ⟨og, 0, none⟩) n n → a'.tmps.getD 22 undef = .slice (some ⟨eg, 0, none⟩) n n → a'.tmps.getD 26 undef = .int .i64 (en_ : Int) → a'.tmps.getD 27 undef = .int .i64 (T : Int) → a'.tmps.getD 39 undef = .slice (some ⟨ob, 0, none⟩) T T → a'.tmps.getD 41 undef = .slice (some ⟨kg, 0, none⟩) m2 kcap → a'.tmps.getD 43 undef = .slice (some ⟨ng, 0, none⟩) m2 m2 → a'.tmps.getD 44 undef = .slice (some ⟨hg, 0, none⟩) m2 m2 → a'.tmps.getD 50 undef = .pointer (some ⟨s, 0, none⟩) → a'.tmps.getD 52 undef = .slice (some ⟨nb, 0, none⟩) T T → a'.tmps.getD 58 undef = .slice (some ⟨cg, 0, none⟩) T T → a'.tmps.getD 59 undef = .int .i64 (k : Int) → a'.tmps.getD 60 undef = .int .i64 (x : Int) → a'.tmps.getD 63 undef = .slice (some (dp nb r)) r.dl r.dl → w' = w → Q .normal a' w') :
    Code.wp Tryf.prog (sx (tk 5 (bx (sx (sy (bx (bx (sy (sx (tk 55 (Tryf.f6.body.getD .skip))))))))))) Q a w := by
  obtain ⟨f, hf, rfl⟩ := lit848 a hsz hd
  have e2 : f 2 = .slice ao2 n n := (hf 2).symm.trans h2
  have e3 : f 3 = .slice ao3 n n := (hf 3).symm.trans h3
  have e4 : f 4 = .slice ao4 n n := (hf 4).symm.trans h4
  have e5 : f 5 = .slice ao5 n n := (hf 5).symm.trans h5
  have e20 : f 20 = .int .i64 (start : Int) := (hf 20).symm.trans h20
  have e21 : f 21 = .slice (some ⟨og, 0, none⟩) n n := (hf 21).symm.trans h21
  have e22 : f 22 = .slice (some ⟨eg, 0, none⟩) n n := (hf 22).symm.trans h22
  have e26 : f 26 = .int .i64 (en_ : Int) := (hf 26).symm.trans h26
  have e27 : f 27 = .int .i64 (T : Int) := (hf 27).symm.trans h27
  have e39 : f 39 = .slice (some ⟨ob, 0, none⟩) T T := (hf 39).symm.trans h39
  have e41 : f 41 = .slice (some ⟨kg, 0, none⟩) m2 kcap := (hf 41).symm.trans h41
  have e43 : f 43 = .slice (some ⟨ng, 0, none⟩) m2 m2 := (hf 43).symm.trans h43
  have e44 : f 44 = .slice (some ⟨hg, 0, none⟩) m2 m2 := (hf 44).symm.trans h44
  have e50 : f 50 = .pointer (some ⟨s, 0, none⟩) := (hf 50).symm.trans h50
  have e52 : f 52 = .slice (some ⟨nb, 0, none⟩) T T := (hf 52).symm.trans h52
  have e58 : f 58 = .slice (some ⟨cg, 0, none⟩) T T := (hf 58).symm.trans h58
  have e59 : f 59 = .int .i64 (k : Int) := (hf 59).symm.trans h59
  have e60 : f 60 = .int .i64 (x : Int) := (hf 60).symm.trans h60
  have HQ : Hid (∀ a' w', a'.tmps.size = 848 → a'.defers = [] → a'.tmps.getD 2 undef = .slice ao2 n n → a'.tmps.getD 3 undef = .slice ao3 n n → a'.tmps.getD 4 undef = .slice ao4 n n → a'.tmps.getD 5 undef = .slice ao5 n n → a'.tmps.getD 20 undef = .int .i64 (start : Int) → a'.tmps.getD 21 undef = .slice (some ⟨og, 0, none⟩) n n → a'.tmps.getD 22 undef = .slice (some ⟨eg, 0, none⟩) n n → a'.tmps.getD 26 undef = .int .i64 (en_ : Int) → a'.tmps.getD 27 undef = .int .i64 (T : Int) → a'.tmps.getD 39 undef = .slice (some ⟨ob, 0, none⟩) T T → a'.tmps.getD 41 undef = .slice (some ⟨kg, 0, none⟩) m2 kcap → a'.tmps.getD 43 undef = .slice (some ⟨ng, 0, none⟩) m2 m2 → a'.tmps.getD 44 undef = .slice (some ⟨hg, 0, none⟩) m2 m2 → a'.tmps.getD 50 undef = .pointer (some ⟨s, 0, none⟩) → a'.tmps.getD 52 undef = .slice (some ⟨nb, 0, none⟩) T T → a'.tmps.getD 58 undef = .slice (some ⟨cg, 0, none⟩) T T → a'.tmps.getD 59 undef = .int .i64 (k : Int) → a'.tmps.getD 60 undef = .int .i64 (x : Int) → a'.tmps.getD 63 undef = .slice (some (dp nb r)) r.dl r.dl → w' = w → Q .normal a' w') := hQ
  rw [e2, e3, e4, e5, e20, e21, e22, e26, e27, e39, e41, e43, e44, e50, e52, e58, e59, e60]
  clear h2 e2 h3 e3 h4 e4 h5 e5 h20 e20 h21 e21 h22 e22 h26 e26 h27 e27 h39 e39 h41 e41 h43 e43 h44 e44 h50 e50 h52 e52 h58 e58 h59 e59 h60 e60 hf hsz hd hQ
  conv => arg 2; whnf
  have HRD : Hid (Calls Tryf.prog 32 #[.pointer (some ⟨s, 0, none⟩), .int .i64 (k : Int)] w fun e w' => e = .returned (.slice (some (dp nb r)) r.dl r.dl) ∧ w' = w) := hrd
  clear hrd
  go_wp2_with fail
  refine HRD.out.mono ?_
  rintro ev wq ⟨rfl, rfl⟩
  go_wp2_with fail
  exact HQ.out _ _ rfl rfl rfl rfl rfl rfl rfl rfl rfl rfl rfl rfl rfl rfl rfl rfl rfl rfl rfl rfl rfl rfl
set_option maxRecDepth 1000000 in
set_option maxHeartbeats 6400000 in
theorem pM6b (T ob kg m2 kcap ng hg s nb cg k : Nat) (ao2 ao3 ao4 ao5 : Option Addr) (og eg n start en_ : Nat) (x l b4 o4 : Nat) (r : Rec) (Q : Exit → Act → World → Prop) (a : Act) (w : World) (hsz : a.tmps.size = 848) (hd : a.defers = [])
    (h2 : a.tmps.getD 2 undef = .slice ao2 n n) (h3 : a.tmps.getD 3 undef = .slice ao3 n n) (h4 : a.tmps.getD 4 undef = .slice ao4 n n) (h5 : a.tmps.getD 5 undef = .slice ao5 n n) (h20 : a.tmps.getD 20 undef = .int .i64 (start : Int)) (h21 : a.tmps.getD 21 undef = .slice (some ⟨og, 0, none⟩) n n) (h22 : a.tmps.getD 22 undef = .slice (some ⟨eg, 0, none⟩) n n) (h26 : a.tmps.getD 26 undef = .int .i64 (en_ : Int)) (h27 : a.tmps.getD 27 undef = .int .i64 (T : Int)) (h39 : a.tmps.getD 39 undef = .slice (some ⟨ob, 0, none⟩) T T) (h41 : a.tmps.getD 41 undef = .slice (some ⟨kg, 0, none⟩) m2 kcap) (h43 : a.tmps.getD 43 undef = .slice (some ⟨ng, 0, none⟩) m2 m2) (h44 : a.tmps.getD 44 undef = .slice (some ⟨hg, 0, none⟩) m2 m2) (h50 : a.tmps.getD 50 undef = .pointer (some ⟨s, 0, none⟩)) (h52 : a.tmps.getD 52 undef = .slice (some ⟨nb, 0, none⟩) T T) (h58 : a.tmps.getD 58 undef = .slice (some ⟨cg, 0, none⟩) T T) (h59 : a.tmps.getD 59 undef = .int .i64 (k : Int)) (h60 : a.tmps.getD 60 undef = .int .i64 (x : Int)) (h63 : a.tmps.getD 63 undef = .slice (some (dp nb r)) r.dl r.dl)
    (hx : x < n) (hl : l < 256) (ha4 : ao4 = some ⟨b4, o4, none⟩) (q8 : w.cell? ⟨b4, o4 + x, none⟩ = some (.int .u8 (l : Int))) (hdl : r.dl = l)
    (hQ : ∀ a' w', a'.tmps.size = 848 → a'.defers = [] → a'.tmps.getD 2 undef = .slice ao2 n n → a'.tmps.getD 3 undef = .slice ao3 n n → a'.tmps.getD 4 undef = .slice ao4 n n → a'.tmps.getD 5 undef = .slice ao5 n n → a'.tmps.getD 20 undef = .int .i64 (start : Int) → a'.tmps.getD 21 undef = .slice (some ⟨og, 0, none⟩) n n → a'.tmps.getD 22 undef = .slice (some ⟨eg, 0, none⟩) n n → a'.tmps.getD 26 undef = .int .i64 (en_ : Int) → a'.tmps.getD 27 undef = .int .i64 (T : Int) → a'.tmps.getD 39 undef = .slice (some ⟨ob, 0, none⟩) T T → a'.tmps.getD 41 undef = .slice (some ⟨kg, 0, none⟩) m2 kcap → a'.tmps.getD 43 undef = .slice (some ⟨ng, 0, none⟩) m2 m2 → a'.tmps.getD 44 undef = .slice (some ⟨hg, 0, none⟩) m2 m2 → a'.tmps.getD 50 undef = .pointer (some ⟨s, 0, none⟩) → a'.tmps.getD 52 undef = .slice (some ⟨nb, 0, none⟩) T T → a'.tmps.getD 58 undef = .slice (some ⟨cg, 0, none⟩) T T → a'.tmps.getD 59 undef = .int .i64 (k : Int) → a'.tmps.getD 60 undef = .int .i64 (x : Int) → a'.tmps.getD 63 undef = .slice (some (dp nb r)) r.dl r.dl → w' = w → Q .normal a' w') :
    Code.wp Tryf.prog (sx (tk 6 (bx (sx (sy (bx (bx (sy (sx (tk 55 (Tryf.f6.body.getD .skip))))))))))) Q a w := by
  obtain ⟨f, hf, rfl⟩ := lit848 a hsz hd
  have e2 : f 2 = .slice ao2 n n := (hf 2).symm.trans h2
  have e3 : f 3 = .slice ao3 n n := (hf 3).symm.trans h3
  have e4 : f 4 = .slice ao4 n n := (hf 4).symm.trans h4
  have e5 : f 5 = .slice ao5 n n := (hf 5).symm.trans h5
  have e20 : f 20 = .int .i64 (start : Int) := (hf 20).symm.trans h20
  have e21 : f 21 = .slice (some ⟨og, 0, none⟩) n n := (hf 21).symm.trans h21
  have e22 : f 22 = .slice (some ⟨eg, 0, none⟩) n n := (hf 22).symm.trans h22
  have e26 : f 26 = .int .i64 (en_ : Int) := (hf 26).symm.trans h26
  have e27 : f 27 = .int .i64 (T : Int) := (hf 27).symm.trans h27
  have e39 : f 39 = .slice (some ⟨ob, 0, none⟩) T T := (hf 39).symm.trans h39
  have e41 : f 41 = .slice (some ⟨kg, 0, none⟩) m2 kcap := (hf 41).symm.trans h41
  have e43 : f 43 = .slice (some ⟨ng, 0, none⟩) m2 m2 := (hf 43).symm.trans h43
  have e44 : f 44 = .slice (some ⟨hg, 0, none⟩) m2 m2 := (hf 44).symm.trans h44
  have e50 : f 50 = .pointer (some ⟨s, 0, none⟩) := (hf 50).symm.trans h50
  have e52 : f 52 = .slice (some ⟨nb, 0, none⟩) T T := (hf 52).symm.trans h52
  have e58 : f 58 = .slice (some ⟨cg, 0, none⟩) T T := (hf 58).symm.trans h58
  have e59 : f 59 = .int .i64 (k : Int) := (hf 59).symm.trans h59
  have e60 : f 60 = .int .i64 (x : Int) := (hf 60).symm.trans h60
  have e63 : f 63 = .slice (some (dp nb r)) r.dl r.dl := (hf 63).symm.trans h63
  have HQ : Hid (∀ a' w', a'.tmps.size = 848 → a'.defers = [] → a'.tmps.getD 2 undef = .slice ao2 n n → a'.tmps.getD 3 undef = .slice ao3 n n → a'.tmps.getD 4 undef = .slice ao4 n n → a'.tmps.getD 5 undef = .slice ao5 n n → a'.tmps.getD 20 undef = .int .i64 (start : Int) → a'.tmps.getD 21 undef = .slice (some ⟨og, 0, none⟩) n n → a'.tmps.getD 22 undef = .slice (some ⟨eg, 0, none⟩) n n → a'.tmps.getD 26 undef = .int .i64 (en_ : Int) → a'.tmps.getD 27 undef = .int .i64 (T : Int) → a'.tmps.getD 39 undef = .slice (some ⟨ob, 0, none⟩) T T → a'.tmps.getD 41 undef = .slice (some ⟨kg, 0, none⟩) m2 kcap → a'.tmps.getD 43 undef = .slice (some ⟨ng, 0, none⟩) m2 m2 → a'.tmps.getD 44 undef = .slice (some ⟨hg, 0, none⟩) m2 m2 → a'.tmps.getD 50 undef = .pointer (some ⟨s, 0, none⟩) → a'.tmps.getD 52 undef = .slice (some ⟨nb, 0, none⟩) T T → a'.tmps.getD 58 undef = .slice (some ⟨cg, 0, none⟩) T T → a'.tmps.getD 59 undef = .int .i64 (k : Int) → a'.tmps.getD 60 undef = .int .i64 (x : Int) → a'.tmps.getD 63 undef = .slice (some (dp nb r)) r.dl r.dl → w' = w → Q .normal a' w') := hQ
  rw [e2, e3, e4, e5, e20, e21, e22, e26, e27, e39, e41, e43, e44, e50, e52, e58, e59, e60, e63]
  clear h2 e2 h3 e3 h4 e4 h5 e5 h20 e20 h21 e21 h22 e22 h26 e26 h27 e27 h39 e39 h41 e41 h43 e43 h44 e44 h50 e50 h52 e52 h58 e58 h59 e59 h60 e60 h63 e63 hf hsz hd hQ
  conv => arg 2; whnf
  have hiy4 := index22 (c := n) hx ha4
  have hwl : IntKind.i64.wrap (l : Int) = (l : Int) := by rw [IntKind.wrap_i64]; omega
  rw [hdl] at HQ ⊢
  clear ha4 hdl
  go_wp2_with fail
  exact HQ.out _ _ rfl rfl rfl rfl rfl rfl rfl rfl rfl rfl rfl rfl rfl rfl rfl rfl rfl rfl rfl rfl rfl rfl
set_option maxRecDepth 1000000 in
set_option maxHeartbeats 6400000 in
theorem pM7 (T ob kg m2 kcap ng hg s nb cg k : Nat) (ao2 ao3 ao4 ao5 : Option Addr) (og eg n start en_ : Nat) (x l e of en b4 o4 : Nat) (r : Rec) (OB NB : Nat → Int) (Q : Exit → Act → World → Prop) (a : Act) (w : World) (hsz : a.tmps.size = 848) (hd : a.defers = [])
    (h2 : a.tmps.getD 2 undef = .slice ao2 n n) (h3 : a.tmps.getD 3 undef = .slice ao3 n n) (h4 : a.tmps.getD 4 undef = .slice ao4 n n) (h5 : a.tmps.getD 5 undef = .slice ao5 n n) (h20 : a.tmps.getD 20 undef = .int .i64 (start : Int)) (h21 : a.tmps.getD 21 undef = .slice (some ⟨og, 0, none⟩) n n) (h22 : a.tmps.getD 22 undef = .slice (some ⟨eg, 0, none⟩) n n) (h26 : a.tmps.getD 26 undef = .int .i64 (en_ : Int)) (h27 : a.tmps.getD 27 undef = .int .i64 (T : Int)) (h39 : a.tmps.getD 39 undef = .slice (some ⟨ob, 0, none⟩) T T) (h41 : a.tmps.getD 41 undef = .slice (some ⟨kg, 0, none⟩) m2 kcap) (h43 : a.tmps.getD 43 undef = .slice (some ⟨ng, 0, none⟩) m2 m2) (h44 : a.tmps.getD 44 undef = .slice (some ⟨hg, 0, none⟩) m2 m2) (h50 : a.tmps.getD 50 undef = .pointer (some ⟨s, 0, none⟩)) (h52 : a.tmps.getD 52 undef = .slice (some ⟨nb, 0, none⟩) T T) (h58 : a.tmps.getD 58 undef = .slice (some ⟨cg, 0, none⟩) T T) (h59 : a.tmps.getD 59 undef = .int .i64 (k : Int)) (h60 : a.tmps.getD 60 undef = .int .i64 (x : Int)) (h63 : a.tmps.getD 63 undef = .slice (some (dp nb r)) r.dl r.dl)
    (hk : k < m2) (hx : x < n) (hl : l < 256) (ha4 : ao4 = some ⟨b4, o4, none⟩) (q3 : w.cell? ⟨hg, k, none⟩ = some (.int .i64 (e : Int))) (q5 : w.cell? ⟨eg, x, none⟩ = some (.int .i64 (en : Int))) (q8 : w.cell? ⟨b4, o4 + x, none⟩ = some (.int .u8 (l : Int))) (hre : r.en = e) (hrl : r.dl = l) (hle : l ≤ e) (hln : l ≤ en) (heT : e ≤ T) (henT : en ≤ T) (hT : T ≤ 2097152) (hold : w.rowIs ob 5 T (V .u8 OB)) (hnb : w.rowIs nb 5 T (V .u8 NB)) (hnv : ∀ j, j < l → NB (e - l + j) = OB (en - l + j))
    (hQ : ∀ a' w', a'.tmps.size = 848 → a'.defers = [] → a'.tmps.getD 2 undef = .slice ao2 n n → a'.tmps.getD 3 undef = .slice ao3 n n → a'.tmps.getD 4 undef = .slice ao4 n n → a'.tmps.getD 5 undef = .slice ao5 n n → a'.tmps.getD 20 undef = .int .i64 (start : Int) → a'.tmps.getD 21 undef = .slice (some ⟨og, 0, none⟩) n n → a'.tmps.getD 22 undef = .slice (some ⟨eg, 0, none⟩) n n → a'.tmps.getD 26 undef = .int .i64 (en_ : Int) → a'.tmps.getD 27 undef = .int .i64 (T : Int) → a'.tmps.getD 39 undef = .slice (some ⟨ob, 0, none⟩) T T → a'.tmps.getD 41 undef = .slice (some ⟨kg, 0, none⟩) m2 kcap → a'.tmps.getD 43 undef = .slice (some ⟨ng, 0, none⟩) m2 m2 → a'.tmps.getD 44 undef = .slice (some ⟨hg, 0, none⟩) m2 m2 → a'.tmps.getD 50 undef = .pointer (some ⟨s, 0, none⟩) → a'.tmps.getD 52 undef = .slice (some ⟨nb, 0, none⟩) T T → a'.tmps.getD 58 undef = .slice (some ⟨cg, 0, none⟩) T T → a'.tmps.getD 59 undef = .int .i64 (k : Int) → Below w.heap.size w w' → Q .normal a' w') :
    Code.wp Tryf.prog (tk 7 (bx (sx (sy (bx (bx (sy (sx (tk 55 (Tryf.f6.body.getD .skip)))))))))) Q a w := by
  obtain ⟨f, hf, rfl⟩ := lit848 a hsz hd
  have e2 : f 2 = .slice ao2 n n := (hf 2).symm.trans h2
  have e3 : f 3 = .slice ao3 n n := (hf 3).symm.trans h3
  have e4 : f 4 = .slice ao4 n n := (hf 4).symm.trans h4
  have e5 : f 5 = .slice ao5 n n := (hf 5).symm.trans h5
  have e20 : f 20 = .int .i64 (start : Int) := (hf 20).symm.trans h20
  have e21 : f 21 = .slice (some ⟨og, 0, none⟩) n n := (hf 21).symm.trans h21
  have e22 : f 22 = .slice (some ⟨eg, 0, none⟩) n n := (hf 22).symm.trans h22
  have e26 : f 26 = .int .i64 (en_ : Int) := (hf 26).symm.trans h26
  have e27 : f 27 = .int .i64 (T : Int) := (hf 27).symm.trans h27
  have e39 : f 39 = .slice (some ⟨ob, 0, none⟩) T T := (hf 39).symm.trans h39
  have e41 : f 41 = .slice (some ⟨kg, 0, none⟩) m2 kcap := (hf 41).symm.trans h41
  have e43 : f 43 = .slice (some ⟨ng, 0, none⟩) m2 m2 := (hf 43).symm.trans h43
  have e44 : f 44 = .slice (some ⟨hg, 0, none⟩) m2 m2 := (hf 44).symm.trans h44
  have e50 : f 50 = .pointer (some ⟨s, 0, none⟩) := (hf 50).symm.trans h50
  have e52 : f 52 = .slice (some ⟨nb, 0, none⟩) T T := (hf 52).symm.trans h52
  have e58 : f 58 = .slice (some ⟨cg, 0, none⟩) T T := (hf 58).symm.trans h58
  have e59 : f 59 = .int .i64 (k : Int) := (hf 59).symm.trans h59
  have e60 : f 60 = .int .i64 (x : Int) := (hf 60).symm.trans h60
  have e63 : f 63 = .slice (some (dp nb r)) r.dl r.dl := (hf 63).symm.trans h63
  have HQ : Hid (∀ a' w', a'.tmps.size = 848 → a'.defers = [] → a'.tmps.getD 2 undef = .slice ao2 n n → a'.tmps.getD 3 undef = .slice ao3 n n → a'.tmps.getD 4 undef = .slice ao4 n n → a'.tmps.getD 5 undef = .slice ao5 n n → a'.tmps.getD 20 undef = .int .i64 (start : Int) → a'.tmps.getD 21 undef = .slice (some ⟨og, 0, none⟩) n n → a'.tmps.getD 22 undef = .slice (some ⟨eg, 0, none⟩) n n → a'.tmps.getD 26 undef = .int .i64 (en_ : Int) → a'.tmps.getD 27 undef = .int .i64 (T : Int) → a'.tmps.getD 39 undef = .slice (some ⟨ob, 0, none⟩) T T → a'.tmps.getD 41 undef = .slice (some ⟨kg, 0, none⟩) m2 kcap → a'.tmps.getD 43 undef = .slice (some ⟨ng, 0, none⟩) m2 m2 → a'.tmps.getD 44 undef = .slice (some ⟨hg, 0, none⟩) m2 m2 → a'.tmps.getD 50 undef = .pointer (some ⟨s, 0, none⟩) → a'.tmps.getD 52 undef = .slice (some ⟨nb, 0, none⟩) T T → a'.tmps.getD 58 undef = .slice (some ⟨cg, 0, none⟩) T T → a'.tmps.getD 59 undef = .int .i64 (k : Int) → Below w.heap.size w w' → Q .normal a' w') := hQ
  rw [e2, e3, e4, e5, e20, e21, e22, e26, e27, e39, e41, e43, e44, e50, e52, e58, e59, e60, e63]
  clear h2 e2 h3 e3 h4 e4 h5 e5 h20 e20 h21 e21 h22 e22 h26 e26 h27 e27 h39 e39 h41 e41 h43 e43 h44 e44 h50 e50 h52 e52 h58 e58 h59 e59 h60 e60 h63 e63 hf hsz hd hQ
  conv => arg 2; whnf
  have hiy4 := index22 (c := n) hx ha4
  have hix3 := ix40 (g := hg) (c := m2) hk
  have hix5 := ix40 (g := eg) (c := n) hx
  have hwl : IntKind.i64.wrap (l : Int) = (l : Int) := by rw [IntKind.wrap_i64]; omega
  have HOLD : Hid (w.rowIs ob 5 T (V .u8 OB)) := hold
  have HNB : Hid (w.rowIs nb 5 T (V .u8 NB)) := hnb
  have HNV : Hid (∀ j, j < l → NB (e - l + j) = OB (en - l + j)) := hnv
  obtain ⟨pd, hpd⟩ : ∃ pd, pd = dp nb r := ⟨_, rfl⟩
  have HPD : Hid (0 < l → pd = ⟨nb, e - l, none⟩) := fun h => by rw [hpd, dp, if_neg (by omega), hre, hrl]
  have hbn := HNB.out.lt
  have hbo := HOLD.out.lt
  rw [← hpd, hrl]
  have HQ3 : Hid (w.cell? ⟨hg, k, none⟩ = some (.int .i64 (e : Int)) ∧ w.cell? ⟨eg, x, none⟩ = some (.int .i64 (en : Int)) ∧ w.cell? ⟨b4, o4 + x, none⟩ = some (.int .u8 (l : Int))) := ⟨q3, q5, q8⟩
  have hB3 : hg < w.heap.size := World.block_lt_of_cell? w _ q3
  have hB5 : eg < w.heap.size := World.block_lt_of_cell? w _ q5
  have hB8 : b4 < w.heap.size := World.block_lt_of_cell? w _ q8
  clear ha4 hold hnb hnv hpd hre hrl q3 q5 q8
  go_wp2_with fail
  go_loopw [64] (fun jv wv => ∃ j : Nat, j ≤ l ∧ jv = .int .i64 (j : Int) ∧ Below w.heap.size w wv) (fun jv _ => l - (intOf jv).toNat)
  case atStart => exact ⟨0, Nat.zero_le _, rfl, Below.refl _ _⟩
  case round =>
    obtain ⟨j, hj, rfl, hb⟩ := hrel
    have HB : Hid (Below w.heap.size w wr) := hb
    have q3 : wr.cell? ⟨hg, k, none⟩ = some (.int .i64 (e : Int)) := by rw [hb.cell (by exact hB3)]; exact HQ3.out.1
    have q5 : wr.cell? ⟨eg, x, none⟩ = some (.int .i64 (en : Int)) := by rw [hb.cell (by exact hB5)]; exact HQ3.out.2.1
    have q8 : wr.cell? ⟨b4, o4 + x, none⟩ = some (.int .u8 (l : Int)) := by rw [hb.cell (by exact hB8)]; exact HQ3.out.2.2
    clear hb
    by_cases hjl : j < l
    · have hji : (j : Int) < (l : Int) := by omega
      have hixd := index22 (c := l) hjl (show some pd = some ⟨nb, e - l, none⟩ by rw [HPD.out (by omega)])
      have hcst : (en : Int) - (l : Int) + (j : Int) = ((en - l + j : Nat) : Int) := by omega
      have hixo := ix22 (g := ob) (c := T) (show en - l + j < T by omega)
      rw [← hcst] at hixo
      have hcst2 : (e : Int) - (l : Int) + (j : Int) = ((e - l + j : Nat) : Int) := by omega
      have hixn := ix22 (g := nb) (c := T) (show e - l + j < T by omega)
      rw [← hcst2] at hixn
      have hw1 : IntKind.i64.wrap ((en : Int) - (l : Int)) = (en : Int) - (l : Int) := by rw [IntKind.wrap_i64]; omega
      have hw2 : IntKind.i64.wrap ((en : Int) - (l : Int) + (j : Int)) = (en : Int) - (l : Int) + (j : Int) := by rw [IntKind.wrap_i64]; omega
      have hw3 : IntKind.i64.wrap ((e : Int) - (l : Int)) = (e : Int) - (l : Int) := by rw [IntKind.wrap_i64]; omega
      have hw4 : IntKind.i64.wrap ((e : Int) - (l : Int) + (j : Int)) = (e : Int) - (l : Int) + (j : Int) := by rw [IntKind.wrap_i64]; omega
      have hc1 : wr.cell? ⟨nb, e - l + j, none⟩ = some (.int .u8 (OB (en - l + j))) := by
        rw [(HNB.out.of_block (HB.out.block nb hbn)).cell (by omega)]
        show some (Value.int .u8 (NB (e - l + j))) = _
        rw [HNV.out j hjl]
      have hc2 : wr.cell? ⟨ob, en - l + j, none⟩ = some (.int .u8 (OB (en - l + j))) := (HOLD.out.of_block (HB.out.block ob hbo)).cell (by omega)
      clear hcst hcst2
      go_wp2_with fail
      go_quiet (fail)
      go_wp2_with fail
      go_quiet (fail)
      go_wp2_with fail
      go_roundw
      case rel => exact ⟨j + 1, by omega, by go_num, ⟨HB.out.os, HB.out.tape, HB.out.output, HB.out.size, HB.out.block⟩⟩
      case measure => simp [intOf]; omega
    · have hjd : decide ((j : Int) < (l : Int)) = false := by simp; omega
      go_wp2_with fail
      exact HQ.out _ _ rfl rfl rfl rfl rfl rfl rfl rfl rfl rfl rfl rfl rfl rfl rfl rfl rfl rfl rfl HB.out
end Go.Proofs.Qxb6003952aFmt
