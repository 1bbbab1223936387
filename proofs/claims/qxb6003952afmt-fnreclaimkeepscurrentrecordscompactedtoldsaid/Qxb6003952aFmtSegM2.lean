/- The law's own function: the kept records: a record is fetched. -/
import Derived.Test.Qxb6003952aFmtWalkU
namespace Go.Proofs.Qxb6003952aFmt
open Go.RowKit Go.Extern.Stop Go.Stop Go.Extern
set_option linter.unusedVariables false

set_option maxRecDepth 1000000 in
set_option maxHeartbeats 6400000 in
theorem pM2 (T ob kg m2 kcap ng hg s nb cg k : Nat) (ao2 ao3 ao4 ao5 : Option Addr) (og eg n start en_ : Nat) (x : Nat) (C0 : List Value) (Q : Exit → Act → World → Prop) (a : Act) (w : World) (hsz : a.tmps.size = 848) (hd : a.defers = [])
    (h2 : a.tmps.getD 2 undef = .slice ao2 n n) (h3 : a.tmps.getD 3 undef = .slice ao3 n n) (h4 : a.tmps.getD 4 undef = .slice ao4 n n) (h5 : a.tmps.getD 5 undef = .slice ao5 n n) (h20 : a.tmps.getD 20 undef = .int .i64 (start : Int)) (h21 : a.tmps.getD 21 undef = .slice (some ⟨og, 0, none⟩) n n) (h22 : a.tmps.getD 22 undef = .slice (some ⟨eg, 0, none⟩) n n) (h26 : a.tmps.getD 26 undef = .int .i64 (en_ : Int)) (h27 : a.tmps.getD 27 undef = .int .i64 (T : Int)) (h39 : a.tmps.getD 39 undef = .slice (some ⟨ob, 0, none⟩) T T) (h41 : a.tmps.getD 41 undef = .slice (some ⟨kg, 0, none⟩) m2 kcap) (h43 : a.tmps.getD 43 undef = .slice (some ⟨ng, 0, none⟩) m2 m2) (h44 : a.tmps.getD 44 undef = .slice (some ⟨hg, 0, none⟩) m2 m2) (h50 : a.tmps.getD 50 undef = .pointer (some ⟨s, 0, none⟩)) (h52 : a.tmps.getD 52 undef = .slice (some ⟨nb, 0, none⟩) T T) (h58 : a.tmps.getD 58 undef = .slice (some ⟨cg, 0, none⟩) T T) (h59 : a.tmps.getD 59 undef = .int .i64 (k : Int))
    (hk : k < m2) (hck : w.cell? ⟨kg, k, none⟩ = some (.int .i64 (x : Int)))
    (hQ : ∀ a' w', a'.tmps.size = 848 → a'.defers = [] → a'.tmps.getD 2 undef = .slice ao2 n n → a'.tmps.getD 3 undef = .slice ao3 n n → a'.tmps.getD 4 undef = .slice ao4 n n → a'.tmps.getD 5 undef = .slice ao5 n n → a'.tmps.getD 20 undef = .int .i64 (start : Int) → a'.tmps.getD 21 undef = .slice (some ⟨og, 0, none⟩) n n → a'.tmps.getD 22 undef = .slice (some ⟨eg, 0, none⟩) n n → a'.tmps.getD 26 undef = .int .i64 (en_ : Int) → a'.tmps.getD 27 undef = .int .i64 (T : Int) → a'.tmps.getD 39 undef = .slice (some ⟨ob, 0, none⟩) T T → a'.tmps.getD 41 undef = .slice (some ⟨kg, 0, none⟩) m2 kcap → a'.tmps.getD 43 undef = .slice (some ⟨ng, 0, none⟩) m2 m2 → a'.tmps.getD 44 undef = .slice (some ⟨hg, 0, none⟩) m2 m2 → a'.tmps.getD 50 undef = .pointer (some ⟨s, 0, none⟩) → a'.tmps.getD 52 undef = .slice (some ⟨nb, 0, none⟩) T T → a'.tmps.getD 58 undef = .slice (some ⟨cg, 0, none⟩) T T → a'.tmps.getD 59 undef = .int .i64 (k : Int) → a'.tmps.getD 60 undef = .int .i64 (x : Int) → w' = w → Q .normal a' w') :
    Code.wp Tryf.prog (sx (bx (sx (sy (bx (bx (sy (sx (tk 55 (Tryf.f6.body.getD .skip)))))))))) Q a w := by
  obtain ⟨f, hf, rfl⟩ := lit848 a hsz hd
  have e2 : f 2 = .slice ao2 n n := (hf 2).symm.trans h2
  have e3 : f 3 = .slice ao3 n n := (hf 3).symm.trans h3
  have e4 : f 4 = .slice ao4 n n := (hf 4).symm.trans h4
  have e5 : f 5 = .slice ao5 n n := (hf 5).symm.trans h5
  have e20 : f 20 = .int .i64 (start : Int) := (hf 20).symm.trans h20
  have e21 : f 21 = .slice (some ⟨og, 0, none⟩) n n := (hf 21).symm.trans h21
  have e22 : f 22 = .slice (some ⟨eg, 0, none⟩) n n := (hf 22).symm.trans h22
  have e26 : f 26 = .int .i64 (en_ : Int) := (hf 26).symm.trans h26
  have e27 : f 27 = .int .i64 (T : Int) := (hf 27).symm.trans h27
  have e39 : f 39 = .slice (some ⟨ob, 0, none⟩) T T := (hf 39).symm.trans h39
  have e41 : f 41 = .slice (some ⟨kg, 0, none⟩) m2 kcap := (hf 41).symm.trans h41
  have e43 : f 43 = .slice (some ⟨ng, 0, none⟩) m2 m2 := (hf 43).symm.trans h43
  have e44 : f 44 = .slice (some ⟨hg, 0, none⟩) m2 m2 := (hf 44).symm.trans h44
  have e50 : f 50 = .pointer (some ⟨s, 0, none⟩) := (hf 50).symm.trans h50
  have e52 : f 52 = .slice (some ⟨nb, 0, none⟩) T T := (hf 52).symm.trans h52
  have e58 : f 58 = .slice (some ⟨cg, 0, none⟩) T T := (hf 58).symm.trans h58
  have e59 : f 59 = .int .i64 (k : Int) := (hf 59).symm.trans h59
  have HQ : Hid (∀ a' w', a'.tmps.size = 848 → a'.defers = [] → a'.tmps.getD 2 undef = .slice ao2 n n → a'.tmps.getD 3 undef = .slice ao3 n n → a'.tmps.getD 4 undef = .slice ao4 n n → a'.tmps.getD 5 undef = .slice ao5 n n → a'.tmps.getD 20 undef = .int .i64 (start : Int) → a'.tmps.getD 21 undef = .slice (some ⟨og, 0, none⟩) n n → a'.tmps.getD 22 undef = .slice (some ⟨eg, 0, none⟩) n n → a'.tmps.getD 26 undef = .int .i64 (en_ : Int) → a'.tmps.getD 27 undef = .int .i64 (T : Int) → a'.tmps.getD 39 undef = .slice (some ⟨ob, 0, none⟩) T T → a'.tmps.getD 41 undef = .slice (some ⟨kg, 0, none⟩) m2 kcap → a'.tmps.getD 43 undef = .slice (some ⟨ng, 0, none⟩) m2 m2 → a'.tmps.getD 44 undef = .slice (some ⟨hg, 0, none⟩) m2 m2 → a'.tmps.getD 50 undef = .pointer (some ⟨s, 0, none⟩) → a'.tmps.getD 52 undef = .slice (some ⟨nb, 0, none⟩) T T → a'.tmps.getD 58 undef = .slice (some ⟨cg, 0, none⟩) T T → a'.tmps.getD 59 undef = .int .i64 (k : Int) → a'.tmps.getD 60 undef = .int .i64 (x : Int) → w' = w → Q .normal a' w') := hQ
  rw [e2, e3, e4, e5, e20, e21, e22, e26, e27, e39, e41, e43, e44, e50, e52, e58, e59]
  clear h2 e2 h3 e3 h4 e4 h5 e5 h20 e20 h21 e21 h22 e22 h26 e26 h27 e27 h39 e39 h41 e41 h43 e43 h44 e44 h50 e50 h52 e52 h58 e58 h59 e59 hf hsz hd hQ
  conv => arg 2; whnf
  have hix1 := ix40 (g := kg) (c := kcap) hk
  go_wp2_with fail
  exact HQ.out _ _ rfl rfl rfl rfl rfl rfl rfl rfl rfl rfl rfl rfl rfl rfl rfl rfl rfl rfl rfl rfl rfl
set_option maxRecDepth 1000000 in
set_option maxHeartbeats 6400000 in
theorem pM2b (T ob kg m2 kcap ng hg s nb cg k : Nat) (ao2 ao3 ao4 ao5 : Option Addr) (og eg n start en_ : Nat) (x : Nat) (C0 : List Value) (Q : Exit → Act → World → Prop) (a : Act) (w : World) (hsz : a.tmps.size = 848) (hd : a.defers = [])
    (h2 : a.tmps.getD 2 undef = .slice ao2 n n) (h3 : a.tmps.getD 3 undef = .slice ao3 n n) (h4 : a.tmps.getD 4 undef = .slice ao4 n n) (h5 : a.tmps.getD 5 undef = .slice ao5 n n) (h20 : a.tmps.getD 20 undef = .int .i64 (start : Int)) (h21 : a.tmps.getD 21 undef = .slice (some ⟨og, 0, none⟩) n n) (h22 : a.tmps.getD 22 undef = .slice (some ⟨eg, 0, none⟩) n n) (h26 : a.tmps.getD 26 undef = .int .i64 (en_ : Int)) (h27 : a.tmps.getD 27 undef = .int .i64 (T : Int)) (h39 : a.tmps.getD 39 undef = .slice (some ⟨ob, 0, none⟩) T T) (h41 : a.tmps.getD 41 undef = .slice (some ⟨kg, 0, none⟩) m2 kcap) (h43 : a.tmps.getD 43 undef = .slice (some ⟨ng, 0, none⟩) m2 m2) (h44 : a.tmps.getD 44 undef = .slice (some ⟨hg, 0, none⟩) m2 m2) (h50 : a.tmps.getD 50 undef = .pointer (some ⟨s, 0, none⟩)) (h52 : a.tmps.getD 52 undef = .slice (some ⟨nb, 0, none⟩) T T) (h58 : a.tmps.getD 58 undef = .slice (some ⟨cg, 0, none⟩) T T) (h59 : a.tmps.getD 59 undef = .int .i64 (k : Int)) (h60 : a.tmps.getD 60 undef = .int .i64 (x : Int))
    (hC0s : C0.length = 22) (hone : C0.all (fun v => v.oneCell') = true) (hra : Calls Tryf.prog 31 #[.pointer (some ⟨s, 0, none⟩), .int .i64 (k : Int)] w fun e w' => e = .returned (.agg C0.toArray) ∧ Below w.heap.size w w')
    (hQ : ∀ a' w', a'.tmps.size = 848 → a'.defers = [] → a'.tmps.getD 2 undef = .slice ao2 n n → a'.tmps.getD 3 undef = .slice ao3 n n → a'.tmps.getD 4 undef = .slice ao4 n n → a'.tmps.getD 5 undef = .slice ao5 n n → a'.tmps.getD 20 undef = .int .i64 (start : Int) → a'.tmps.getD 21 undef = .slice (some ⟨og, 0, none⟩) n n → a'.tmps.getD 22 undef = .slice (some ⟨eg, 0, none⟩) n n → a'.tmps.getD 26 undef = .int .i64 (en_ : Int) → a'.tmps.getD 27 undef = .int .i64 (T : Int) → a'.tmps.getD 39 undef = .slice (some ⟨ob, 0, none⟩) T T → a'.tmps.getD 41 undef = .slice (some ⟨kg, 0, none⟩) m2 kcap → a'.tmps.getD 43 undef = .slice (some ⟨ng, 0, none⟩) m2 m2 → a'.tmps.getD 44 undef = .slice (some ⟨hg, 0, none⟩) m2 m2 → a'.tmps.getD 50 undef = .pointer (some ⟨s, 0, none⟩) → a'.tmps.getD 52 undef = .slice (some ⟨nb, 0, none⟩) T T → a'.tmps.getD 58 undef = .slice (some ⟨cg, 0, none⟩) T T → a'.tmps.getD 59 undef = .int .i64 (k : Int) → a'.tmps.getD 60 undef = .int .i64 (x : Int) → (∃ HH, a'.tmps.getD 61 undef = .pointer (some ⟨HH, 0, none⟩) ∧ HH < w'.heap.size ∧ w'.rangeAt HH 0 C0) → Below w.heap.size w w' → Q .normal a' w') :
    Code.wp Tryf.prog (sx (tk 1 (bx (sx (sy (bx (bx (sy (sx (tk 55 (Tryf.f6.body.getD .skip))))))))))) Q a w := by
  obtain ⟨f, hf, rfl⟩ := lit848 a hsz hd
  have e2 : f 2 = .slice ao2 n n := (hf 2).symm.trans h2
  have e3 : f 3 = .slice ao3 n n := (hf 3).symm.trans h3
  have e4 : f 4 = .slice ao4 n n := (hf 4).symm.trans h4
  have e5 : f 5 = .slice ao5 n n := (hf 5).symm.trans h5
  have e20 : f 20 = .int .i64 (start : Int) := (hf 20).symm.trans h20
  have e21 : f 21 = .slice (some ⟨og, 0, none⟩) n n := (hf 21).symm.trans h21
  have e22 : f 22 = .slice (some ⟨eg, 0, none⟩) n n := (hf 22).symm.trans h22
  have e26 : f 26 = .int .i64 (en_ : Int) := (hf 26).symm.trans h26
  have e27 : f 27 = .int .i64 (T : Int) := (hf 27).symm.trans h27
  have e39 : f 39 = .slice (some ⟨ob, 0, none⟩) T T := (hf 39).symm.trans h39
  have e41 : f 41 = .slice (some ⟨kg, 0, none⟩) m2 kcap := (hf 41).symm.trans h41
  have e43 : f 43 = .slice (some ⟨ng, 0, none⟩) m2 m2 := (hf 43).symm.trans h43
  have e44 : f 44 = .slice (some ⟨hg, 0, none⟩) m2 m2 := (hf 44).symm.trans h44
  have e50 : f 50 = .pointer (some ⟨s, 0, none⟩) := (hf 50).symm.trans h50
  have e52 : f 52 = .slice (some ⟨nb, 0, none⟩) T T := (hf 52).symm.trans h52
  have e58 : f 58 = .slice (some ⟨cg, 0, none⟩) T T := (hf 58).symm.trans h58
  have e59 : f 59 = .int .i64 (k : Int) := (hf 59).symm.trans h59
  have e60 : f 60 = .int .i64 (x : Int) := (hf 60).symm.trans h60
  have HQ : Hid (∀ a' w', a'.tmps.size = 848 → a'.defers = [] → a'.tmps.getD 2 undef = .slice ao2 n n → a'.tmps.getD 3 undef = .slice ao3 n n → a'.tmps.getD 4 undef = .slice ao4 n n → a'.tmps.getD 5 undef = .slice ao5 n n → a'.tmps.getD 20 undef = .int .i64 (start : Int) → a'.tmps.getD 21 undef = .slice (some ⟨og, 0, none⟩) n n → a'.tmps.getD 22 undef = .slice (some ⟨eg, 0, none⟩) n n → a'.tmps.getD 26 undef = .int .i64 (en_ : Int) → a'.tmps.getD 27 undef = .int .i64 (T : Int) → a'.tmps.getD 39 undef = .slice (some ⟨ob, 0, none⟩) T T → a'.tmps.getD 41 undef = .slice (some ⟨kg, 0, none⟩) m2 kcap → a'.tmps.getD 43 undef = .slice (some ⟨ng, 0, none⟩) m2 m2 → a'.tmps.getD 44 undef = .slice (some ⟨hg, 0, none⟩) m2 m2 → a'.tmps.getD 50 undef = .pointer (some ⟨s, 0, none⟩) → a'.tmps.getD 52 undef = .slice (some ⟨nb, 0, none⟩) T T → a'.tmps.getD 58 undef = .slice (some ⟨cg, 0, none⟩) T T → a'.tmps.getD 59 undef = .int .i64 (k : Int) → a'.tmps.getD 60 undef = .int .i64 (x : Int) → (∃ HH, a'.tmps.getD 61 undef = .pointer (some ⟨HH, 0, none⟩) ∧ HH < w'.heap.size ∧ w'.rangeAt HH 0 C0) → Below w.heap.size w w' → Q .normal a' w') := hQ
  rw [e2, e3, e4, e5, e20, e21, e22, e26, e27, e39, e41, e43, e44, e50, e52, e58, e59, e60]
  clear h2 e2 h3 e3 h4 e4 h5 e5 h20 e20 h21 e21 h22 e22 h26 e26 h27 e27 h39 e39 h41 e41 h43 e43 h44 e44 h50 e50 h52 e52 h58 e58 h59 e59 h60 e60 hf hsz hd hQ
  conv => arg 2; whnf
  have HRA : Hid (Calls Tryf.prog 31 #[.pointer (some ⟨s, 0, none⟩), .int .i64 (k : Int)] w fun e w' => e = .returned (.agg C0.toArray) ∧ Below w.heap.size w w') := hra
  have hst0 : ∀ (v : World) (c : Array Value), c.size = 22 → (storeCells ⟨v.heap.size, 0, none⟩ C0).run Tryf.prog (v.alloc (.cells c 50)) = .ok () (v.alloc (.cells C0.toArray 50)) := fun v c hc => by
    have := run_storeCells_new (P := Tryf.prog) v 50 c C0.toArray (by rw [info50]; simp [hC0s]) (by simp [hC0s, hc]) (all_oneCell_toArray (by simpa using hone))
    simpa using this
  clear hra hone
  go_wp2_with fail
  refine HRA.out.mono ?_
  rintro ev wq ⟨rfl, hbq⟩
  have HB : Hid (Below w.heap.size w wq) := hbq
  clear hbq
  go_wp2_with fail
  refine HQ.out _ _ rfl rfl rfl rfl rfl rfl rfl rfl rfl rfl rfl rfl rfl rfl rfl rfl rfl rfl rfl rfl ⟨wq.heap.size, rfl, by simp, ?_⟩ (HB.out.alloc HB.out.size _)
  intro j v hv
  rw [Nat.zero_add, cell_of_row _ _ _ _ _ _ (heap_alloc_last wq _)]
  simpa using hv
end Go.Proofs.Qxb6003952aFmt
