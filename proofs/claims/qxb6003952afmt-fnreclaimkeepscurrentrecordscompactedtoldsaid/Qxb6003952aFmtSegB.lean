/- The law's own function: the arguments are copied. -/
import Derived.Test.Qxb6003952aFmtWalkO
namespace Go.Proofs.Qxb6003952aFmt
open Go.RowKit Go.Extern.Stop Go.Stop Go.Extern
set_option linter.unusedVariables false

theorem Srd.below {q : IntKind} {w w' : World} {ao : Option Addr} {n c : Nat} {X : Nat → Int} (h : Srd q w ao n c X) (hb : Below w.heap.size w w') : Srd q w' ao n c X := by
  rcases h with h | ⟨x, rfl, hc⟩
  · exact .inl h
  · exact .inr ⟨x, rfl, fun i hi => by
      have h1 := hc i hi
      have h2 : (x.add i).block < w.heap.size := World.block_lt_of_cell? w _ h1
      rw [World.cell?_of_block (hb.block _ h2)]; exact h1⟩
theorem row_lt {q : IntKind} {t : Nat} {w : World} {ao : Option Addr} {b n : Nat} {X : Nat → Int} (h : Row' q t w ao b n X) : b < w.heap.size ∨ n = 0 := by
  rcases h with h | ⟨_, hr⟩
  · exact .inr h
  · exact .inl hr.lt
theorem below_up {B : Nat} {w w' w'' : World} (h : Below B w w') (hB : B ≤ w'.heap.size) (h2 : Below w'.heap.size w' w'') : Below B w w'' := h.trans (h2.mono hB)
set_option maxRecDepth 1000000 in
set_option maxHeartbeats 6400000 in
theorem segB (p0 p1 p2 p3 p4 p5 : Option Addr) (c0 c1 c2 c3 c4 c5 n start post slack : Nat) (vid size : Int) (PX PY I S : Nat → Int) (L : Nat → Nat) (A : Nat → Int) (Q : Exit → Act → World → Prop) (a : Act) (w : World) (hsz : a.tmps.size = 848) (hd : a.defers = [])
    (h0 : a.tmps.getD 0 undef = .slice p0 start c0) (h1 : a.tmps.getD 1 undef = .slice p1 post c1) (h2 : a.tmps.getD 2 undef = .slice p2 n c2) (h3 : a.tmps.getD 3 undef = .slice p3 n c3) (h4 : a.tmps.getD 4 undef = .slice p4 n c4) (h5 : a.tmps.getD 5 undef = .slice p5 n c5) (h6 : a.tmps.getD 6 undef = .int .u16 (slack : Int)) (h7 : a.tmps.getD 7 undef = .int .u8 vid) (h8 : a.tmps.getD 8 undef = .int .i64 size)
    (hs0 : Srd .u8 w p0 start c0 PX) (hs1 : Srd .u8 w p1 post c1 PY) (hs2 : Srd .u8 w p2 n c2 I) (hs3 : Srd .u8 w p3 n c3 S) (hs4 : Srd .u8 w p4 n c4 fun i => (L i : Int)) (hs5 : Srd .u32 w p5 n c5 A) (hn : n ≤ 4096) (hst : start ≤ 65536) (hpo : post ≤ 65536)
    (hQ : ∀ (ao0 ao1 ao2 ao3 ao4 ao5 : Option Addr) (B og eg : Nat) (a' : Act) (w' : World), a'.tmps.size = 848 → a'.defers = [] → a'.tmps.getD 0 undef = .slice ao0 start start → a'.tmps.getD 1 undef = .slice ao1 post post → a'.tmps.getD 2 undef = .slice ao2 n n → a'.tmps.getD 3 undef = .slice ao3 n n → a'.tmps.getD 4 undef = .slice ao4 n n → a'.tmps.getD 5 undef = .slice ao5 n n → a'.tmps.getD 6 undef = .int .u16 (slack : Int) → a'.tmps.getD 7 undef = .int .u8 vid → a'.tmps.getD 8 undef = .int .i64 size → a'.tmps.getD 19 undef = .int .i64 (n : Int) → a'.tmps.getD 20 undef = .int .i64 (start : Int) → a'.tmps.getD 21 undef = .slice (some ⟨og, 0, none⟩) n n → a'.tmps.getD 22 undef = .slice (some ⟨eg, 0, none⟩) n n → a'.tmps.getD 23 undef = .int .i64 (start : Int) → w.heap.size ≤ B → B ≤ og → og < eg → eg < w'.heap.size → DatB B .u8 w' ao0 start PX → DatB B .u8 w' ao1 post PY → DatB B .u8 w' ao2 n I → DatB B .u8 w' ao3 n S → DatB B .u8 w' ao4 n (fun i => (L i : Int)) → DatB B .u32 w' ao5 n A → (w'.rowIs og 3 n fun _ => .int .i64 0) → (w'.rowIs eg 3 n fun _ => .int .i64 0) → Below w.heap.size w w' → Code.wp Tryf.prog (tk 17 (Tryf.f6.body.getD .skip)) Q a' w') :
    Code.wp Tryf.prog (tk 6 (Tryf.f6.body.getD .skip)) Q a w := by
  obtain ⟨f, hf, rfl⟩ := lit848 a hsz hd
  have e0 : f 0 = .slice p0 start c0 := (hf 0).symm.trans h0
  have e1 : f 1 = .slice p1 post c1 := (hf 1).symm.trans h1
  have e2 : f 2 = .slice p2 n c2 := (hf 2).symm.trans h2
  have e3 : f 3 = .slice p3 n c3 := (hf 3).symm.trans h3
  have e4 : f 4 = .slice p4 n c4 := (hf 4).symm.trans h4
  have e5 : f 5 = .slice p5 n c5 := (hf 5).symm.trans h5
  have e6 : f 6 = .int .u16 (slack : Int) := (hf 6).symm.trans h6
  have e7 : f 7 = .int .u8 vid := (hf 7).symm.trans h7
  have e8 : f 8 = .int .i64 size := (hf 8).symm.trans h8
  have HQ : Hid (∀ (ao0 ao1 ao2 ao3 ao4 ao5 : Option Addr) (B og eg : Nat) (a' : Act) (w' : World), a'.tmps.size = 848 → a'.defers = [] → a'.tmps.getD 0 undef = .slice ao0 start start → a'.tmps.getD 1 undef = .slice ao1 post post → a'.tmps.getD 2 undef = .slice ao2 n n → a'.tmps.getD 3 undef = .slice ao3 n n → a'.tmps.getD 4 undef = .slice ao4 n n → a'.tmps.getD 5 undef = .slice ao5 n n → a'.tmps.getD 6 undef = .int .u16 (slack : Int) → a'.tmps.getD 7 undef = .int .u8 vid → a'.tmps.getD 8 undef = .int .i64 size → a'.tmps.getD 19 undef = .int .i64 (n : Int) → a'.tmps.getD 20 undef = .int .i64 (start : Int) → a'.tmps.getD 21 undef = .slice (some ⟨og, 0, none⟩) n n → a'.tmps.getD 22 undef = .slice (some ⟨eg, 0, none⟩) n n → a'.tmps.getD 23 undef = .int .i64 (start : Int) → w.heap.size ≤ B → B ≤ og → og < eg → eg < w'.heap.size → DatB B .u8 w' ao0 start PX → DatB B .u8 w' ao1 post PY → DatB B .u8 w' ao2 n I → DatB B .u8 w' ao3 n S → DatB B .u8 w' ao4 n (fun i => (L i : Int)) → DatB B .u32 w' ao5 n A → (w'.rowIs og 3 n fun _ => .int .i64 0) → (w'.rowIs eg 3 n fun _ => .int .i64 0) → Below w.heap.size w w' → Code.wp Tryf.prog (tk 17 (Tryf.f6.body.getD .skip)) Q a' w') := hQ
  rw [e0, e1, e2, e3, e4, e5, e6, e7, e8]
  clear h0 e0 h1 e1 h2 e2 h3 e3 h4 e4 h5 e5 h6 e6 h7 e7 h8 e8 hf hsz hd hQ
  conv => arg 2; whnf
  have HS0 : Hid (Srd .u8 w p0 start c0 PX) := hs0
  have HS1 : Hid (Srd .u8 w p1 post c1 PY) := hs1
  have HS2 : Hid (Srd .u8 w p2 n c2 I) := hs2
  have HS3 : Hid (Srd .u8 w p3 n c3 S) := hs3
  have HS4 : Hid (Srd .u8 w p4 n c4 (fun i => (L i : Int))) := hs4
  have HS5 : Hid (Srd .u32 w p5 n c5 A) := hs5
  clear hs0 hs1 hs2 hs3 hs4 hs5
  have HB0 : Hid (Below w.heap.size w w) := Below.refl _ _
  go_wp2_with fail
  refine (clone_any p0 start c0 PX (by omega) w (HS0.out.below HB0.out)).mono ?_
  rintro e w1 ⟨ao0, rfl, hrow, hbel⟩
  have HR0 : Hid (Row' .u8 5 w1 ao0 w.heap.size start PX) := hrow
  have HC0 : Hid (Below w.heap.size w w1) := hbel
  have HB1 : Hid (Below w.heap.size w w1) := below_up HB0.out HB0.out.size hbel
  clear hrow hbel
  go_wp2_with fail
  refine (clone_any p1 post c1 PY (by omega) w1 (HS1.out.below HB1.out)).mono ?_
  rintro e w2 ⟨ao1, rfl, hrow, hbel⟩
  have HR1 : Hid (Row' .u8 5 w2 ao1 w1.heap.size post PY) := hrow
  have HC1 : Hid (Below w1.heap.size w1 w2) := hbel
  have HB2 : Hid (Below w.heap.size w w2) := below_up HB1.out HB1.out.size hbel
  clear hrow hbel
  go_wp2_with fail
  refine (clone_any p2 n c2 I (by omega) w2 (HS2.out.below HB2.out)).mono ?_
  rintro e w3 ⟨ao2, rfl, hrow, hbel⟩
  have HR2 : Hid (Row' .u8 5 w3 ao2 w2.heap.size n I) := hrow
  have HC2 : Hid (Below w2.heap.size w2 w3) := hbel
  have HB3 : Hid (Below w.heap.size w w3) := below_up HB2.out HB2.out.size hbel
  clear hrow hbel
  go_wp2_with fail
  refine (clone_any p3 n c3 S (by omega) w3 (HS3.out.below HB3.out)).mono ?_
  rintro e w4 ⟨ao3, rfl, hrow, hbel⟩
  have HR3 : Hid (Row' .u8 5 w4 ao3 w3.heap.size n S) := hrow
  have HC3 : Hid (Below w3.heap.size w3 w4) := hbel
  have HB4 : Hid (Below w.heap.size w w4) := below_up HB3.out HB3.out.size hbel
  clear hrow hbel
  go_wp2_with fail
  refine (clone_any p4 n c4 (fun i => (L i : Int)) (by omega) w4 (HS4.out.below HB4.out)).mono ?_
  rintro e w5 ⟨ao4, rfl, hrow, hbel⟩
  have HR4 : Hid (Row' .u8 5 w5 ao4 w4.heap.size n (fun i => (L i : Int))) := hrow
  have HC4 : Hid (Below w4.heap.size w4 w5) := hbel
  have HB5 : Hid (Below w.heap.size w w5) := below_up HB4.out HB4.out.size hbel
  clear hrow hbel
  go_wp2_with fail
  refine (clone32_any p5 n c5 A (by omega) w5 (HS5.out.below HB5.out)).mono ?_
  rintro e w6 ⟨ao5, rfl, hrow, hbel⟩
  have HR5 : Hid (Row' .u32 44 w6 ao5 w5.heap.size n A) := hrow
  have HC5 : Hid (Below w5.heap.size w5 w6) := hbel
  have HB6 : Hid (Below w.heap.size w w6) := below_up HB5.out HB5.out.size hbel
  clear hrow hbel
  have hmk := run_make_row' (P := Tryf.prog) 40 3 (.int .i64 0) 8 Tryf.underlying40 info3 rfl .i64 .i64 n (by omega) (by omega)
  go_upto_region 21 with fail
  rename_i K hK
  have HK : Hid (∀ (a : Act) (w : World), Code.wp Tryf.prog (tk 17 (Tryf.f6.body.getD .skip)) Q a w → K a w) := hK
  clear hK
  obtain ⟨W, hW⟩ : ∃ W, W = (w6.alloc (.cells (madeCells #[.int .i64 0] n) 3)).alloc (.cells (madeCells #[.int .i64 0] n) 3) := ⟨_, rfl⟩
  rw [← hW]
  have hg1 := World.grownBy_alloc w6 (.cells (madeCells #[.int .i64 0] n) 3) none
  have hg2 := World.grownBy_alloc (w6.alloc (.cells (madeCells #[.int .i64 0] n) 3)) (.cells (madeCells #[.int .i64 0] n) 3) none
  have hsz1 : (w6.alloc (.cells (madeCells #[.int .i64 0] n) 3)).heap.size = w6.heap.size + 1 := by simp
  have HO : Hid (W.rowIs w6.heap.size 3 n fun _ => .int .i64 0) := by rw [hW]; exact (World.rowIs_made w6 (.int .i64 0) n 3).alloc _
  have HE : Hid (W.rowIs (w6.heap.size + 1) 3 n fun _ => .int .i64 0) := by rw [hW, ← hsz1]; exact World.rowIs_made _ (.int .i64 0) n 3
  have HW6 : Hid (Below w6.heap.size w6 W) := by rw [hW]; exact ((Below.refl _ _).alloc (Nat.le_refl _) _).alloc (by simp) _
  have HWS : Hid (w6.heap.size + 1 < W.heap.size) := by rw [hW]; simp [Hid]
  clear hW hg1 hg2 hsz1 hmk
  go_wp2_with fail
  refine HK.out _ _ ?_
  have b5 := HC5.out
  have s6 := HC5.out.size
  have s5 := HC4.out.size
  have s4 := HC3.out.size
  have s3 := HC2.out.size
  have s2 := HC1.out.size
  have s1 := HC0.out.size
  have B5 : Below w5.heap.size w5 W := below_up HC5.out s6 HW6.out
  have B4 : Below w4.heap.size w4 W := below_up HC4.out s5 B5
  have B3 : Below w3.heap.size w3 W := below_up HC3.out s4 B4
  have B2 : Below w2.heap.size w2 W := below_up HC2.out s3 B3
  have B1 : Below w1.heap.size w1 W := below_up HC1.out s2 B2
  have B0 : Below w.heap.size w W := below_up HC0.out s1 B1
  have up : ∀ {q : IntKind} {t : Nat} {v : World} {ao : Option Addr} {b n : Nat} {X : Nat → Int}, Row' q t v ao b n X → Below v.heap.size v W → v.heap.size ≤ w6.heap.size → DatB w6.heap.size q W ao n X := fun h hb hs =>
    Dat.of_row' (h.keep hb) ((row_lt h).imp_left fun hh => by omega)
  refine HQ.out ao0 ao1 ao2 ao3 ao4 ao5 w6.heap.size w6.heap.size (w6.heap.size + 1) _ _ rfl rfl rfl rfl rfl rfl rfl rfl rfl rfl rfl rfl rfl rfl rfl rfl (by omega) (Nat.le_refl _) (Nat.lt_succ_self _) HWS.out (up HR0.out B1 (by omega)) (up HR1.out B2 (by omega)) (up HR2.out B3 (by omega)) (up HR3.out B4 (by omega)) (up HR4.out B5 (by omega)) (up HR5.out HW6.out (Nat.le_refl _)) HO.out HE.out B0
end Go.Proofs.Qxb6003952aFmt
