/- The law's own function: reclaim has refused. -/
import Derived.Test.Qxb6003952aFmtPlainA
import Derived.Test.Qxb6003952aFmtWalkT
namespace Go.Proofs.Qxb6003952aFmt
open Go.RowKit Go.Extern.Stop Go.Stop Go.Extern
set_option linter.unusedVariables false

set_option maxRecDepth 1000000 in
set_option maxHeartbeats 6400000 in
theorem segK (T bb zg m zcap ob s rg start free en_ : Nat) (p : Value) (OB : Nat → Int) (Z : List Rec) (R : Ending → World → Prop) (a : Act) (w : World) (hsz : a.tmps.size = 848) (hd : a.defers = [])
    (h20 : a.tmps.getD 20 undef = .int .i64 (start : Int)) (h25 : a.tmps.getD 25 undef = .int .i64 (free : Int)) (h26 : a.tmps.getD 26 undef = .int .i64 (en_ : Int)) (h27 : a.tmps.getD 27 undef = .int .i64 (T : Int)) (h28 : a.tmps.getD 28 undef = .slice (some ⟨bb, 0, none⟩) T T) (h37 : a.tmps.getD 37 undef = .slice (some ⟨zg, 0, none⟩) m zcap) (h39 : a.tmps.getD 39 undef = .slice (some ⟨ob, 0, none⟩) T T) (h50 : a.tmps.getD 50 undef = .pointer (some ⟨s, 0, none⟩)) (h51 : a.tmps.getD 51 undef = .iface 102 p) (h52 : a.tmps.getD 52 undef = .slice (some ⟨bb, 0, none⟩) T T)
    (hob : w.rowIs bb 5 T (V .u8 OB)) (hold : w.rowIs ob 5 T (V .u8 OB)) (hZl : Z.length = m) (hm : m ≤ 4096) (hz : ∀ i r, Z[i]? = some r → w.rangeAt zg (i * 22) (zc r)) (hZ : ∀ r ∈ Z, r.dl ≤ r.en ∧ r.en ≤ T) (hT : T ≤ 2097152) (hst : w.heap[s]? = some (.cells #[.slice (some ⟨bb, 0, none⟩) T T, .slice (some ⟨rg, 0, none⟩) m m, .int .i64 (start : Int), .int .i64 (free : Int), .int .i64 (en_ : Int)] 72 (0, 0))) (hup : RecUp w rg m m bb Z)
    (hR : ∀ w', Below w.heap.size w w' → R (.returned (.bool true)) w') :
    Code.wp Tryf.prog (tk 49 (Tryf.f6.body.getD .skip)) (bodyPost Tryf.prog Tryf.f6 R) a w := by
  obtain ⟨f, hf, rfl⟩ := lit848 a hsz hd
  have e20 : f 20 = .int .i64 (start : Int) := (hf 20).symm.trans h20
  have e25 : f 25 = .int .i64 (free : Int) := (hf 25).symm.trans h25
  have e26 : f 26 = .int .i64 (en_ : Int) := (hf 26).symm.trans h26
  have e27 : f 27 = .int .i64 (T : Int) := (hf 27).symm.trans h27
  have e28 : f 28 = .slice (some ⟨bb, 0, none⟩) T T := (hf 28).symm.trans h28
  have e37 : f 37 = .slice (some ⟨zg, 0, none⟩) m zcap := (hf 37).symm.trans h37
  have e39 : f 39 = .slice (some ⟨ob, 0, none⟩) T T := (hf 39).symm.trans h39
  have e50 : f 50 = .pointer (some ⟨s, 0, none⟩) := (hf 50).symm.trans h50
  have e51 : f 51 = .iface 102 p := (hf 51).symm.trans h51
  have e52 : f 52 = .slice (some ⟨bb, 0, none⟩) T T := (hf 52).symm.trans h52
  have HR : Hid (∀ w', Below w.heap.size w w' → R (.returned (.bool true)) w') := hR
  rw [e20, e25, e26, e27, e28, e37, e39, e50, e51, e52]
  clear h20 e20 h25 e25 h26 e26 h27 e27 h28 e28 h37 e37 h39 e39 h50 e50 h51 e51 h52 e52 hf hsz hd hR
  conv => arg 2; whnf
  have HOB : Hid (w.rowIs bb 5 T (V .u8 OB)) := hob
  have HOLD : Hid (w.rowIs ob 5 T (V .u8 OB)) := hold
  have HZL : Hid (Z.length = m) := hZl
  have HZ : Hid (∀ i r, Z[i]? = some r → w.rangeAt zg (i * 22) (zc r)) := hz
  have HZD : Hid (∀ r ∈ Z, r.dl ≤ r.en ∧ r.en ≤ T) := hZ
  have HST : Hid (w.heap[s]? = some (.cells #[.slice (some ⟨bb, 0, none⟩) T T, .slice (some ⟨rg, 0, none⟩) m m, .int .i64 (start : Int), .int .i64 (free : Int), .int .i64 (en_ : Int)] 72 (0, 0))) := hst
  have HUP : Hid (RecUp w rg m m bb Z) := hup
  clear hob hold hZl hz hZ hst hup
  go_wp2_with fail
  refine (equal_yes _ _ T T T OB w (by omega) (.inr ⟨bb, 0, rfl, fun i hi => by rw [Nat.zero_add]; exact HOB.out.cell hi⟩) (.inr ⟨ob, 0, rfl, fun i hi => by rw [Nat.zero_add]; exact HOLD.out.cell hi⟩)).mono ?_
  rintro e w4 ⟨rfl, hsame⟩
  obtain ⟨q, rfl⟩ := hsame
  go_wp2_with fail
  refine (zzFree s _ _ (cell_of_row (w.drewN q) s 3 _ _ _ HST.out)).mono ?_
  rintro e w5 ⟨rfl, rfl⟩
  go_wp2_with fail
  refine (zzCount s _ _ _ _ (cell_of_row (w.drewN q) s 1 _ _ _ HST.out)).mono ?_
  rintro e w5 ⟨rfl, rfl⟩
  go_wp2_with fail
  go_loopw [53] (fun iv wr => ∃ k : Nat, k ≤ m ∧ iv = .int .i64 (k : Int) ∧ Below w.heap.size w wr) (fun iv _ => m - (intOf iv).toNat)
  case atStart => exact ⟨0, Nat.zero_le _, rfl, ⟨rfl, rfl, rfl, Nat.le_refl _, fun _ _ => rfl⟩⟩
  case round =>
    obtain ⟨k, hk, rfl, hb⟩ := hrel
    have HB : Hid (Below w.heap.size w wr) := hb
    clear hb
    by_cases hlt : k < m
    · have hki : (k : Int) < (m : Int) := by omega
      obtain ⟨r, hrk⟩ : ∃ r, Z[k]? = some r := ⟨_, List.getElem?_eq_getElem (by rw [HZL.out]; exact hlt)⟩
      have hrng := HZ.out k r hrk
      have hzlt : zg < w.heap.size := World.block_lt_of_cell? w _ (hrng 0 _ rfl)
      have hrgr := HUP.out.2 k r hlt hrk
      have hrglt : rg < w.heap.size := World.block_lt_of_cell? w _ (hrgr 0 _ rfl)
      have hslt : s < w.heap.size := (Array.getElem?_eq_some_iff.1 HST.out).1
      have hrd := HZD.out r (List.mem_of_getElem? hrk)
      obtain ⟨hd1, hd2⟩ := hrd
      have HRG : Hid (∀ W : World, Below w.heap.size w W → W.rangeAt zg (k * 22) (zc r)) := fun W hW => range_below hrng hW hzlt
      have HRA : Hid (∀ W : World, Below w.heap.size w W → Calls Tryf.prog 31 #[.pointer (some ⟨s, 0, none⟩), .int .i64 (k : Int)] W fun e w' => e = .returned (.agg (zc r).toArray) ∧ Below W.heap.size W w') := fun W hW =>
        recAt s rg m m k r bb W (by rw [hW.cell (by exact hslt)]; exact cell_of_row w s 1 _ _ _ HST.out) hlt (range_below hrgr hW hrglt)
      have HRDT : Hid (∀ W : World, Below w.heap.size w W → Calls Tryf.prog 32 #[.pointer (some ⟨s, 0, none⟩), .int .i64 (k : Int)] W fun e w' => e = .returned (.slice (some (dp bb r)) r.dl r.dl) ∧ w' = W) := fun W hW =>
        recData s rg m m k r bb W (by rw [hW.cell (by exact hslt)]; exact cell_of_row w s 1 _ _ _ HST.out) hlt (range_below hrgr hW hrglt)
      have HBW : Hid (Below w.heap.size w wr.drew) := HB.out.drew
      obtain ⟨C0, hC0⟩ : ∃ C0 : List Value, C0 = zc r := ⟨_, rfl⟩
      have HC0 : Hid (C0 = zc r) := hC0
      have hC0s : C0.length = 22 := by rw [hC0]; rfl
      have heq : ∀ w, (Op.equalIn 10000 50 (.agg C0.toArray) (.agg C0.toArray)).run Tryf.prog w = .ok true w := fun w => by rw [hC0]; exact eq50 r w
      have hcz : wr.rangeAt zg (k * 22) C0 := by rw [hC0]; exact HRG.out wr HB.out
      have hix := index45 (g := zg) (c := zcap) hlt
      have hbs : w.heap.size ≤ wr.heap.size := HB.out.size
      have HRA2 : Hid (∀ W : World, Below w.heap.size w W → Calls Tryf.prog 31 #[.pointer (some ⟨s, 0, none⟩), .int .i64 (k : Int)] W fun e w' => e = .returned (.agg C0.toArray) ∧ Below W.heap.size W w') := by rw [hC0]; exact HRA.out
      clear hC0 hrk hrng hrgr
      go_upto_region 118 with fail
      have hu50 := Tryf.underlying50
      have hi50 : (Tryf.prog.info? 50).map (·.size) = some C0.length := by rw [hC0s]; exact info50
      have HI50 : Hid ((Tryf.prog.info? 50).map (·.size) = some C0.length) := hi50
      have HCZ : Hid (wr.rangeAt zg (k * 22) C0) := hcz
      clear hi50 hcz hu50
      refine wp_region_noPanic ?_
      refine wp_region_held_drew (S := fun w' => w'.rangeAt zg (k * 22) C0 ∧ w.heap.size ≤ w'.heap.size) (by kernel_rfl) ⟨HCZ.out, hbs⟩ (fun hHeld => ?_)
      have HHELD : Hid ((fun (w' : World) => w'.rangeAt zg (k * 22) C0 ∧ w.heap.size ≤ w'.heap.size) wr.drew) := hHeld
      clear hHeld
      refine wpAnyH_take (i := 0) (oi := { dst := some 567, op := Op.move (Operand.tmp 50), type := 52, pos := "laws_varstore_g1.go:155", after := #[], guard := none }) (v := .pointer (some ⟨s, 0, none⟩)) rfl (by kernel_rfl) (by kernel_rfl) (by kernel_rfl) (fun _ _ _ h => h) (Or.inl ⟨by rfl, fun w' hS => ?_⟩) HHELD.out ?_
      · go_simp
      simp only [Act.put, List.setIfInBounds_toArray, List.set_cons_zero, List.set_cons_succ]
      refine wpAnyH_take (i := 1) (oi := { dst := some 568, op := Op.move (Operand.tmp 53), type := 3, pos := "laws_varstore_g1.go:155", after := #[], guard := none }) (v := .int .i64 (k : Int)) rfl (by kernel_rfl) (by kernel_rfl) (by kernel_rfl) (fun _ _ _ h => h) (Or.inl ⟨by rfl, fun w' hS => ?_⟩) HHELD.out ?_
      · go_simp
      simp only [Act.put, List.setIfInBounds_toArray, List.set_cons_zero, List.set_cons_succ]
      refine wpAnyH_take (i := 3) (oi := { dst := some 570, op := Op.move (Operand.tmp 37), type := 45, pos := "laws_varstore_g1.go:155", after := #[], guard := none }) (v := .slice (some ⟨zg, 0, none⟩) m zcap) rfl (by kernel_rfl) (by kernel_rfl) (by kernel_rfl) (fun _ _ _ h => h) (Or.inl ⟨by rfl, fun w' hS => ?_⟩) HHELD.out ?_
      · go_simp
      simp only [Act.put, List.setIfInBounds_toArray, List.set_cons_zero, List.set_cons_succ]
      refine wpAnyH_take (i := 4) (oi := { dst := some 571, op := Op.move (Operand.tmp 53), type := 3, pos := "laws_varstore_g1.go:155", after := #[], guard := none }) (v := .int .i64 (k : Int)) rfl (by kernel_rfl) (by kernel_rfl) (by kernel_rfl) (fun _ _ _ h => h) (Or.inl ⟨by rfl, fun w' hS => ?_⟩) HHELD.out ?_
      · go_simp
      simp only [Act.put, List.setIfInBounds_toArray, List.set_cons_zero, List.set_cons_succ]
      refine wpAnyH_take (i := 5) (oi := { dst := some 572, op := Op.indexAddr 45 (Operand.tmp 570) (Operand.tmp 571), type := 0, pos := "laws_varstore_g1.go:155", after := #[{ on := 3, ground := Ground.data }, { on := 4, ground := Ground.data }], guard := none }) (v := .pointer (some ⟨zg, k * 22, none⟩)) rfl (by kernel_rfl) (by kernel_rfl) (by kernel_rfl) (fun _ _ _ h => h) (Or.inl ⟨by rfl, fun w' hS => ?_⟩) HHELD.out ?_
      · go_simp
      simp only [Act.put, List.setIfInBounds_toArray, List.set_cons_zero, List.set_cons_succ]
      refine wpAnyH_take (i := 6) (oi := { dst := some 573, op := Op.load 50 (Operand.tmp 572), type := 50, pos := "laws_varstore_g1.go:155", after := #[{ on := 5, ground := Ground.data }], guard := none }) (v := .agg C0.toArray) rfl (by kernel_rfl) (by kernel_rfl) (by kernel_rfl) (fun _ _ _ h => h) (yieldsIf_load_mid (by rfl) 50 (.tmp 572) rfl zg (k * 22) rfl C0 _ (fun w' hS => hS.1) Tryf.underlying50 rfl HI50.out) HHELD.out ?_
      simp only [Act.put, List.setIfInBounds_toArray, List.set_cons_zero, List.set_cons_succ]
      refine wpAnyH_ready (rs := [2]) (by kernel_rfl) (by simp) ?_
      refine AllReadyH.cons (o := { dst := some 569, op := Op.call { callee := Callee.value (Operand.func 31), args := #[Operand.tmp 567, Operand.tmp 568], argTypes := #[52, 3] }, type := 50, pos := "laws_varstore_g1.go:155", after := #[{ on := 0, ground := Ground.data }, { on := 1, ground := Ground.data }], guard := none }) rfl (fun KK hKK => ?_) AllReadyH.nil
      go_simp
      refine (HRA2.out _ HBW.out).mono ?_
      rintro e wq ⟨rfl, hbq⟩
      have HQ1 : Hid (wq.rangeAt zg (k * 22) C0 ∧ w.heap.size ≤ wq.heap.size) := ⟨range_below (w := wr.drew) HCZ.out hbq (by show zg < wr.heap.size; omega), Nat.le_trans hbs hbq.size⟩
      have HBQ : Hid (Below w.heap.size w wq) := HBW.out.trans (hbq.mono (by exact hbs))
      clear hbq
      go_wp2_with fail
      refine hKK.out _ _ HQ1.out (fun hHeld => ?_)
      clear hHeld hKK KK
      try simp only [Act.put, List.setIfInBounds_toArray, List.set_cons_zero, List.set_cons_succ]
      refine wpAnyH_take (i := 7) (oi := { dst := some 574, op := Op.binOp BinOp.neq 50 (Operand.tmp 569) (Operand.tmp 573) 50, type := 4, pos := "laws_varstore_g1.go:155", after := #[{ on := 2, ground := Ground.data }, { on := 6, ground := Ground.data }], guard := none }) (v := .bool false) rfl (by kernel_rfl) (by kernel_rfl) (by kernel_rfl) (fun _ _ _ h => h) (Or.inl ⟨by rfl, fun w' hS => ?_⟩) HQ1.out ?_
      · go_simp
      simp only [Act.put, List.setIfInBounds_toArray, List.set_cons_zero, List.set_cons_succ]
      refine wpAnyH_done (by kernel_rfl) ?_ _
      refine NoPanic.normal ?_
      have c21q : wq.cell? ⟨zg, k * 22 + 21, none⟩ = some (.int .i64 (r.dl : Int)) := HRG.out wq HBQ.out 21 _ rfl
      go_wp2_with fail
      refine (HRDT.out wq HBQ.out).mono ?_
      rintro e wq' ⟨rfl, rfl⟩
      go_wp2_with fail
      go_loopw [55] (fun jv wv => ∃ j : Nat, j ≤ r.dl ∧ jv = .int .i64 (j : Int) ∧ Below w.heap.size w wv) (fun jv _ => r.dl - (intOf jv).toNat)
      case atStart => exact ⟨0, Nat.zero_le _, rfl, HBQ.out⟩
      case round =>
        obtain ⟨j, hj, rfl, hbj⟩ := hrel
        have HBJ : Hid (Below w.heap.size w wr) := hbj
        clear hbj c21q
        by_cases hjl : j < r.dl
        · have hji : (j : Int) < (r.dl : Int) := by omega
          have hdp : some (dp bb r) = some ⟨bb, r.en - r.dl, none⟩ := by rw [dp, if_neg (by omega)]
          have hix1 := index22 (c := r.dl) hjl hdp
          have hcst : (r.en : Int) - (r.dl : Int) + (j : Int) = ((r.en - r.dl + j : Nat) : Int) := by omega
          have hix2 := ix22 (g := ob) (c := T) (show r.en - r.dl + j < T by omega)
          rw [← hcst] at hix2
          have hc1 : wr.cell? ⟨bb, r.en - r.dl + j, none⟩ = some (.int .u8 (OB (r.en - r.dl + j))) := (HOB.out.of_block (HBJ.out.block bb HOB.out.lt)).cell (by omega)
          have hc2 : wr.cell? ⟨ob, r.en - r.dl + j, none⟩ = some (.int .u8 (OB (r.en - r.dl + j))) := (HOLD.out.of_block (HBJ.out.block ob HOLD.out.lt)).cell (by omega)
          have hc3 : wr.cell? ⟨zg, k * 22 + 21, none⟩ = some (.int .i64 (r.dl : Int)) := HRG.out wr HBJ.out 21 _ rfl
          have hc4 : wr.cell? ⟨zg, k * 22 + 1, none⟩ = some (.int .i64 (r.en : Int)) := HRG.out wr HBJ.out 1 _ rfl
          have hw1 : IntKind.i64.wrap ((r.en : Int) - (r.dl : Int)) = (r.en : Int) - (r.dl : Int) := by rw [IntKind.wrap_i64]; omega
          have hw2 : IntKind.i64.wrap ((r.en : Int) - (r.dl : Int) + (j : Int)) = (r.en : Int) - (r.dl : Int) + (j : Int) := by rw [IntKind.wrap_i64]; omega
          clear hcst hdp
          go_wp2_with fail
          go_quiet (fail)
          go_wp2_with fail
          go_roundw
          case rel => exact ⟨j + 1, by omega, by go_num, ⟨HBJ.out.os, HBJ.out.tape, HBJ.out.output, HBJ.out.size, HBJ.out.block⟩⟩
          case measure => simp [intOf]; omega
        · have hjd : decide ((j : Int) < (r.dl : Int)) = false := by simp; omega
          go_wp2_with fail
          go_roundw
          case rel => exact ⟨k + 1, by omega, by go_num, HBJ.out⟩
          case measure => simp [intOf]; omega
    · have hkd : decide ((k : Int) < (m : Int)) = false := by simp; omega
      go_wp2_with fail
      exact HR.out _ HB.out
end Go.Proofs.Qxb6003952aFmt
