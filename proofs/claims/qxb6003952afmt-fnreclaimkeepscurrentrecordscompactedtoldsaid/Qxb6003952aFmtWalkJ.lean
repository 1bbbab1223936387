/- The walk of reclaim behind its first loop. -/
import Derived.Test.Qxb6003952aFmtWalkI
namespace Go.Proofs.Qxb6003952aFmt
open Go.RowKit Go.Extern.Stop Go.Stop Go.Extern
set_option linter.unusedVariables false

/-- An array, slot by slot. -/
theorem lits (t : Array Value) (n : Nat) (h : t.size = n) : t = ((List.range n).map fun i => t.getD i undef).toArray := by
  apply Array.ext_getElem?
  intro i
  by_cases hi : i < n
  · simp [hi, Array.getD, h]
  · rw [Array.getElem?_eq_none (by omega), Array.getElem?_eq_none (by simp; omega)]
set_option maxRecDepth 100000 in
theorem lit193 (a : Act) (hs : a.tmps.size = 193) (hd : a.defers = []) : ∃ f : Nat → Value, (∀ i, a.tmps.getD i undef = f i) ∧ a = ⟨#[f 0, f 1, f 2, f 3, f 4, f 5, f 6, f 7, f 8, f 9, f 10, f 11, f 12, f 13, f 14, f 15, f 16, f 17, f 18, f 19, f 20, f 21, f 22, f 23, f 24, f 25, f 26, f 27, f 28, f 29, f 30, f 31, f 32, f 33, f 34, f 35, f 36, f 37, f 38, f 39, f 40, f 41, f 42, f 43, f 44, f 45, f 46, f 47, f 48, f 49, f 50, f 51, f 52, f 53, f 54, f 55, f 56, f 57, f 58, f 59, f 60, f 61, f 62, f 63, f 64, f 65, f 66, f 67, f 68, f 69, f 70, f 71, f 72, f 73, f 74, f 75, f 76, f 77, f 78, f 79, f 80, f 81, f 82, f 83, f 84, f 85, f 86, f 87, f 88, f 89, f 90, f 91, f 92, f 93, f 94, f 95, f 96, f 97, f 98, f 99, f 100, f 101, f 102, f 103, f 104, f 105, f 106, f 107, f 108, f 109, f 110, f 111, f 112, f 113, f 114, f 115, f 116, f 117, f 118, f 119, f 120, f 121, f 122, f 123, f 124, f 125, f 126, f 127, f 128, f 129, f 130, f 131, f 132, f 133, f 134, f 135, f 136, f 137, f 138, f 139, f 140, f 141, f 142, f 143, f 144, f 145, f 146, f 147, f 148, f 149, f 150, f 151, f 152, f 153, f 154, f 155, f 156, f 157, f 158, f 159, f 160, f 161, f 162, f 163, f 164, f 165, f 166, f 167, f 168, f 169, f 170, f 171, f 172, f 173, f 174, f 175, f 176, f 177, f 178, f 179, f 180, f 181, f 182, f 183, f 184, f 185, f 186, f 187, f 188, f 189, f 190, f 191, f 192], []⟩ := by
  refine ⟨fun i => a.tmps.getD i undef, fun _ => rfl, ?_⟩
  obtain ⟨t, d⟩ := a
  dsimp only at hs hd ⊢
  subst hd
  congr 1
  exact lits t 193 hs

set_option maxRecDepth 100000 in
set_option maxHeartbeats 3200000 in
/-- The store is full. -/
theorem rest_no (F : Interp) (s fr en_ vb : Nat) (vc size : Int) (kv : Value) (R : Ending → World → Prop) (a : Act) (w : World) (hF : F.answers w.tape) (hsz : a.tmps.size = 193) (hd : a.defers = [])
    (h0 : a.tmps.getD 0 undef = .pointer (some ⟨s, 0, none⟩)) (h2 : a.tmps.getD 2 undef = .int .i64 size) (h4 : a.tmps.getD 4 undef = .pointer (some ⟨vb, 0, none⟩)) (h8 : a.tmps.getD 8 undef = .int .i64 (fr : Int))
    (hs4 : w.cell? ⟨s, 4, none⟩ = some (.int .i64 (en_ : Int))) (hv : w.cell? ⟨vb, 0, none⟩ = some (.string (nmOf vc))) (hfr : fr ≤ en_) (hen : en_ ≤ 4194304) (hbig : (en_ : Int) - (fr : Int) < size)
    (hR : ∀ p w', Below w.heap.size w w' → R (.returned (.iface 102 p)) w') :
    Code.wp Tryf.prog (tl 4 (Tryf.f36.body.getD .skip)) (bodyPost Tryf.prog Tryf.f36 R) a w := by
  obtain ⟨f, hf, rfl⟩ := lit193 a hsz hd
  have e0 : f 0 = .pointer (some ⟨s, 0, none⟩) := (hf 0).symm.trans h0
  have e2 : f 2 = .int .i64 size := (hf 2).symm.trans h2
  have e4 : f 4 = .pointer (some ⟨vb, 0, none⟩) := (hf 4).symm.trans h4
  have e8 : f 8 = .int .i64 (fr : Int) := (hf 8).symm.trans h8
  have HR : Hid (∀ p w', Below w.heap.size w w' → R (.returned (.iface 102 p)) w') := hR
  rw [e0, e2, e4, e8]
  clear h0 h2 h4 h8 hf hsz hd e0 e2 e4 e8 hR
  conv => arg 2; whnf
  go_wp2_with fail
  refine (Errorf_at w.heap.size (nmOf vc) size (max ((en_ : Int) - (fr : Int)) 0) F _ (by exact hF) (by go_simp) (by go_simp) (by go_simp)).mono ?_
  rintro e w' ⟨rfl, hb⟩
  have HB : Hid (Below w.heap.size w w') := ((Below.refl _ _).alloc (Nat.le_refl _) _).trans (hb.mono (by simp))
  clear hb
  go_wp2_with fail
  exact HR.out _ _ HB.out

/-- Where a slice that is cut at its head lies. -/
def cutAt (b o T : Nat) : Addr := if T = o then ⟨b, 0, none⟩ else ⟨b, o, none⟩
theorem slice_from (o T : Nat) (h : o ≤ T) (w' : World) (b : Nat) : (Instr.slice 22 (.slice (some ⟨b, 0, none⟩) T T) (some (.int .i64 (o : Int))) none none).run Tryf.prog w' = .ok (.slice (some (cutAt b o T)) (T - o) (T - o)) w' := by
  by_cases e : T = o
  · simp [Instr.slice, Instr.sliceBounds, Instr.sliceBound, run_underlying Tryf.underlying22, asIntOf, cutAt, e]
  · simp [Instr.slice, Instr.sliceBounds, Instr.sliceBound, run_underlying Tryf.underlying22, asIntOf, h, cutAt, e, Addr.add_lit]
set_option maxRecDepth 100000 in
set_option maxHeartbeats 3200000 in
/-- There is room: the new bytes are made, what lies outside the area goes over. -/
theorem rest_yes1 (s bb T start fr en_ : Nat) (size : Int) (OB : Nat → Int) (Q : Exit → Act → World → Prop) (a : Act) (w : World) (hsz : a.tmps.size = 193) (hd : a.defers = [])
    (h0 : a.tmps.getD 0 undef = .pointer (some ⟨s, 0, none⟩)) (h2 : a.tmps.getD 2 undef = .int .i64 size) (h8 : a.tmps.getD 8 undef = .int .i64 (fr : Int))
    (hs0 : w.cell? ⟨s, 0, none⟩ = some (.slice (some ⟨bb, 0, none⟩) T T)) (hs2 : w.cell? ⟨s, 2, none⟩ = some (.int .i64 (start : Int))) (hs4 : w.cell? ⟨s, 4, none⟩ = some (.int .i64 (en_ : Int)))
    (hob : w.rowIs bb 5 T (V .u8 OB)) (hfr : fr ≤ en_) (hse : start ≤ en_) (heT : en_ ≤ T) (hT : T ≤ 4194304) (hsmall : size ≤ (en_ : Int) - (fr : Int))
    (hQ : ∀ a' w', a'.tmps.size = 193 → a'.defers = [] → a'.tmps.getD 0 undef = .pointer (some ⟨s, 0, none⟩) → a'.tmps.getD 7 undef = a.tmps.getD 7 undef → a'.tmps.getD 12 undef = .slice (some ⟨w.heap.size, 0, none⟩) T T →
      w'.rowIs w.heap.size 5 T (V .u8 (over (over (fun _ => 0) 0 start OB) en_ (T - en_) fun i => OB (en_ + i))) → w.grownBy w' none → Code.wp Tryf.prog (tl 8 (Tryf.f36.body.getD .skip)) Q a' w') :
    Code.wp Tryf.prog (tl 4 (Tryf.f36.body.getD .skip)) Q a w := by
  obtain ⟨f, hf, rfl⟩ := lit193 a hsz hd
  have e0 : f 0 = .pointer (some ⟨s, 0, none⟩) := (hf 0).symm.trans h0
  have e2 : f 2 = .int .i64 size := (hf 2).symm.trans h2
  have e8 : f 8 = .int .i64 (fr : Int) := (hf 8).symm.trans h8
  have HQ := hQ
  have HQQ : Hid (∀ a' w', a'.tmps.size = 193 → a'.defers = [] → a'.tmps.getD 0 undef = .pointer (some ⟨s, 0, none⟩) → a'.tmps.getD 7 undef = f 7 → a'.tmps.getD 12 undef = .slice (some ⟨w.heap.size, 0, none⟩) T T →
      w'.rowIs w.heap.size 5 T (V .u8 (over (over (fun _ => 0) 0 start OB) en_ (T - en_) fun i => OB (en_ + i))) → w.grownBy w' none → Code.wp Tryf.prog (tl 8 (Tryf.f36.body.getD .skip)) Q a' w') := hQ
  have HOB : Hid (w.rowIs bb 5 T (V .u8 OB)) := hob
  have hnb : decide ((en_ : Int) - (fr : Int) < size) = false := by simp; omega
  have hmx : max ((en_ : Int) - (fr : Int)) 0 = (en_ : Int) - (fr : Int) := by omega
  have hmk := run_make_row' (P := Tryf.prog) 22 5 (.int .u8 0) 1 Tryf.underlying22 info5 rfl .i64 .i64 T (by omega) (by omega)
  rw [e0, e2, e8]
  clear h0 h2 h8 hf hsz hd e0 e2 e8 hQ HQ hob
  conv => arg 2; whnf
  go_wp2_with fail
  obtain ⟨W, hW⟩ : ∃ W, W = w.alloc (.cells (madeCells #[.int .u8 0] T) 5) := ⟨_, rfl⟩
  rw [← hW]
  have HROW : Hid (W.rowIs w.heap.size 5 T (V .u8 fun _ => 0)) := by rw [hW]; exact World.rowIs_made w (.int .u8 0) T 5
  have HGR : Hid (w.grownBy W none) := by rw [hW]; exact World.grownBy_alloc w _ none
  have hslt : s < w.heap.size := World.block_lt_of_cell? w _ hs0
  have hblt : bb < w.heap.size := HOB.out.lt
  have g0 : W.cell? ⟨s, 0, none⟩ = some (.slice (some ⟨bb, 0, none⟩) T T) := HGR.out.cell hs0 (by simp)
  have g2 : W.cell? ⟨s, 2, none⟩ = some (.int .i64 (start : Int)) := HGR.out.cell hs2 (by simp)
  have g4 : W.cell? ⟨s, 4, none⟩ = some (.int .i64 (en_ : Int)) := HGR.out.cell hs4 (by simp)
  have HSRC : Hid (W.rowIs bb 5 T (V .u8 OB)) := HOB.out.of_block (HGR.out.block _ hblt (by simp))
  have hsl : ∀ w', (Instr.slice 22 (.slice (some ⟨w.heap.size, 0, none⟩) T T) none (some (.int .i64 (start : Int))) none).run Tryf.prog w' = .ok (.slice (some ⟨w.heap.size, 0, none⟩) start T) w' := fun w' => by
    have hsT : start ≤ T := by omega
    simp [Instr.slice, Instr.sliceBounds, Instr.sliceBound, run_underlying Tryf.underlying22, asIntOf, hsT, Addr.add_lit]
  have hne : s ≠ w.heap.size := by omega
  clear hW hmk hs0 hs2 hs4
  go_region_held3 (fun w' => w'.cell? ⟨s, 0, none⟩ = some (.slice (some ⟨bb, 0, none⟩) T T) ∧ w'.cell? ⟨s, 2, none⟩ = some (.int .i64 (start : Int)) ∧ w'.cell? ⟨s, 4, none⟩ = some (.int .i64 (en_ : Int)))
    (first
      | (go_split_ands; simp only [World.cell?_drew]; refine ⟨?_, ?_, ?_⟩ <;> with_reducible assumption)
      | (go_split_ands
         refine ⟨?_, ?_, ?_⟩
         · (refine hgrow1.cell (by assumption) ?_; simpa using hne)
         · (refine hgrow1.cell (by assumption) ?_; simpa using hne)
         · (refine hgrow1.cell (by assumption) ?_; simpa using hne)))
    ((refine step_copy (by rfl) (.tmp 87) (.tmp 91) (by rfl) (some ⟨w.heap.size, 0, none⟩) (some ⟨bb, 0, none⟩) start T T T (by rfl) (by rfl) w.heap.size 0 T (fun _ => 0) OB (by exact HROW.out) start (by show start = min T start; omega) (fun h => ⟨rfl, _, rfl, fun j hj => by rw [Addr.add_lit, Nat.zero_add]; exact HSRC.out.cell (by omega)⟩) (by omega) ?_; intro w1 hrow1 hgrow1))
  have HG1 : Hid (w.grownBy w1 (some w.heap.size)) := ⟨hgrow1.os.trans HGR.out.os, hgrow1.tape.trans HGR.out.tape, hgrow1.output.trans HGR.out.output, Nat.le_trans HGR.out.size hgrow1.size, fun k hk hn => (hgrow1.block k (by have := HGR.out.size; show k < W.heap.size; omega) hn).trans (HGR.out.block k hk (by simp))⟩
  have HROW1 : Hid (w1.rowIs w.heap.size 5 T (V .u8 (over (fun _ => 0) 0 start OB))) := hrow1
  have k0 : w1.cell? ⟨s, 0, none⟩ = some (.slice (some ⟨bb, 0, none⟩) T T) := hgrow1.cell (by simpa using g0) (by simpa using hne)
  have k4 : w1.cell? ⟨s, 4, none⟩ = some (.int .i64 (en_ : Int)) := hgrow1.cell (by simpa using g4) (by simpa using hne)
  have HSRC1 : Hid (w1.rowIs bb 5 T (V .u8 OB)) := HOB.out.of_block (HG1.out.block _ hblt (by simp; omega))
  have hcut : ∀ (w' : World) (b : Nat), (Instr.slice 22 (.slice (some ⟨b, 0, none⟩) T T) (some (.int .i64 (en_ : Int))) none none).run Tryf.prog w' = .ok (.slice (some (cutAt b en_ T)) (T - en_) (T - en_)) w' := slice_from en_ T heT
  clear hrow1 hgrow1 g0 g2 g4 HROW HSRC hsl HGR
  go_wp2_with fail
  go_region_held3 (fun w' => w'.cell? ⟨s, 0, none⟩ = some (.slice (some ⟨bb, 0, none⟩) T T) ∧ w'.cell? ⟨s, 4, none⟩ = some (.int .i64 (en_ : Int)))
    (first
      | (go_split_ands; simp only [World.cell?_drew]; refine ⟨?_, ?_⟩ <;> with_reducible assumption)
      | (go_split_ands
         refine ⟨?_, ?_⟩
         · (refine hgrow2.cell (by assumption) ?_; simpa using hne)
         · (refine hgrow2.cell (by assumption) ?_; simpa using hne)))
    ((refine step_copy (by rfl) (.tmp 98) (.tmp 107) (by rfl) (some (cutAt w.heap.size en_ T)) (some (cutAt bb en_ T)) (T - en_) (T - en_) (T - en_) (T - en_) (by rfl) (by rfl) w.heap.size en_ T (over (fun _ => 0) 0 start OB) (fun i => OB (en_ + i)) (by exact HROW1.out) (T - en_) (by show T - en_ = min (T - en_) (T - en_); omega) (fun h => ⟨by rw [cutAt, if_neg (by omega)], ⟨bb, en_, none⟩, by rw [cutAt, if_neg (by omega)], fun j hj => by rw [Addr.add_lit]; exact HSRC1.out.cell (by omega)⟩) (by omega) ?_; intro w2 hrow2 hgrow2))
  have HG2 : w.grownBy w2 none := ⟨hgrow2.os.trans HG1.out.os, hgrow2.tape.trans HG1.out.tape, hgrow2.output.trans HG1.out.output, Nat.le_trans HG1.out.size hgrow2.size, fun k hk _ => (hgrow2.block k (by have := HG1.out.size; show k < w1.heap.size; omega) (by simp; omega)).trans (HG1.out.block k hk (by simp; omega))⟩
  rename_i K hK hHeldA
  exact hK _ _ (HQQ.out _ _ rfl rfl rfl rfl rfl hrow2 HG2)
end Go.Proofs.Qxb6003952aFmt
