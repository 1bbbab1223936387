/- The walks of ZZRecordAt, ZZRecordData. -/
import Derived.Test.Qxb6003952aFmtWalkD
import Derived.Deep.Cut
import Derived.Deep.CutRange
namespace Go.Proofs.Qxb6003952aFmt
open Go.RowKit Go.Extern.Stop Go.Stop Go.Extern
set_option linter.unusedVariables false

/-- The store into a block that is not the last. -/
theorem st_row (w : World) (g t : Nat) (old C : Array Value) (hg : w.heap[g]? = some (.cells old t (0, 0))) (ho : old.size = C.size) (h1 : ∀ v ∈ C.toList, v.oneCell' = true) :
    (storeCells ⟨g, 0, none⟩ C.toList).run Tryf.prog w = .ok () (w.setRow g C) := by
  have := run_storeCells_from (P := Tryf.prog) g t C.toList 0 old w hg (by simp [ho]) h1
  simpa using this
theorem heap_alloc2 (w : World) (o o' : Obj) : ((w.alloc o).alloc o').heap[w.heap.size]? = some o := by
  rw [show ((w.alloc o).alloc o').heap[w.heap.size]? = (w.alloc o).heap[w.heap.size]? from World.grownBy.block (World.grownBy_alloc _ o' none) _ (by simp) (by simp)]
  exact heap_alloc_last w o
theorem below_setRow {B : Nat} {w w' : World} (h : Below B w w') {g : Nat} (hg : B ≤ g) (C : Array Value) : Below B w (w'.setRow g C) := by
  refine h.trans ⟨rfl, rfl, rfl, by simp [World.setRow], fun k hk => ?_⟩
  simp only [World.setRow, Array.getElem?_modify]
  rw [if_neg (by omega)]

theorem recData (s rg n cap k : Nat) (r : Rec) (bb : Nat) (w : World) (hs : w.cell? ⟨s, 1, none⟩ = some (.slice (some ⟨rg, 0, none⟩) n cap)) (hk : k < n) (hr : w.rangeAt rg (k * 22) (rc r (dv bb r))) :
    Calls Tryf.prog 32 #[.pointer (some ⟨s, 0, none⟩), .int .i64 (k : Int)] w fun e w' => e = .returned (.slice (some (dp bb r)) r.dl r.dl) ∧ w' = w := by
  have hc : w.cell? ⟨rg, k * 22 + 21, none⟩ = some (.slice (some (dp bb r)) r.dl r.dl) := hr 21 _ rfl
  have hix := index65 (g := rg) (c := cap) hk
  have hi : (k : Int) < (n : Int) := by omega
  clear hr
  go_enter Tryf.func32, Tryf.ntmps32
  go_wp2_with fail
  go_ret
  exact ⟨rfl, rfl⟩

set_option maxRecDepth 100000 in
set_option maxHeartbeats 1600000 in
theorem recAt (s rg n cap k : Nat) (r : Rec) (bb : Nat) (w : World) (hs : w.cell? ⟨s, 1, none⟩ = some (.slice (some ⟨rg, 0, none⟩) n cap)) (hk : k < n) (hr : w.rangeAt rg (k * 22) (rc r (dv bb r))) :
    Calls Tryf.prog 31 #[.pointer (some ⟨s, 0, none⟩), .int .i64 (k : Int)] w fun e w' => e = .returned (.agg (zc r).toArray) ∧ Below w.heap.size w w' := by
  have hix := index65 (g := rg) (c := cap) hk
  have hi : (k : Int) < (n : Int) := by omega
  have hlt := World.block_lt_of_cell? w _ hs
  obtain ⟨C0, hC0⟩ : ∃ C0 : List Value, C0 = rc r (dv bb r) := ⟨_, rfl⟩
  have HC0 : Hid (C0 = rc r (dv bb r)) := hC0
  have hC0s : C0.length = 22 := by rw [hC0]; rfl
  have hst0 : ∀ (o : Obj) (c : Array Value), c.size = 22 → (storeCells ⟨w.heap.size + 1, 0, none⟩ C0).run Tryf.prog ((w.alloc o).alloc (.cells c 70)) = .ok () ((w.alloc o).alloc (.cells C0.toArray 70)) := fun o c hc => by
    have := run_storeCells_new (P := Tryf.prog) (w.alloc o) 70 c C0.toArray (by rw [info70]; simp [hC0s]) (by simp [hC0s, hc]) (by rw [hC0]; exact all_oneCell_toArray (by simp [rc, dv, Value.oneCell']))
    simpa using this
  have HR : Hid (∀ o, (w.alloc o).rangeAt rg (k * 22) C0) := fun o => by rw [hC0]; exact World.rangeAt_alloc hr o
  clear hr hC0
  go_enter Tryf.func31, Tryf.ntmps31
  go_upto_region 2 with (refine wpList_load_mid rfl 70 (.tmp 11) rfl rg (k * 22) rfl C0 _ (HR.out _) Tryf.underlying70 rfl (by rw [info70, hC0s]) ?_)
  obtain ⟨z, hz, hzs⟩ : ∃ z : Array Value, z = #[.int .i64 0, .int .i64 0, .int .u8 0, .string { data := #[] }, .int .u8 0, .int .u8 0, .int .u8 0, .int .u8 0, .int .u8 0, .int .u8 0, .int .u8 0, .int .u8 0, .int .u8 0, .int .u8 0, .int .u8 0, .int .u8 0, .int .u8 0, .int .u8 0, .int .u8 0, .int .u8 0, .int .u32 0, .int .i64 0] ∧ z.size = 22 := ⟨_, rfl, rfl⟩
  rw [← hz]
  obtain ⟨W, hW⟩ : ∃ W, W = (w.alloc (.cells z 50)).alloc (.cells C0.toArray 70) := ⟨_, rfl⟩
  rw [← hW]
  have cz : W.rangeAt (w.heap.size + 1) 0 (rc r (dv bb r)) := by
    rw [hW, HC0.out]
    intro j v hv
    have he : w.heap.size + 1 = (w.alloc (.cells z 50)).heap.size := by simp
    rw [Nat.zero_add, he, cell_of_row _ _ _ _ _ _ (heap_alloc_last (w.alloc (.cells z 50)) _)]
    simpa using hv
  have c0 : W.cell? ⟨w.heap.size + 1, 0, none⟩ = some (.int .i64 (r.off : Int)) := cz 0 _ rfl
  have c1 : W.cell? ⟨w.heap.size + 1, 1, none⟩ = some (.int .i64 (r.en : Int)) := cz 1 _ rfl
  have c2 : W.cell? ⟨w.heap.size + 1, 2, none⟩ = some (.int .u8 r.st) := cz 2 _ rfl
  have c3 : W.cell? ⟨w.heap.size + 1, 3, none⟩ = some (.string r.nm) := cz 3 _ rfl
  have c20 : W.cell? ⟨w.heap.size + 1, 20, none⟩ = some (.int .u32 r.attr) := cz 20 _ rfl
  have c21 : W.cell? ⟨w.heap.size + 1, 21, none⟩ = some (.slice (some (dp bb r)) r.dl r.dl) := cz 21 _ rfl
  have cg : Hid (W.rangeAt (w.heap.size + 1) 4 [.int .u8 r.g, .int .u8 0, .int .u8 0, .int .u8 0, .int .u8 0, .int .u8 0, .int .u8 0, .int .u8 0, .int .u8 0, .int .u8 0, .int .u8 0, .int .u8 0, .int .u8 0, .int .u8 0, .int .u8 0, .int .u8 0]) := by have := range_part (ds := [.int .u8 r.g, .int .u8 0, .int .u8 0, .int .u8 0, .int .u8 0, .int .u8 0, .int .u8 0, .int .u8 0, .int .u8 0, .int .u8 0, .int .u8 0, .int .u8 0, .int .u8 0, .int .u8 0, .int .u8 0, .int .u8 0]) 4 cz (by rfl); rwa [Nat.zero_add] at this
  obtain ⟨C, hC⟩ : ∃ C : Array Value, (#[.int .i64 (r.off : Int), .int .i64 (r.en : Int), .int .u8 r.st, .string r.nm, .int .u8 r.g, .int .u8 0, .int .u8 0, .int .u8 0, .int .u8 0, .int .u8 0, .int .u8 0, .int .u8 0, .int .u8 0, .int .u8 0, .int .u8 0, .int .u8 0, .int .u8 0, .int .u8 0, .int .u8 0, .int .u8 0, .int .u32 r.attr, .int .i64 (r.dl : Int)] : Array Value) = C := ⟨_, rfl⟩
  have HCC : Hid (C = (zc r).toArray) := hC.symm
  have hCs : C.size = 22 := by rw [← hC]; rfl
  have hst : (storeCells ⟨w.heap.size, 0, none⟩ C.toList).run Tryf.prog W = .ok () (W.setRow w.heap.size C) := by
    refine st_row W w.heap.size 50 z C (by rw [hW]; exact heap_alloc2 w _ _) (by rw [hzs, hCs]) ?_
    rw [← hC]; simp [Value.oneCell']
  have HB : Hid (Below w.heap.size w (W.setRow w.heap.size C)) := by
    refine below_setRow ?_ (Nat.le_refl _) C
    rw [hW]
    exact ((Below.refl _ _).alloc (Nat.le_refl _) _).alloc (by simp) _
  have HN : Hid ((W.setRow w.heap.size C).heap[w.heap.size]? = some (.cells C 50 (0, 0))) := by
    have : W.heap[w.heap.size]? = some (.cells z 50 (0, 0)) := by rw [hW]; exact heap_alloc2 w _ _
    exact setRow_heap W w.heap.size z C 50 _ this
  have hi66 : (Tryf.prog.info? 66).map (·.size) = some ([.int .u8 r.g, .int .u8 0, .int .u8 0, .int .u8 0, .int .u8 0, .int .u8 0, .int .u8 0, .int .u8 0, .int .u8 0, .int .u8 0, .int .u8 0, .int .u8 0, .int .u8 0, .int .u8 0, .int .u8 0, .int .u8 0] : List Value).length := by kernel_rfl
  clear cz hst0 hC0s HC0 hW hz HR
  go_wp2_with (refine wpList_load_mid rfl 66 (.tmp 23) rfl (w.heap.size + 1) 4 rfl [.int .u8 r.g, .int .u8 0, .int .u8 0, .int .u8 0, .int .u8 0, .int .u8 0, .int .u8 0, .int .u8 0, .int .u8 0, .int .u8 0, .int .u8 0, .int .u8 0, .int .u8 0, .int .u8 0, .int .u8 0, .int .u8 0] _ cg.out Tryf.underlying66 rfl hi66 ?_)
  refine bodyPost_ret (v := .agg C) ?_ rfl ⟨by rw [HCC.out], HB.out⟩
  have hld : (loadVar 50 ⟨w.heap.size, 0, none⟩).run Tryf.prog (W.setRow w.heap.size C) = .ok (.agg C) (W.setRow w.heap.size C) := run_loadVar_row _ _ 50 50 C (0, 0) _ HN.out Tryf.underlying50 rfl (by rw [info50, hCs])
  simp [results, Tryf.results31, asAddr, hld]
end Go.Proofs.Qxb6003952aFmt
