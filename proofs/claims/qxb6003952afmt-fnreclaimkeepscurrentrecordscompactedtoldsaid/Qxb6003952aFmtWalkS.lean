/- The walk of ZZReclaim. -/
import Derived.Test.Qxb6003952aFmtWalkK
namespace Go.Proofs.Qxb6003952aFmt
open Go.RowKit Go.Extern.Stop Go.Stop Go.Extern
set_option linter.unusedVariables false

theorem RPost.of_alloc {w w' : World} {o : Obj} {s T start en_ : Nat} {size : Int} {OB : Nat → Int} {K : List Rec} {e : Ending} (h : RPost (w.alloc o) s T start en_ size OB K e w') : RPost w s T start en_ size OB K e w' := by
  have hg := World.grownBy_alloc w o none
  have hs : (w.alloc o).heap.size = w.heap.size + 1 := by simp
  rcases h with ⟨h1, h2, h3⟩ | ⟨h1, h2, h3, nb, ao, cap, h4, h5, h6, h7⟩
  · exact .inl ⟨h1, h2, h3.os, h3.tape, h3.output, by have := h3.size; omega, fun k hk => (h3.block k (by omega)).trans (hg.block k hk (by simp))⟩
  · exact .inr ⟨h1, h2, ⟨h3.os, h3.tape, h3.output, by have := h3.size; omega, fun k hk hne => (h3.block k (by omega) hne).trans (hg.block k hk (by simp))⟩, nb, ao, cap, h4, by omega, h6, h7⟩
set_option maxRecDepth 100000 in
set_option maxHeartbeats 3200000 in
theorem zzReclaim (F : Interp) (s rg n bb T start free en_ : Nat) (vc size : Int) (R : List Rec) (OB : Nat → Int) (w : World) (hF : F.answers w.tape)
    (hst : w.heap[s]? = some (.cells #[.slice (some ⟨bb, 0, none⟩) T T, .slice (some ⟨rg, 0, none⟩) n n, .int .i64 (start : Int), .int .i64 (free : Int), .int .i64 (en_ : Int)] 72 (0, 0)))
    (hR : R.length = n) (hn : n ≤ 4096) (hc : ∀ r ∈ R, (0 ≤ r.c ∧ r.c < 8) ∧ r.off ≤ r.en ∧ r.en ≤ en_ ∧ r.dl ≤ ln r) (hv0 : 0 ≤ vc) (hv8 : vc < 8)
    (hup : RecUp w rg n n bb R) (hob : w.rowIs bb 5 T (V .u8 OB)) (hT : T ≤ 4194304) (hse : start ≤ en_) (heT : en_ ≤ T)
    (hfit : frOf start (keptOf vc ((winners (cOf R) (sOf R) n).filterMap fun p => R[p]?)) ≤ en_) :
    Calls Tryf.prog 26 #[.pointer (some ⟨s, 0, none⟩), .string (nmOf vc), .agg #[.int .u8 (gOf vc), .int .u8 0, .int .u8 0, .int .u8 0, .int .u8 0, .int .u8 0, .int .u8 0, .int .u8 0, .int .u8 0, .int .u8 0, .int .u8 0, .int .u8 0, .int .u8 0, .int .u8 0, .int .u8 0, .int .u8 0], .int .i64 size] w (RPost w s T start en_ size OB (keptOf vc ((winners (cOf R) (sOf R) n).filterMap fun p => R[p]?))) := by
  have hslt : s < w.heap.size := (Array.getElem?_eq_some_iff.1 hst).1
  obtain ⟨W, hW⟩ : ∃ W, w.alloc (.cells #[.int .u8 (gOf vc), .int .u8 0, .int .u8 0, .int .u8 0, .int .u8 0, .int .u8 0, .int .u8 0, .int .u8 0, .int .u8 0, .int .u8 0, .int .u8 0, .int .u8 0, .int .u8 0, .int .u8 0, .int .u8 0, .int .u8 0] 47) = W := ⟨_, rfl⟩
  have hg : w.grownBy W none := by rw [← hW]; exact World.grownBy_alloc w _ none
  have HR : Hid (Calls Tryf.prog 36 #[.pointer (some ⟨s, 0, none⟩), .agg #[.string (nmOf vc), .int .u8 (gOf vc), .int .u8 0, .int .u8 0, .int .u8 0, .int .u8 0, .int .u8 0, .int .u8 0, .int .u8 0, .int .u8 0, .int .u8 0, .int .u8 0, .int .u8 0, .int .u8 0, .int .u8 0, .int .u8 0, .int .u8 0, .int .u32 0, .slice none 0 0], .int .i64 size] W (RPost W s T start en_ size OB (keptOf vc ((winners (cOf R) (sOf R) n).filterMap fun p => R[p]?)))) :=
    reclaim F s rg n bb T start free en_ vc size R OB W (by rw [hg.tape]; exact hF) (by rw [hg.block s hslt (by simp)]; exact hst) hR hn hc hv0 hv8 ⟨fun i hi => by rw [← hW]; exact World.there_alloc (hup.1 i hi) _, fun i r hi hr => by rw [← hW]; exact World.rangeAt_alloc (hup.2 i r hi hr) _⟩ (hob.of_block (hg.block bb hob.lt (by simp))) hT hse heT hfit
  have HCG : Hid (W.rangeAt w.heap.size 0 [.int .u8 (gOf vc), .int .u8 0, .int .u8 0, .int .u8 0, .int .u8 0, .int .u8 0, .int .u8 0, .int .u8 0, .int .u8 0, .int .u8 0, .int .u8 0, .int .u8 0, .int .u8 0, .int .u8 0, .int .u8 0, .int .u8 0]) := by
    intro j v hv
    rw [← hW, Nat.zero_add, cell_of_row _ _ _ _ _ _ (heap_alloc_last w _)]
    simpa using hv
  have hi47 : (Tryf.prog.info? 47).map (·.size) = some ([.int .u8 (gOf vc), .int .u8 0, .int .u8 0, .int .u8 0, .int .u8 0, .int .u8 0, .int .u8 0, .int .u8 0, .int .u8 0, .int .u8 0, .int .u8 0, .int .u8 0, .int .u8 0, .int .u8 0, .int .u8 0, .int .u8 0] : List Value).length := by kernel_rfl
  have HWW : Hid (w.alloc (.cells #[.int .u8 (gOf vc), .int .u8 0, .int .u8 0, .int .u8 0, .int .u8 0, .int .u8 0, .int .u8 0, .int .u8 0, .int .u8 0, .int .u8 0, .int .u8 0, .int .u8 0, .int .u8 0, .int .u8 0, .int .u8 0, .int .u8 0] 47) = W) := hW
  clear hst hR hn hc hv0 hv8 hup hob hfit hg hF hse heT hT hslt
  go_enter Tryf.func26, Tryf.ntmps26
  go_wp2_with (refine wpList_load_mid rfl 47 (.tmp 6) rfl w.heap.size 0 rfl [.int .u8 (gOf vc), .int .u8 0, .int .u8 0, .int .u8 0, .int .u8 0, .int .u8 0, .int .u8 0, .int .u8 0, .int .u8 0, .int .u8 0, .int .u8 0, .int .u8 0, .int .u8 0, .int .u8 0, .int .u8 0, .int .u8 0] _ HCG.out Tryf.underlying47 rfl hi47 ?_)
  refine HR.out.mono ?_
  intro e w' hp
  have HP : Hid (RPost w s T start en_ size OB (keptOf vc ((winners (cOf R) (sOf R) n).filterMap fun p => R[p]?)) e w') := by
    rw [← HWW.out] at hp; exact hp.of_alloc
  rcases hp with ⟨h1, ⟨p, rfl⟩, h3⟩ | ⟨h1, rfl, h3⟩
  · clear h1 h3
    go_wp2_with fail
    go_ret
    exact HP.out
  · clear h1 h3
    go_wp2_with fail
    go_ret
    exact HP.out
end Go.Proofs.Qxb6003952aFmt
