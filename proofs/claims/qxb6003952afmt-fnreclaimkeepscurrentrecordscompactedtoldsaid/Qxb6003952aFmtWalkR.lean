/- The walk of reclaim: its accepting way behind the first loop, whole. -/
import Derived.Test.Qxb6003952aFmtWalkN
import Derived.Test.Qxb6003952aFmtWalkP
namespace Go.Proofs.Qxb6003952aFmt
open Go.RowKit Go.Extern.Stop Go.Stop Go.Extern
set_option linter.unusedVariables false

/-- The bytes that an accepting reclaim leaves. -/
def newB (OB : Nat → Int) (start en_ T : Nat) (K : List Rec) : Nat → Int := copyAll OB start K (over (over (over (fun _ => 0) 0 start OB) en_ (T - en_) fun i => OB (en_ + i)) start (en_ - start) fun _ => 255)
theorem RecUp.of_block {w w' : World} {g n k bb : Nat} {Z : List Rec} (e : w'.heap[g]? = w.heap[g]?) (h : RecUp w g n k bb Z) : RecUp w' g n k bb Z :=
  ⟨fun i hi => there_of_block e (h.1 i hi), fun i r hi hr => range_of_block e (h.2 i r hi hr)⟩
theorem rest_yes (s bb T start fr fr0 en_ n base : Nat) (size : Int) (kv rv : Value) (K : List Rec) (OB : Nat → Int) (R : Ending → World → Prop) (a : Act) (w : World) (hsz : a.tmps.size = 193) (hd : a.defers = [])
    (h0 : a.tmps.getD 0 undef = .pointer (some ⟨s, 0, none⟩)) (h2 : a.tmps.getD 2 undef = .int .i64 size) (h7 : a.tmps.getD 7 undef = kv) (h8 : a.tmps.getD 8 undef = .int .i64 (fr : Int))
    (hst : w.heap[s]? = some (.cells #[.slice (some ⟨bb, 0, none⟩) T T, rv, .int .i64 (start : Int), .int .i64 (fr0 : Int), .int .i64 (en_ : Int)] 72 (0, 0)))
    (hob : w.rowIs bb 5 T (V .u8 OB)) (hown : w.ownsRow base 70 22 kv n (flat (fun r => rc r (dv bb r)) K)) (hK : K.length = n) (hn : n ≤ 4096) (hsB : s < base) (hbB : bb < base) (hBw : base ≤ w.heap.size) (hfrK : fr = frOf start K)
    (hfr : fr ≤ en_) (hse : start ≤ en_) (heT : en_ ≤ T) (hT : T ≤ 4194304) (hsmall : size ≤ (en_ : Int) - (fr : Int)) (hrec : ∀ r ∈ K, r.off ≤ r.en ∧ r.en ≤ T ∧ r.dl ≤ ln r)
    (hR : ∀ (w' : World) (nb : Nat) (ao : Option Addr) (cap : Nat), w'.heap[s]? = some (.cells #[.slice (some ⟨nb, 0, none⟩) T T, .slice ao n cap, .int .i64 (start : Int), .int .i64 (fr : Int), .int .i64 (en_ : Int)] 72 (0, 0)) → base ≤ nb → w'.rowIs nb 5 T (V .u8 (newB OB start en_ T K)) →
      (n = 0 ∨ ∃ kg, ao = some ⟨kg, 0, none⟩ ∧ RecUp w' kg n n nb (placed start K)) → (∀ k, k < base → k ≠ s → w'.heap[k]? = w.heap[k]?) → w.heap.size ≤ w'.heap.size → w'.os = w.os → w'.tape = w.tape → w'.output = w.output → R (.returned .nilIface) w') :
    Code.wp Tryf.prog (tl 4 (Tryf.f36.body.getD .skip)) (bodyPost Tryf.prog Tryf.f36 R) a w := by
  have hslt : s < w.heap.size := by omega
  have hblt : bb < w.heap.size := by omega
  obtain ⟨kg, ao, cap, hkv, hkb, hform⟩ : ∃ (kg : Nat) (ao : Option Addr) (cap : Nat), kv = .slice ao n cap ∧ base ≤ kg ∧ (n = 0 ∨ (ao = some ⟨kg, 0, none⟩ ∧ base ≤ kg ∧ kg < w.heap.size)) := by
    rcases hown.2 with ⟨rfl, rfl⟩ | ⟨g, cap, cur, rfl, hb, hg, _⟩
    · exact ⟨w.heap.size, none, 0, rfl, hBw, .inl rfl⟩
    · exact ⟨g, some ⟨g, 0, none⟩, cap, rfl, hb, .inr ⟨rfl, hb, (Array.getElem?_eq_some_iff.1 hg).1⟩⟩
  have cs : ∀ (v : World), v.heap[s]? = w.heap[s]? → ∀ j, v.cell? ⟨s, j, none⟩ = (#[.slice (some ⟨bb, 0, none⟩) T T, rv, .int .i64 (start : Int), .int .i64 (fr0 : Int), .int .i64 (en_ : Int)] : Array Value)[j]? := fun v hv j => cell_of_row v s j _ _ _ (hv.trans hst)
  refine rest_yes1 s bb T start fr en_ size OB _ a w hsz hd h0 h2 h8 (cs w rfl 0) (cs w rfl 2) (cs w rfl 4) hob hfr hse heT hT hsmall ?_
  intro a1 w1 hsz1 hd1 h01 h71 h121 hrow1 hg1
  have e1 : w1.heap[s]? = w.heap[s]? := hg1.block s hslt (by simp)
  refine rest_yes2 s w.heap.size T start en_ _ _ a1 w1 hsz1 hd1 h01 h121 (cs w1 e1 2) (cs w1 e1 4) hrow1 hse heT hT ?_
  intro a2 w2 hsz2 hd2 h02 h72 h122 hrow2 hg2
  have hs1 := hg1.size
  have hs2 := hg2.size
  have bl2 : ∀ k, k < w.heap.size → w2.heap[k]? = w.heap[k]? := fun k hk => (hg2.block k (by omega) (by simp; omega)).trans (hg1.block k hk (by simp))
  have e2 : w2.heap[s]? = w.heap[s]? := bl2 s hslt
  refine rest_yes3 s kg w.heap.size bb T start n cap ao K OB _ _ a2 w2 hsz2 hd2 h02 (by rw [h72, h71, h7, hkv]) h122 (hform.imp_right fun h => h.1) hK hn (cs w2 e2 0) (cs w2 e2 2) (hob.of_block (bl2 bb hblt)) hrow2 ?_ ?_ (by omega) (by omega) (hform.imp_right fun h => ⟨by omega, by omega, by omega⟩) hT hrec (by omega) ?_
  · intro i hi
    rcases hform with h | ⟨rfl, hb, hk⟩
    · omega
    · subst hkv; exact there_of_block (bl2 kg hk) (there_of_owns hown hi)
  · intro i r hr
    have hi : i < n := by rw [← hK]; exact (List.getElem?_eq_some_iff.1 hr).1
    rcases hform with h | ⟨rfl, hb, hk⟩
    · omega
    · subst hkv; exact range_of_block (bl2 kg hk) (range_of_owns (fun r => len_rc r _) hown hr)
  intro a3 w3 hsz3 hd3 h03 h73 h123 h153 hrow3 hup3 hbl3 hs3 hos3 htp3 hot3
  have e3 : w3.heap[s]? = w2.heap[s]? := hbl3 s (by omega) (by omega) (by omega)
  refine rest_yes4 s w.heap.size T n cap start fr0 fr en_ ao _ _ R a3 w3 hsz3 hd3 h03 h73 h123 (by rw [h153, hfrK]) (by rw [e3, e2, hst]) ?_
  intro w4 hst4 hg4
  have hs4 := hg4.size
  refine hR w4 w.heap.size ao cap hst4 hBw (hrow3.of_block (hg4.block _ hrow3.lt (by simp; omega))) ?_ (fun k hk hks => ?_) (by omega) ?_ ?_ ?_
  · rcases hform with h | ⟨h1, hb, hk⟩
    · exact .inl h
    · exact .inr ⟨kg, h1, hup3.of_block (hg4.block kg (by omega) (by simp; omega))⟩
  · rw [hg4.block k (by omega) (by simpa using hks), hbl3 k (by omega) (by omega) (by omega), bl2 k (by omega)]
  · rw [hg4.os, hos3, hg2.os, hg1.os]
  · rw [hg4.tape, htp3, hg2.tape, hg1.tape]
  · rw [hg4.output, hot3, hg2.output, hg1.output]
end Go.Proofs.Qxb6003952aFmt
