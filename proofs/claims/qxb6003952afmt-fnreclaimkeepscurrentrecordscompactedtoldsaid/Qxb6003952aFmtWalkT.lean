/- A record is equal to itself. -/
import Derived.Test.Qxb6003952aFmtWalkQ
import Derived.DeepKeys
import Derived.Laws.StructEq
namespace Go.Proofs.Qxb6003952aFmt
open Go.RowKit Go.Extern.Stop Go.Stop Go.Extern
set_option linter.unusedVariables false

theorem eqSelf (d : Nat) (t : Nat) (hk : Tryf.prog.keyTypeAt 8 t = true) (x : Value) (hf : x.formed Tryf.prog t = true) (D : Nat) (hl : (Tryf.prog.keyLits D t x.cells.toList).isSome = true) (w : World) : (Op.equalIn (d + 8) t x x).run Tryf.prog w = .ok true w := by
  obtain ⟨l, hl⟩ := Option.isSome_iff_exists.1 hl
  obtain ⟨b, hr, hb⟩ := run_equalIn_deep (P := Tryf.prog) d 8 t hk w D D x x l l hf hf hl hl
  rw [hb.2 rfl] at hr
  exact hr
theorem eq47 (d : Nat) (x : Int) (w : World) : (Op.equalIn (d + 8) 47 (.agg (gc (gOf x)).toArray) (.agg (gc (gOf x)).toArray)).run Tryf.prog w = .ok true w := by
  have hx : gOf x = 0 ∨ gOf x = 1 := by unfold gOf; omega
  rcases hx with e | e <;> rw [e]
  · exact eqSelf d 47 (by kernel_rfl) _ (by kernel_rfl) 8 (by kernel_rfl) w
  · exact eqSelf d 47 (by kernel_rfl) _ (by kernel_rfl) 8 (by kernel_rfl) w
theorem self_fields (d : Nat) (xs : Array Value) (w : World) : ∀ (fs : List Field), (∀ p ∈ (fs.map fun f => (f.type, f.offset)), ∃ a, (part p.1 xs p.2).run Tryf.prog w = .ok a w ∧ (Op.equalIn d p.1 a a).run Tryf.prog w = .ok true w) → (Op.eqFields d xs xs fs).run Tryf.prog w = .ok true w
  | [], _ => by simp [Op.eqFields]
  | f :: fs, h => by
    obtain ⟨a, h1, h2⟩ := h (f.type, f.offset) (by simp)
    have ih := self_fields d xs w fs (fun p hp => h p (by simp at hp ⊢; exact .inr hp))
    simp only [Op.eqFields, Sem.run_bind, Sem.run_ite]
    split
    · simp [h1, h2, ih]
    · exact ih
theorem fields50 : ((Tryf.prog.fieldsOf 50).toList.map fun f => (f.type, f.offset)) = [(3, 0), (3, 1), (5, 2), (9, 3), (47, 4), (44, 20), (3, 21)] := by kernel_rfl
theorem eq50 (r : Rec) (w : World) : (Op.equalIn 10000 50 (.agg (zc r).toArray) (.agg (zc r).toArray)).run Tryf.prog w = .ok true w := by
  rw [run_equalIn_struct w 9999 50 _ _ (by kernel_rfl) (by kernel_rfl)]
  refine self_fields 9999 _ w _ ?_
  rw [fields50]
  intro p hp
  simp only [List.mem_cons, List.not_mem_nil, or_false] at hp
  rcases hp with rfl | rfl | rfl | rfl | rfl | rfl | rfl
  · exact ⟨.int .i64 (r.off : Int), by kernel_rfl, by rw [run_equalIn_int w 9998 3 .i64 .i64 _ _ Tryf.underlying3]; simp⟩
  · exact ⟨.int .i64 (r.en : Int), by kernel_rfl, by rw [run_equalIn_int w 9998 3 .i64 .i64 _ _ Tryf.underlying3]; simp⟩
  · exact ⟨.int .u8 r.st, by kernel_rfl, by rw [run_equalIn_int w 9998 5 .u8 .u8 _ _ Tryf.underlying5]; simp⟩
  · exact ⟨.string r.nm, by kernel_rfl, by rw [run_equalIn_string w 9998 9 _ _ Tryf.underlying9]; simp⟩
  · exact ⟨.agg (gc (gOf r.c)).toArray, by kernel_rfl, eq47 9991 r.c w⟩
  · exact ⟨.int .u32 r.attr, by kernel_rfl, by rw [run_equalIn_int w 9998 44 .u32 .u32 _ _ Tryf.underlying44]; simp⟩
  · exact ⟨.int .i64 (r.dl : Int), by kernel_rfl, by rw [run_equalIn_int w 9998 3 .i64 .i64 _ _ Tryf.underlying3]; simp⟩
end Go.Proofs.Qxb6003952aFmt
