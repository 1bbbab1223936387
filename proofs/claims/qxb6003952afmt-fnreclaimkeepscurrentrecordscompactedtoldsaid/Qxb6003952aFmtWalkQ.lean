/- The law's own data: the records that it lays. -/
import Derived.Test.Qxb6003952aFmtWalkO
import Derived.Deep.AppendLies
namespace Go.Proofs.Qxb6003952aFmt
open Go.RowKit Go.Extern.Stop Go.Stop Go.Extern
set_option linter.unusedVariables false

/-- A record's state class; the record; the indexes of the live ones among the first k; the live ones. -/
def tOf (S : Nat → Int) (i : Nat) : Int := Int.tmod (S i) 3
def recOf (start : Nat) (L : Nat → Nat) (I S A : Nat → Int) (i : Nat) : Rec := { off := offAt start L i, en := enAt start L i, st := stOf (tOf S i), c := I i % 8, attr := A i, dl := L i }
def liveI (S : Nat → Int) (k : Nat) : List Nat := (List.range k).filter fun i => tOf S i != 2
def zl (start : Nat) (L : Nat → Nat) (I S A : Nat → Int) (k : Nat) : List Rec := (liveI S k).map (recOf start L I S A)
theorem zl_in {start : Nat} {L : Nat → Nat} {I S A : Nat → Int} {k : Nat} (h : tOf S k ≠ 2) : zl start L I S A (k + 1) = zl start L I S A k ++ [recOf start L I S A k] := by
  simp [zl, liveI, List.range_succ, h]
theorem zl_out {start : Nat} {L : Nat → Nat} {I S A : Nat → Int} {k : Nat} (h : tOf S k = 2) : zl start L I S A (k + 1) = zl start L I S A k := by
  simp [zl, liveI, List.range_succ, h]
theorem zl_len (start : Nat) (L : Nat → Nat) (I S A : Nat → Int) (k : Nat) : (zl start L I S A k).length ≤ k := by
  rw [zl, List.length_map, liveI]
  exact Nat.le_trans (List.length_filter_le _ _) (by simp)
theorem nm8 (x : Int) : nmOf (x % 8) = nmOf x := by
  have : x % 8 % 4 = x % 4 := by omega
  simp only [nmOf, this]
theorem g8 (x : Int) : gOf (x % 8) = gOf x := by
  unfold gOf; omega
theorem guid' (x : Int) (h0 : 0 ≤ x) (h1 : x < 256) (w : World) : Calls Tryf.prog 23 #[.int .u8 x] w fun e w' => e = .returned (.agg #[.int .u8 (gOf x), .int .u8 0, .int .u8 0, .int .u8 0, .int .u8 0, .int .u8 0, .int .u8 0, .int .u8 0, .int .u8 0, .int .u8 0, .int .u8 0, .int .u8 0, .int .u8 0, .int .u8 0, .int .u8 0, .int .u8 0]) ∧ Below w.heap.size w w' := by
  refine (guid x h0 h1 w).mono ?_
  rintro e w' ⟨rfl, rfl⟩
  exact ⟨rfl, ((Below.refl _ _).alloc (Nat.le_refl _) _).alloc (by simp) _⟩
theorem grown_of_below {w w' : World} (h : Below w.heap.size w w') : w.grownBy w' none := ⟨h.os, h.tape, h.output, h.size, fun k hk _ => h.block k hk⟩
theorem own_below {w w' : World} {base e size n : Nat} {v : Value} {xs : List Value} (h : w.ownsRow base e size v n xs) (hb : Below w.heap.size w w') : w'.ownsRow base e size v n xs :=
  h.kept (grown_of_below hb) (by cases v.ownBlock <;> simp)
theorem info50z : (Tryf.prog.info? 50).map (fun i => (i.zero, i.size, i.bytes)) = some (some (.agg #[.int .i64 0, .int .i64 0, .int .u8 0, .string ByteArray.empty, .int .u8 0, .int .u8 0, .int .u8 0, .int .u8 0, .int .u8 0, .int .u8 0, .int .u8 0, .int .u8 0, .int .u8 0, .int .u8 0, .int .u8 0, .int .u8 0, .int .u8 0, .int .u8 0, .int .u8 0, .int .u8 0, .int .u32 0, .int .i64 0]), 22, 72) := by kernel_rfl
/-- What make lays for n ZZRecords. -/
def mk50 (n : Nat) : Array Value := madeCells #[.int .i64 0, .int .i64 0, .int .u8 0, .string ByteArray.empty, .int .u8 0, .int .u8 0, .int .u8 0, .int .u8 0, .int .u8 0, .int .u8 0, .int .u8 0, .int .u8 0, .int .u8 0, .int .u8 0, .int .u8 0, .int .u8 0, .int .u8 0, .int .u8 0, .int .u8 0, .int .u8 0, .int .u32 0, .int .i64 0] (n * 22)
theorem make45 (n : Nat) (hn : n ≤ 4096) (w : World) : (Instr.makeSlice 45 (.int .i64 0) (.int .i64 (n : Int))).run Tryf.prog w = .ok (.slice (some ⟨w.heap.size, 0, none⟩) 0 n) (w.alloc (.cells (mk50 n) 50)) := by
  obtain ⟨i0, hi, hz0, hz1, hz2⟩ := info_parts info50z
  have hmk := run_make (P := Tryf.prog) w 45 50 i0 _ Tryf.underlying45 hi hz0 .i64 .i64 0 (n : Int) (by omega) (by omega) (by rw [hz2]; omega) (by omega)
  rw [hz1] at hmk
  simp only [Int.toNat_natCast] at hmk
  exact hmk
/-- What buildSlice lays: the element's cells, one by one. -/
theorem foldq_get : ∀ (l : List Value) (k : Nat) (z : Array Value) (i : Nat), (List.foldl (fun (cs : Array Value) (x : Value × Nat) => cs.setIfInBounds x.snd x.fst) z (l.zipIdx k)).size = z.size ∧
    (i < z.size → (List.foldl (fun (cs : Array Value) (x : Value × Nat) => cs.setIfInBounds x.snd x.fst) z (l.zipIdx k))[i]? = if k ≤ i ∧ i < k + l.length then l[i - k]? else z[i]?)
  | [], k, z, i => by simp; omega
  | v :: l, k, z, i => by
    obtain ⟨h1, h2⟩ := foldq_get l (k + 1) (z.setIfInBounds k v) i
    rw [List.zipIdx_cons, List.foldl_cons]
    refine ⟨by rw [h1]; simp, fun hi => ?_⟩
    rw [h2 (by simpa using hi)]
    by_cases e : i = k
    · subst e
      rw [if_neg (by omega), if_pos (by simp)]
      simp [hi]
    · by_cases h : k + 1 ≤ i ∧ i < k + 1 + l.length
      · rw [if_pos h, if_pos (by simp; omega)]
        obtain ⟨j, hj⟩ : ∃ j, i - k = j + 1 := ⟨i - k - 1, by omega⟩
        rw [hj, List.getElem?_cons_succ]
        congr 1; omega
      · rw [if_neg h, if_neg (by simp; omega), Array.getElem?_setIfInBounds_ne (fun h => e h.symm)]
theorem foldq_cells {C0 : List Value} (z : Array Value) (hz : z.size = C0.length) : List.foldl (fun (cs : Array Value) (x : Value × Nat) => cs.setIfInBounds x.snd x.fst) z C0.zipIdx = C0.toArray := by
  apply Array.ext_getElem?
  intro i
  obtain ⟨h1, h2⟩ := foldq_get C0 0 z i
  by_cases hi : i < z.size
  · rw [h2 hi, if_pos (by omega)]; simp
  · rw [Array.getElem?_eq_none (by rw [h1]; omega), Array.getElem?_eq_none (by simp; omega)]
end Go.Proofs.Qxb6003952aFmt
