/- What reclaim reckons: plain. -/
import Derived.Test.Qxb6003952aFmtWalkH
import Derived.Laws.CopyOwn
import Derived.Deep.RegionLaw
namespace Go.Proofs.Qxb6003952aFmt
open Go.RowKit Go.Extern.Stop Go.Stop Go.Extern
set_option linter.unusedVariables false

/-- How long a record is; where the records end once they are laid one behind the other; how they then stand. -/
def ln (r : Rec) : Nat := r.en - r.off
def frOf : Nat → List Rec → Nat
  | f, [] => f
  | f, r :: L => frOf (al (f + ln r)) L
def placed : Nat → List Rec → List Rec
  | _, [] => []
  | f, r :: L => { r with off := f, en := f + ln r } :: placed (al (f + ln r)) L
theorem frOf_append (f : Nat) (L M : List Rec) : frOf f (L ++ M) = frOf (frOf f L) M := by
  induction L generalizing f with
  | nil => rfl
  | cons r L ih => exact ih _
theorem frOf_ge (f : Nat) (L : List Rec) : f ≤ frOf f L := by
  induction L generalizing f with
  | nil => exact Nat.le_refl _
  | cons r L ih =>
    have h1 := ih (al (f + ln r))
    have h2 := le_al (f + ln r)
    show f ≤ frOf (al (f + ln r)) L
    omega
/-- The variable that is written: the cells of an efi.Variable without data. -/
def vcells (c : Int) : List Value := .string (nmOf c) :: (gc (gOf c) ++ [.int .u32 0, .slice none 0 0])
/-- The records that are kept. -/
def keptOf (vc : Int) (L : List Rec) : List Rec := L.filter fun r => r.c != vc
theorem kept_snoc_in {vc : Int} {L : List Rec} {k : Nat} {r : Rec} (hr : L[k]? = some r) (h : r.c ≠ vc) : keptOf vc (L.take (k + 1)) = keptOf vc (L.take k) ++ [r] := by
  rw [List.take_add_one, hr]
  simp [keptOf, h]
theorem kept_snoc_out {vc : Int} {L : List Rec} {k : Nat} {r : Rec} (hr : L[k]? = some r) (h : r.c = vc) : keptOf vc (L.take (k + 1)) = keptOf vc (L.take k) := by
  rw [List.take_add_one, hr]
  simp [keptOf, h]
theorem info68 : (Tryf.prog.info? 68).map (·.size) = some 19 := by kernel_rfl

theorem len_picked {R : List Rec} {ws : List Nat} (h : ∀ p ∈ ws, p < R.length) : (ws.filterMap fun p => R[p]?).length = ws.length := by
  induction ws with
  | nil => rfl
  | cons a ws ih =>
    rw [List.filterMap_cons, List.getElem?_eq_getElem (h a (by simp))]
    simp [ih (fun p hp => h p (by simp [hp]))]
theorem vc_range (vc : Int) {w : World} {b : Nat} {VC : Array Value} (hVC : VC = (vcells vc).toArray) (h : w.heap[b]? = some (.cells VC 68 (0, 0))) : w.rangeAt b 0 (vcells vc) := by
  intro j v hv
  rw [Nat.zero_add, cell_of_row _ _ _ _ _ _ h, hVC]
  simpa using hv

/-- What buildSlice lays: the element's cells, one by one. -/
theorem fold_get : ∀ (l : List Value) (k : Nat) (z : Array Value) (i : Nat), (List.foldl (fun (cs : Array Value) (x : Value × Nat) => cs.setIfInBounds x.snd x.fst) z (l.zipIdx k)).size = z.size ∧
    (i < z.size → (List.foldl (fun (cs : Array Value) (x : Value × Nat) => cs.setIfInBounds x.snd x.fst) z (l.zipIdx k))[i]? = if k ≤ i ∧ i < k + l.length then l[i - k]? else z[i]?)
  | [], k, z, i => by simp; omega
  | v :: l, k, z, i => by
    obtain ⟨h1, h2⟩ := fold_get l (k + 1) (z.setIfInBounds k v) i
    rw [List.zipIdx_cons, List.foldl_cons]
    refine ⟨by rw [h1]; simp, fun hi => ?_⟩
    rw [h2 (by simpa using hi)]
    by_cases e : i = k
    · subst e
      rw [if_neg (by omega), if_pos (by simp)]
      simp [hi]
    · by_cases h : k + 1 ≤ i ∧ i < k + 1 + l.length
      · rw [if_pos h, if_pos (by simp; omega)]
        obtain ⟨j, hj⟩ : ∃ j, i - k = j + 1 := ⟨i - k - 1, by omega⟩
        rw [hj, List.getElem?_cons_succ]
        congr 1; omega
      · rw [if_neg h, if_neg (by simp; omega), Array.getElem?_setIfInBounds_ne (fun h => e h.symm)]
theorem fold_cells {C0 : List Value} (z : Array Value) (hz : z.size = C0.length) : List.foldl (fun (cs : Array Value) (x : Value × Nat) => cs.setIfInBounds x.snd x.fst) z C0.zipIdx = C0.toArray := by
  apply Array.ext_getElem?
  intro i
  obtain ⟨h1, h2⟩ := fold_get C0 0 z i
  by_cases hi : i < z.size
  · rw [h2 hi, if_pos (by omega)]; simp
  · rw [Array.getElem?_eq_none (by rw [h1]; omega), Array.getElem?_eq_none (by simp; omega)]

theorem nm_cases (x : Int) : nmOf x = ⟨#[65]⟩ ∨ nmOf x = ⟨#[66]⟩ ∨ nmOf x = ⟨#[67]⟩ ∨ nmOf x = ⟨#[68]⟩ := by
  unfold nmOf
  split
  · exact .inl rfl
  · split
    · exact .inr (.inl rfl)
    · split
      · exact .inr (.inr (.inl rfl))
      · exact .inr (.inr (.inr rfl))
theorem nm_list_inj {x y : Int} (h : (nmOf x).toList = (nmOf y).toList) : nmOf x = nmOf y := by
  rcases nm_cases x with e | e | e | e <;> rcases nm_cases y with f | f | f | f <;> rw [e, f] at h ⊢ <;> (rw [ByteArray.toList_eq, ByteArray.toList_eq] at h; simp at h)
theorem e00 (w : World) : (Op.equalIn 10000 66 (.agg (gc 0).toArray) (.agg (gc 0).toArray)).run Tryf.prog w = .ok true w := by kernel_rfl
theorem e01 (w : World) : (Op.equalIn 10000 66 (.agg (gc 0).toArray) (.agg (gc 1).toArray)).run Tryf.prog w = .ok false w := by kernel_rfl
theorem e10 (w : World) : (Op.equalIn 10000 66 (.agg (gc 1).toArray) (.agg (gc 0).toArray)).run Tryf.prog w = .ok false w := by kernel_rfl
theorem e11 (w : World) : (Op.equalIn 10000 66 (.agg (gc 1).toArray) (.agg (gc 1).toArray)).run Tryf.prog w = .ok true w := by kernel_rfl
theorem eq66 (x y : Int) (w : World) : (Op.equalIn 10000 66 (.agg (gc (gOf x)).toArray) (.agg (gc (gOf y)).toArray)).run Tryf.prog w = .ok (gOf x == gOf y) w := by
  have hx : gOf x = 0 ∨ gOf x = 1 := by unfold gOf; omega
  have hy : gOf y = 0 ∨ gOf y = 1 := by unfold gOf; omega
  rcases hx with ex | ex <;> rcases hy with ey | ey <;> rw [ex, ey]
  · exact e00 w
  · exact e01 w
  · exact e10 w
  · exact e11 w

/-- The bytes once the records are copied one behind the other. -/
def copyAll (OB : Nat → Int) : Nat → List Rec → (Nat → Int) → Nat → Int
  | _, [], X => X
  | f, r :: L, X => copyAll OB (al (f + ln r)) L fun i => if f ≤ i ∧ i < f + ln r then OB (r.off + (i - f)) else X i
/-- The bytes with the area erased. -/
def erased (OB : Nat → Int) (start en_ : Nat) (i : Nat) : Int := if start ≤ i ∧ i < en_ then 255 else OB i
/-- Statements of a sequence struck from its head. -/
def tl : Nat → Code → Code
  | 0, c => c
  | n + 1, .seq _ b => tl n b
  | _, c => c

/-- What stands in a row behind a copy. -/
def over (X : Nat → Int) (off n : Nat) (Y : Nat → Int) (i : Nat) : Int := if off ≤ i ∧ i < off + n then Y (i - off) else X i
theorem grown_setRow (w : World) (g : Nat) (cs : Array Value) : w.grownBy (w.setRow g cs) (some g) := by
  refine ⟨rfl, rfl, rfl, by simp [World.setRow], fun k hk hne => ?_⟩
  simp only [World.setRow, Array.getElem?_modify]
  rw [if_neg (fun h => hne (by rw [h]))]
theorem info5s : (Tryf.prog.info? 5).map (·.size) = some 1 := by kernel_rfl
/-- copy into a row of bytes, as one step of a region that draws. -/
theorem step_copy {ops : Array Oper} {o : Oper} {a : Act} {w : World} {K : Act → World → Prop} {Q : Exit → Act → World → Prop} {E : Prop} (hgd : o.guard = none) (d s : Operand)
    (ho : o.op = .call { callee := .builtin .copy, args := #[d, s], argTypes := #[22, 22] })
    (dp sp : Option Addr) (dLen dCap sLen sCap : Nat) (hd : a.eval d = .slice dp dLen dCap) (hs : a.eval s = .slice sp sLen sCap)
    (g off T : Nat) (X Y : Nat → Int) (hg : w.rowIs g 5 T (V .u8 X)) (n : Nat) (hn : n = Nat.min sLen dLen)
    (hpos : 0 < n → dp = some ⟨g, off, none⟩ ∧ ∃ ad, sp = some ad ∧ ∀ j, j < n → w.cell? (ad.add j) = some (.int .u8 (Y j)))
    (hfit : off + n ≤ T)
    (h : ∀ w', w'.rowIs g 5 T (V .u8 (over X off n Y)) → w.grownBy w' (some g) → K (a.put o.dst (.int .i64 (n : Int))) w') :
    if Region.wanted o (yielded ops a.tmps) = true then Oper.wp Tryf.prog o a w K Q else E := by
  obtain ⟨cur, hb, hc, hcell⟩ := hg
  have hX : w.rowIs g 5 T (V .u8 X) := ⟨cur, hb, hc, hcell⟩
  obtain ⟨cs, hcs⟩ : ∃ cs : List Value, cs = (List.range n).map fun j => .int .u8 (Y j) := ⟨_, rfl⟩
  have hl : cs.length = n := by rw [hcs]; simp
  have hw : Region.wanted o (yielded ops a.tmps) = true := by simp [Region.wanted, hgd]
  rw [if_pos hw]
  by_cases h0 : n = 0
  · subst h0
    have hrun := run_copy_none (P := Tryf.prog) w 22 22 o.type 5 dp sp dLen dCap sLen sCap Tryf.underlying22 info5s hn.symm
    unfold Oper.wp
    simp [execOp, ho, resolve, invoke, builtin, hd, hs, hrun, Result.andThen]
    refine h w (hX.congr fun i hi => ?_) ⟨rfl, rfl, rfl, Nat.le_refl _, fun _ _ _ => rfl⟩
    simp only [V, over]
    rw [if_neg (by omega)]
  · obtain ⟨rfl, ad, rfl, hsrc⟩ := hpos (by omega)
    have hrun := run_copy_row (P := Tryf.prog) w 22 22 o.type 5 g off dLen dCap ad sLen sCap cur 5 cs Tryf.underlying22 info5s hb (by rw [hl, hn]) (fun j v hv => by
      have hj : j < n := by have := (List.getElem?_eq_some_iff.1 hv).1; rw [hl] at this; exact this
      rw [hsrc j hj]
      rw [hcs, List.getElem?_map, List.getElem?_range hj] at hv
      simpa using hv) (by rw [hl, hc]; exact hfit) (fun v hv => by
      rw [hcs, List.mem_map] at hv
      obtain ⟨j, _, rfl⟩ := hv
      rfl)
    unfold Oper.wp
    simp [execOp, ho, resolve, invoke, builtin, hd, hs, hrun, Result.andThen]
    rw [hl]
    refine h _ ⟨_, setRow_heap w g _ _ 5 _ hb, ?_, fun i hi => ?_⟩ (grown_setRow w g _)
    · simp [hl, hc]; omega
    · simp only [List.getElem?_toArray, V, over]
      have hlt : (cur.toList.take off).length = off := by simp [hc]; omega
      by_cases h1 : i < off
      · rw [List.getElem?_append_left (by omega), List.getElem?_take_of_lt h1, Array.getElem?_toList, hcell i hi, if_neg (by omega)]
        rfl
      · rw [List.getElem?_append_right (by omega), hlt]
        by_cases h2 : i < off + n
        · rw [List.getElem?_append_left (by omega), hcs, List.getElem?_map, List.getElem?_range (by omega), if_pos (by omega)]
          rfl
        · rw [List.getElem?_append_right (by omega), hl, List.getElem?_drop, Array.getElem?_toList, show off + n + (i - off - n) = i by omega, hcell i hi, if_neg (by omega)]
          rfl
end Go.Proofs.Qxb6003952aFmt
