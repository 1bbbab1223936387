/- The records, and the walk of ZZNewStore. -/
import Derived.Test.Qxb6003952aFmtWalkC
import Derived.Deep.MidRow
import Derived.Deep.WholeRow
import Derived.BigRegion
import Derived.Deep.RegionHeld3
namespace Go.Proofs.Qxb6003952aFmt
open Go.RowKit Go.Extern.Stop Go.Stop Go.Extern
set_option linter.unusedVariables false

/-- A record, as data. -/
structure Rec where
  off : Nat
  en : Nat
  st : Int
  c : Int
  attr : Int
  dl : Nat
/-- Its name and its GUID are told by its class. -/
def Rec.nm (r : Rec) : ByteArray := nmOf r.c
def Rec.g (r : Rec) : Int := gOf r.c
/-- The cells of a ZZRecord. -/
def zc (r : Rec) : List Value := [.int .i64 (r.off : Int), .int .i64 (r.en : Int), .int .u8 r.st, .string r.nm, .int .u8 r.g, .int .u8 0, .int .u8 0, .int .u8 0, .int .u8 0, .int .u8 0, .int .u8 0, .int .u8 0, .int .u8 0, .int .u8 0, .int .u8 0, .int .u8 0, .int .u8 0, .int .u8 0, .int .u8 0, .int .u8 0, .int .u32 r.attr, .int .i64 (r.dl : Int)]
/-- The cells of a record; its data is told by d. -/
def rc (r : Rec) (d : Value) : List Value := [.int .i64 (r.off : Int), .int .i64 (r.en : Int), .int .u8 r.st, .string r.nm, .int .u8 r.g, .int .u8 0, .int .u8 0, .int .u8 0, .int .u8 0, .int .u8 0, .int .u8 0, .int .u8 0, .int .u8 0, .int .u8 0, .int .u8 0, .int .u8 0, .int .u8 0, .int .u8 0, .int .u8 0, .int .u8 0, .int .u32 r.attr, d]
/-- The data slice of r over the buffer in block b. -/
def dp (b : Nat) (r : Rec) : Addr := if r.dl = 0 then ⟨b, 0, none⟩ else ⟨b, r.en - r.dl, none⟩
def dv (b : Nat) (r : Rec) : Value := .slice (some (dp b r)) r.dl r.dl
def flat (f : Rec → List Value) (R : List Rec) : List Value := R.flatMap f
theorem len_zc (r : Rec) : (zc r).length = 22 := rfl
theorem len_rc (r : Rec) (d : Value) : (rc r d).length = 22 := rfl
theorem len_flat (f : Rec → List Value) (hf : ∀ r, (f r).length = 22) (R : List Rec) : (flat f R).length = R.length * 22 := by
  induction R with
  | nil => rfl
  | cons r R ih => rw [flat, List.flatMap_cons, List.length_append, hf, ← flat, ih, List.length_cons]; omega
theorem get_flat (f : Rec → List Value) (hf : ∀ r, (f r).length = 22) {R : List Rec} {k j : Nat} {r : Rec} (hr : R[k]? = some r) (hj : j < 22) : (flat f R)[k * 22 + j]? = (f r)[j]? := by
  induction R generalizing k with
  | nil => simp at hr
  | cons a R ih =>
    rw [flat, List.flatMap_cons, ← flat]
    cases k with
    | zero =>
      simp at hr; subst hr
      rw [List.getElem?_append_left (by rw [hf]; omega)]
      simp
    | succ k =>
      rw [List.getElem?_append_right (by rw [hf]; omega), hf, show (k + 1) * 22 + j - 22 = k * 22 + j by omega]
      exact ih (by simpa using hr)
theorem flat_snoc (f : Rec → List Value) (R : List Rec) (r : Rec) : flat f (R ++ [r]) = flat f R ++ f r := by simp [flat]
/-- The cells of element k of a row of records. -/
theorem range_of_owns {w : World} {B e g n cap : Nat} {f : Rec → List Value} (hf : ∀ r, (f r).length = 22) {R : List Rec} (h : w.ownsRow B e 22 (.slice (some ⟨g, 0, none⟩) n cap) n (flat f R)) {k : Nat} {r : Rec} (hr : R[k]? = some r) :
    w.rangeAt g (k * 22) (f r) := by
  intro j v hv
  have hj : j < 22 := by have := (List.getElem?_eq_some_iff.1 hv).1; rw [hf] at this; exact this
  have hk : k < R.length := (List.getElem?_eq_some_iff.1 hr).1
  have hl := h.1
  rw [len_flat f hf] at hl
  rw [h.cellAt (k * 22 + j) (by omega), get_flat f hf hr hj, hv]
theorem there_of_owns {w : World} {B e g n cap : Nat} {xs : List Value} (h : w.ownsRow B e 22 (.slice (some ⟨g, 0, none⟩) n cap) n xs) {k : Nat} (hk : k < n) : w.there g (k * 22) 22 := by
  intro j hj
  have hl := h.1
  refine ⟨?_, h.frozenAt _⟩
  rw [h.cellAt (k * 22 + j) (by omega), List.getElem?_eq_getElem (by omega)]
  rfl
theorem info50 : (Tryf.prog.info? 50).map (·.size) = some 22 := by kernel_rfl
theorem info70 : (Tryf.prog.info? 70).map (·.size) = some 22 := by kernel_rfl
theorem index45 {g n c k : Nat} (hk : k < n) (wx : World) :
    (Instr.indexAt 45 (.slice (some ⟨g, 0, none⟩) n c) (.int .i64 (k : Int))).run Tryf.prog wx = .ok (.pointer (some ⟨g, k * 22, none⟩)) wx := by
  simp [Instr.indexAt, run_underlying Tryf.underlying45, asIntOf, hk, Addr.add_lit]
theorem index65 {g n c k : Nat} (hk : k < n) (wx : World) :
    (Instr.indexAt 65 (.slice (some ⟨g, 0, none⟩) n c) (.int .i64 (k : Int))).run Tryf.prog wx = .ok (.pointer (some ⟨g, k * 22, none⟩)) wx := by
  simp [Instr.indexAt, run_underlying Tryf.underlying65, asIntOf, hk, Addr.add_lit]

/-- A struct into the midst of a row, as the walk meets it. -/
theorem st70 (w : World) (b o : Nat) (l : List Value) (hl : l.length = 22) (h1 : (l.all fun v => v.oneCell') = true) (ht : w.there b o 22) :
    (Instr.storeAt 70 (.pointer (some ⟨b, o, none⟩)) (.agg l.toArray)).run Tryf.prog w = .ok () (w.setCells b o l) :=
  run_storeAt_mid w b o 70 l.toArray (by simpa [hl] using ht) (by rw [info70]; simp [hl]) (by simpa using h1)
theorem below_setCells {B : Nat} {w : World} {b : Nat} (hb : B ≤ b) : ∀ (vs : List Value) (o : Nat) (w' : World), Below B w w' → Below B w (w'.setCells b o vs)
  | [], _, _, h => h
  | v :: r, o, w', h => below_setCells hb r (o + 1) _ (h.setCell (p := ⟨b, o, none⟩) hb v)
theorem range_below {B : Nat} {w w' : World} {b o : Nat} {cs : List Value} (h : w.rangeAt b o cs) (hb : Below B w w') (hB : b < B) : w'.rangeAt b o cs :=
  fun j v hv => (hb.cell (p := ⟨b, o + j, none⟩) hB).trans (h j v hv)
/-- A part of a range. -/
theorem range_part {w : World} {b o : Nat} {cs ds : List Value} (i : Nat) (h : w.rangeAt b o cs) (e : (cs.drop i).take ds.length = ds) : w.rangeAt b (o + i) ds := by
  intro j v hv
  have hj : j < ds.length := (List.getElem?_eq_some_iff.1 hv).1
  have := h (i + j) v (by rw [← e, List.getElem?_take_of_lt hj, List.getElem?_drop] at hv; exact hv)
  rwa [← Nat.add_assoc] at this
theorem slice_data (bb total : Nat) (r : Rec) (h1 : r.dl ≤ r.en) (h2 : r.en ≤ total) (w : World) :
    (Instr.slice 22 (.slice (some ⟨bb, 0, none⟩) total total) (some (.int .i64 ((r.en : Int) - (r.dl : Int)))) (some (.int .i64 (r.en : Int))) (some (.int .i64 (r.en : Int)))).run Tryf.prog w = .ok (.slice (some (dp bb r)) r.dl r.dl) w := by
  have e1 : (0 : Int) ≤ (r.en : Int) - (r.dl : Int) := by omega
  have e2 : (r.en : Int) - (r.dl : Int) ≤ (r.en : Int) := by omega
  have e3 : ((r.en : Int) - (r.dl : Int)).toNat = r.en - r.dl := by omega
  by_cases h0 : r.dl = 0
  · simp [Instr.slice, Instr.sliceBounds, Instr.sliceBound, run_underlying Tryf.underlying22, asIntOf, h2, h0, dp]
  · have h3 : ¬ r.en = r.en - r.dl := by omega
    have h4 : r.en - (r.en - r.dl) = r.dl := by omega
    simp [Instr.slice, Instr.sliceBounds, Instr.sliceBound, run_underlying Tryf.underlying22, asIntOf, h2, e2, e3, h0, h3, h4, dp, Addr.add_lit]
    intro h5; omega

/-- The first k records of a row hold what Z tells; n are there. -/
def RecUp (w : World) (g n k bb : Nat) (Z : List Rec) : Prop := (∀ i, i < n → w.there g (i * 22) 22) ∧ ∀ i r, i < k → Z[i]? = some r → w.rangeAt g (i * 22) (rc r (dv bb r))
theorem RecUp.step {w : World} {g n k bb : Nat} {Z : List Rec} (h : RecUp w g n k bb Z) (hk : k < n) {r : Rec} (hr : Z[k]? = some r) : RecUp (w.setCells g (k * 22) (rc r (dv bb r))) g n (k + 1) bb Z := by
  refine ⟨fun i hi => World.there_setCells (h.1 i hi) _ _ _, fun i r' hi hr' => ?_⟩
  by_cases e : i = k
  · subst e
    rw [hr] at hr'; cases hr'
    exact World.rangeAt_setCells_same _ _ _ _ (by rw [len_rc]; exact h.1 i hk)
  · exact World.rangeAt_setCells_apart (h.2 i r' (by omega) hr') _ _ _ (.inr (.inl (by rw [len_rc]; omega)))
theorem RecUp.drewN {w : World} {g n k bb : Nat} {Z : List Rec} (h : RecUp w g n k bb Z) (q : Nat) : RecUp (w.drewN q) g n k bb Z := h
theorem info70z : (Tryf.prog.info? 70).map (fun i => (i.zero, i.size, i.bytes)) = some (some (.agg #[.int .i64 0, .int .i64 0, .int .u8 0, .string ByteArray.empty, .int .u8 0, .int .u8 0, .int .u8 0, .int .u8 0, .int .u8 0, .int .u8 0, .int .u8 0, .int .u8 0, .int .u8 0, .int .u8 0, .int .u8 0, .int .u8 0, .int .u8 0, .int .u8 0, .int .u8 0, .int .u8 0, .int .u32 0, .slice none 0 0]), 22, 88) := by kernel_rfl

/-- What make lays for n records. -/
def mk70 (n : Nat) : Array Value := madeCells #[.int .i64 0, .int .i64 0, .int .u8 0, .string ByteArray.empty, .int .u8 0, .int .u8 0, .int .u8 0, .int .u8 0, .int .u8 0, .int .u8 0, .int .u8 0, .int .u8 0, .int .u8 0, .int .u8 0, .int .u8 0, .int .u8 0, .int .u8 0, .int .u8 0, .int .u8 0, .int .u8 0, .int .u32 0, .slice none 0 0] (n * 22)
theorem make65 (n : Nat) (hn : n ≤ 4096) (w : World) : (Instr.makeSlice 65 (.int .i64 (n : Int)) (.int .i64 (n : Int))).run Tryf.prog w = .ok (.slice (some ⟨w.heap.size, 0, none⟩) n n) (w.alloc (.cells (mk70 n) 70)) := by
  obtain ⟨i0, hi, hz0, hz1, hz2⟩ := info_parts info70z
  have hmk := run_make (P := Tryf.prog) w 65 70 i0 _ Tryf.underlying65 hi hz0 .i64 .i64 (n : Int) (n : Int) (by omega) (Int.le_refl _) (by rw [hz2]; omega) (by omega)
  rw [hz1] at hmk
  simp only [Int.toNat_natCast] at hmk
  exact hmk
theorem there_made (w : World) (n i : Nat) (hi : i < n) : (w.alloc (.cells (mk70 n) 70)).there w.heap.size (i * 22) 22 := by
  intro j hj
  have hb : (w.alloc (.cells (mk70 n) 70)).heap[w.heap.size]? = some (.cells (mk70 n) 70 (0, 0)) := heap_alloc_last w _
  refine ⟨?_, by unfold World.frozen?; rw [hb]; simp⟩
  rw [cell_of_row _ _ _ _ _ _ hb]
  have hs : (mk70 n).size = n * 22 := size_madeCells _ _
  rw [Array.getElem?_eq_getElem (by omega)]
  rfl

/-- A struct into the midst of a row, its cells a letter. -/
theorem st_open (w : World) (b o : Nat) (C : Array Value) (hs : C.size = 22) (h1 : C.all (fun v => v.oneCell') = true) (ht : w.there b o 22) :
    (storeCells ⟨b, o, none⟩ C.toList).run Tryf.prog w = .ok () (w.setCells b o C.toList) := by
  have := run_storeCells_cells (P := Tryf.prog) b o C.toList 0 w (fun j hj => by simpa using (ht j (by simpa [hs] using hj)).1) (fun j hj => by simpa using (ht j (by simpa [hs] using hj)).2)
    (fun v hv => (Array.all_eq_true_iff_forall_mem.1 h1) v (by simpa using hv))
  simpa using this
set_option maxRecDepth 100000 in
set_option maxHeartbeats 3200000 in
theorem newStore (bb total zg zcap n start free end_ : Nat) (Z : List Rec) (hZ : Z.length = n) (hn : n ≤ 4096) (w : World)
    (hz : ∀ i r, Z[i]? = some r → w.rangeAt zg (i * 22) (zc r)) (hd : ∀ r ∈ Z, r.dl ≤ r.en ∧ r.en ≤ total) (ht : total ≤ 4194304) :
    Calls Tryf.prog 25 #[.slice (some ⟨bb, 0, none⟩) total total, .slice (some ⟨zg, 0, none⟩) n zcap, .int .i64 (start : Int), .int .i64 (free : Int), .int .i64 (end_ : Int)] w fun e w' =>
      ∃ s, e = .returned (.pointer (some ⟨s, 0, none⟩)) ∧ w.heap.size < s ∧ w'.heap[s]? = some (.cells #[.slice (some ⟨bb, 0, none⟩) total total, .slice (some ⟨w.heap.size, 0, none⟩) n n, .int .i64 (start : Int), .int .i64 (free : Int), .int .i64 (end_ : Int)] 72 (0, 0)) ∧
        RecUp w' w.heap.size n n bb Z ∧ Below w.heap.size w w' := by
  have hmk := make65 n hn
  have HZ : Hid (∀ i r, Z[i]? = some r → w.rangeAt zg (i * 22) (zc r)) := hz
  have HD : Hid (∀ r ∈ Z, r.dl ≤ r.en ∧ r.en ≤ total) := hd
  have HS : Hid (Z.length = n) := hZ
  clear hz hd hZ
  go_enter Tryf.func25, Tryf.ntmps25
  go_wp2_with fail
  go_loopw [12] (fun i wr => ∃ k : Nat, k ≤ n ∧ i = .int .i64 (k : Int) ∧ w.heap.size < wr.heap.size ∧ RecUp wr w.heap.size n k bb Z ∧ Below w.heap.size w wr) (fun i _ => n - (intOf i).toNat)
  case atStart => exact ⟨0, Nat.zero_le _, rfl, by simp, ⟨fun i hi => there_made w n i hi, fun i r hi => by omega⟩, (Below.refl _ _).alloc (Nat.le_refl _) _⟩
  case round =>
    obtain ⟨k, hk, rfl, hsz, hr, hb⟩ := hrel
    have HR : Hid (RecUp wr w.heap.size n k bb Z) := hr
    have HB : Hid (Below w.heap.size w wr) := hb
    have HSZ : Hid (w.heap.size < wr.heap.size) := hsz
    clear hr hb hmk hsz
    by_cases hlt : k < n
    · have hi : (k : Int) < (n : Int) := by omega
      obtain ⟨r, hrk⟩ : ∃ r, Z[k]? = some r := ⟨_, List.getElem?_eq_getElem (by rw [HS.out]; exact hlt)⟩
      have HRK : Hid (Z[k]? = some r) := hrk
      have hcz0 : w.rangeAt zg (k * 22) (zc r) := HZ.out k r hrk
      have hzlt : zg < w.heap.size := World.block_lt_of_cell? w _ (hcz0 0 _ rfl)
      have hcz : wr.rangeAt zg (k * 22) (zc r) := range_below hcz0 HB.out hzlt
      have hth : Hid (wr.there w.heap.size (k * 22) 22) := HR.out.1 k hlt
      have hix := index45 (g := zg) (c := zcap) hlt
      have hiy := index65 (g := w.heap.size) (c := n) hlt
      obtain ⟨hd1, hd2⟩ := HD.out r (List.mem_of_getElem? hrk)
      have hsl := slice_data bb total r hd1 hd2
      have HCZ : Hid (wr.rangeAt zg (k * 22) (zc r)) := hcz
      clear hcz hcz0 hrk
      obtain ⟨C0, hC0⟩ : ∃ C0 : List Value, C0 = zc r := ⟨_, rfl⟩
      have HC0 : Hid (C0 = zc r) := hC0
      have hC0s : C0.length = 22 := by rw [hC0]; rfl
      have hst0 : ∀ c : Array Value, c.size = 22 → (storeCells ⟨wr.heap.size, 0, none⟩ C0).run Tryf.prog (wr.alloc (.cells c 50)) = .ok () (wr.alloc (.cells C0.toArray 50)) := fun c hc => by
        have := run_storeCells_new (P := Tryf.prog) wr 50 c C0.toArray (by rw [info50]; simp [hC0s]) (by simp [hC0s, hc]) (by rw [hC0]; exact all_oneCell_toArray (by simp [zc, Value.oneCell']))
        simpa using this
      rw [← hC0] at HCZ
      clear hC0
      go_wp2_with (refine wpList_load_mid rfl 50 (.tmp 25) rfl zg (k * 22) rfl C0 _ HCZ.out Tryf.underlying50 rfl (by rw [info50, hC0s]) ?_)
      obtain ⟨W, hW⟩ : ∃ W, W = wr.alloc (.cells C0.toArray 50) := ⟨_, rfl⟩
      rw [← hW]
      have cz : W.rangeAt wr.heap.size 0 (zc r) := by
        rw [hW, HC0.out]
        intro j v hv
        rw [Nat.zero_add, cell_of_row _ _ _ _ _ _ (heap_alloc_last wr _)]
        simpa using hv
      have c0 : W.cell? ⟨wr.heap.size, 0, none⟩ = some (.int .i64 (r.off : Int)) := cz 0 _ rfl
      have c1 : W.cell? ⟨wr.heap.size, 1, none⟩ = some (.int .i64 (r.en : Int)) := cz 1 _ rfl
      have c2 : W.cell? ⟨wr.heap.size, 2, none⟩ = some (.int .u8 r.st) := cz 2 _ rfl
      have c3 : W.cell? ⟨wr.heap.size, 3, none⟩ = some (.string r.nm) := cz 3 _ rfl
      have c20 : W.cell? ⟨wr.heap.size, 20, none⟩ = some (.int .u32 r.attr) := cz 20 _ rfl
      have c21 : W.cell? ⟨wr.heap.size, 21, none⟩ = some (.int .i64 (r.dl : Int)) := cz 21 _ rfl
      have cg : W.rangeAt wr.heap.size 4 [.int .u8 r.g, .int .u8 0, .int .u8 0, .int .u8 0, .int .u8 0, .int .u8 0, .int .u8 0, .int .u8 0, .int .u8 0, .int .u8 0, .int .u8 0, .int .u8 0, .int .u8 0, .int .u8 0, .int .u8 0, .int .u8 0] := by have := range_part (ds := [.int .u8 r.g, .int .u8 0, .int .u8 0, .int .u8 0, .int .u8 0, .int .u8 0, .int .u8 0, .int .u8 0, .int .u8 0, .int .u8 0, .int .u8 0, .int .u8 0, .int .u8 0, .int .u8 0, .int .u8 0, .int .u8 0]) 4 cz (by rfl); rwa [Nat.zero_add] at this
      clear cz hst0 hC0s HC0
      have ct : W.there w.heap.size (k * 22) 22 := by rw [hW]; exact World.there_alloc hth.out _
      have HW : Hid (RecUp W w.heap.size n k bb Z ∧ Below w.heap.size w W ∧ w.heap.size < W.heap.size) := by
        rw [hW]
        refine ⟨⟨fun i hi => World.there_alloc (HR.out.1 i hi) _, fun i r' hi hr' => World.rangeAt_alloc (HR.out.2 i r' hi hr') _⟩, HB.out.alloc HB.out.size _, ?_⟩
        have := HSZ.out; simp; omega
      have hne : wr.heap.size ≠ w.heap.size := by have := HSZ.out; omega
      have hne2 : ¬ w.heap.size = wr.heap.size := fun h => hne h.symm
      have hen : (r.en : Int) ≤ 4194304 := by omega
      have hden : (r.dl : Int) ≤ (r.en : Int) := by omega
      have hu47 := Tryf.underlying47
      have hi47 : (Tryf.prog.info? 47).map (·.size) = some ([.int .u8 r.g, .int .u8 0, .int .u8 0, .int .u8 0, .int .u8 0, .int .u8 0, .int .u8 0, .int .u8 0, .int .u8 0, .int .u8 0, .int .u8 0, .int .u8 0, .int .u8 0, .int .u8 0, .int .u8 0, .int .u8 0] : List Value).length := by kernel_rfl
      have hwr : IntKind.i64.wrap ((r.en : Int) - (r.dl : Int)) = (r.en : Int) - (r.dl : Int) := by rw [IntKind.wrap_i64]; omega
      obtain ⟨C, hC⟩ : ∃ C : Array Value, (#[.int .i64 (r.off : Int), .int .i64 (r.en : Int), .int .u8 r.st, .string r.nm, .int .u8 r.g, .int .u8 0, .int .u8 0, .int .u8 0, .int .u8 0, .int .u8 0, .int .u8 0, .int .u8 0, .int .u8 0, .int .u8 0, .int .u8 0, .int .u8 0, .int .u8 0, .int .u8 0, .int .u8 0, .int .u8 0, .int .u32 r.attr, .slice (some (dp bb r)) r.dl r.dl] : Array Value) = C := ⟨_, rfl⟩
      have HCC : Hid (C.toList = rc r (dv bb r)) := by rw [← hC]; rfl
      have hCs : C.size = 22 := by rw [← hC]; rfl
      have hst : ∀ w' : World, w'.there w.heap.size (k * 22) 22 → (storeCells ⟨w.heap.size, k * 22, none⟩ C.toList).run Tryf.prog w' = .ok () (w'.setCells w.heap.size (k * 22) C.toList) :=
        fun w' h => st_open w' _ _ C hCs (by rw [← hC]; simp [Value.oneCell']) h
      clear hW HR HB hth hix
      go_region_held3 (fun w' => w'.cell? ⟨wr.heap.size, 0, none⟩ = some (.int .i64 (r.off : Int)) ∧ w'.cell? ⟨wr.heap.size, 1, none⟩ = some (.int .i64 (r.en : Int)) ∧ w'.cell? ⟨wr.heap.size, 2, none⟩ = some (.int .u8 r.st) ∧ w'.cell? ⟨wr.heap.size, 3, none⟩ = some (.string r.nm) ∧ w'.cell? ⟨wr.heap.size, 20, none⟩ = some (.int .u32 r.attr) ∧ w'.cell? ⟨wr.heap.size, 21, none⟩ = some (.int .i64 (r.dl : Int)) ∧ w'.rangeAt wr.heap.size 4 [.int .u8 r.g, .int .u8 0, .int .u8 0, .int .u8 0, .int .u8 0, .int .u8 0, .int .u8 0, .int .u8 0, .int .u8 0, .int .u8 0, .int .u8 0, .int .u8 0, .int .u8 0, .int .u8 0, .int .u8 0, .int .u8 0] ∧ w'.there w.heap.size (k * 22) 22)
        (first
          | (go_split_ands; simp only [World.rangeAt_drew, World.there_drew, World.cell?_drew]; refine ⟨?_, ?_, ?_, ?_, ?_, ?_, ?_, ?_⟩ <;> with_reducible assumption)
          | (go_split_ands
             (try simp only [World.rangeAt_drew, World.there_drew, World.cell?_drew])
             refine ⟨?_, ?_, ?_, ?_, ?_, ?_, ?_, ?_⟩
             · (rw [World.cell?_setCells_out _ _ _ _ _ (fun h => absurd h hne)]; assumption)
             · (rw [World.cell?_setCells_out _ _ _ _ _ (fun h => absurd h hne)]; assumption)
             · (rw [World.cell?_setCells_out _ _ _ _ _ (fun h => absurd h hne)]; assumption)
             · (rw [World.cell?_setCells_out _ _ _ _ _ (fun h => absurd h hne)]; assumption)
             · (rw [World.cell?_setCells_out _ _ _ _ _ (fun h => absurd h hne)]; assumption)
             · (rw [World.cell?_setCells_out _ _ _ _ _ (fun h => absurd h hne)]; assumption)
             · exact World.rangeAt_setCells_apart (by assumption) _ _ _ (.inl hne)
             · exact World.there_setCells (by assumption) _ _ _))
        (fail)
      have HF : Hid (RecUp (W.drew.setCells w.heap.size (k * 22) C.toList) w.heap.size n (k + 1) bb Z ∧ Below w.heap.size w (W.drew.setCells w.heap.size (k * 22) C.toList) ∧ w.heap.size < (W.drew.setCells w.heap.size (k * 22) C.toList).heap.size) := by
        rw [HCC.out]
        obtain ⟨h1, h2, h3⟩ := HW.out
        have h4 : Below w.heap.size w (W.drew.setCells w.heap.size (k * 22) (rc r (dv bb r))) := below_setCells (Nat.le_refl _) _ _ _ h2.drew
        have h5 : Below 0 W.drew (W.drew.setCells w.heap.size (k * 22) (rc r (dv bb r))) := below_setCells (Nat.zero_le _) _ _ _ (Below.refl _ _)
        refine ⟨RecUp.step (w := W.drew) h1 hlt HRK.out, h4, Nat.lt_of_lt_of_le h3 h5.size⟩
      go_wp2_with fail
      go_roundw
      case rel => exact ⟨k + 1, by omega, by go_num, HF.out.2.2, HF.out.1, HF.out.2.1⟩
      case measure => simp [intOf]; omega
    · have hd : decide ((k : Int) < (n : Int)) = false := by simp; omega
      obtain rfl : k = n := by omega
      have hnew := heap_alloc_last wr
      go_wp2_with fail
      go_ret
      exact ⟨wr.heap.size, rfl, HSZ.out, heap_alloc_last wr _, ⟨fun i hi => World.there_alloc (HR.out.1 i hi) _, fun i r' hi hr' => World.rangeAt_alloc (HR.out.2 i r' hi hr') _⟩, HB.out.alloc HB.out.size _⟩
end Go.Proofs.Qxb6003952aFmt
