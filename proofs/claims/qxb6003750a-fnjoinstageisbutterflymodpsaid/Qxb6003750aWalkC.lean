/- The walks of zzClone, zzBytes, joinStage. -/
import Derived.Test.Qxb6003750aWalkB
import Derived.Laws.CopyOwn
import Derived.Deep.OwnRows
import Derived.Deep.QuietTactic
import Derived.BigQuiet
namespace Go.Proofs.Qxb6003750a
open Go.RowKit Pl
set_option linter.unusedVariables false

theorem info22 : (Try.prog.info? 22).map (fun i => (i.zero, i.size, i.bytes)) = some (some (.int .u64 0), 1, 8) := by kernel_rfl
theorem size22 : (Try.prog.info? 22).map (·.size) = some 1 := by kernel_rfl

/-- A row of numbers, by the index. -/
def U (X : Nat → Int) : Nat → Value := fun i => .int .u64 (X i)
def cellsU (X : Nat → Int) (n : Nat) : List Value := (List.range n).map (U X)
theorem length_cellsU (X : Nat → Int) (n : Nat) : (cellsU X n).length = n := by simp [cellsU]
theorem get_cellsU {X : Nat → Int} {n j : Nat} {v : Value} (h : (cellsU X n)[j]? = some v) : j < n ∧ v = U X j := by
  have h1 : j < n := by have := (List.getElem?_eq_some_iff.1 h).1; rwa [length_cellsU] at this
  rw [cellsU, List.getElem?_map, List.getElem?_range h1] at h
  exact ⟨h1, (Option.some.inj h).symm⟩

theorem clone_nil (w : World) : Calls Try.prog 12 #[.slice none 0 0] w fun e w' => e = .returned (.slice none 0 0) ∧ w' = w := by
  have hnil := fun w => Lib.run_eql_slice_nil (P := Try.prog) w 26 22 none 0 0 0 0 Try.underlying26
  go_enter Try.func12, Try.ntmps12
  go_wp2
  go_ret
  exact ⟨rfl, rfl⟩

theorem clone_row {w w2 : World} {n : Nat} {X : Nat → Int} {cur : List Value} (hc : cur.length = n)
    (h : Hid (w2.heap[w.heap.size]? = some (.cells (splice cur 0 (cellsU X n)).toArray 22 (0, 0)))) : w2.rowIs w.heap.size 22 n (U X) := by
  refine ⟨_, h.out, ?_, ?_⟩
  · have := length_splice cur 0 (cellsU X n) (by rw [length_cellsU]; omega)
    simpa [hc] using this
  · intro i hi
    have e : (splice cur 0 (cellsU X n)) = cellsU X n := by
      have hd : cur.drop (0 + (cellsU X n).length) = [] := by rw [length_cellsU]; exact List.drop_eq_nil_of_le (by omega)
      rw [splice, hd]; simp
    rw [e, List.getElem?_toArray, cellsU, List.getElem?_map, List.getElem?_range hi]
    rfl

set_option maxHeartbeats 400000 in
theorem clone_some (x : Addr) (n c : Nat) (X : Nat → Int) (hn : n ≤ 1048576) (w : World) (hcell : ∀ i, i < n → w.cell? (x.add i) = some (.int .u64 (X i))) :
    Calls Try.prog 12 #[.slice (some x) n c] w fun e w' => e = .returned (.slice (some ⟨w.heap.size, 0, none⟩) n n) ∧ w'.rowIs w.heap.size 22 n (U X) ∧ Below w.heap.size w w' := by
  have hnil := fun w => Lib.run_eql_slice_nil (P := Try.prog) w 26 22 (some x) n c 0 0 Try.underlying26
  have hmk := run_make_row' (P := Try.prog) 26 22 (.int .u64 0) 8 Try.underlying26 info22 rfl .i64 .i64 n (by omega) (by omega)
  have HC : Hid (∀ i, i < n → w.cell? (x.add i) = some (.int .u64 (X i))) := hcell
  clear hcell
  go_enter Try.func12, Try.ntmps12
  go_wp2_with (refine wpList_copy_splice rfl (.tmp 9) (.tmp 10) 26 26 rfl 22 Try.underlying26 size22 _ _ _ _ _ _ rfl rfl w.heap.size 0 (madeCells #[.int .u64 0] n).toList 22 ?_ (cellsU X n) ?_ ?_ ?_ ?_ w.heap.size w ?_ ?_ ?_)
  · rw [heap_alloc_new]
  · rw [length_cellsU]; simp
  · intro _ j v hv
    obtain ⟨hj, rfl⟩ := get_cellsU hv
    have hc := HC.out j hj
    have hb := block_lt_of_cell hc
    exact (World.cell?_of_block (w := w) (Below.heap_alloc _ _ _ hb)).trans hc
  · rw [length_cellsU]; simp [madeCells]
  · intro v hv
    simp only [cellsU, List.mem_map] at hv
    obtain ⟨i, _, rfl⟩ := hv
    rfl
  · exact (Below.refl _ _).alloc (Nat.le_refl _) _
  · exact Nat.le_refl _
  · intro w2 hrow hbel
    have hR : Hid (w2.rowIs w.heap.size 22 n (U X)) := clone_row (by simp [madeCells]) hrow
    have HB : Hid (Below w.heap.size w w2) := hbel
    clear hrow hbel
    go_wp2
    go_ret
    exact ⟨rfl, hR.out, HB.out⟩

/-- Only the blocks of S may have turned. -/
structure Only (S : Nat → Prop) (w w' : World) : Prop where
  os : w'.os = w.os
  tape : w'.tape = w.tape
  output : w'.output = w.output
  size : w'.heap.size = w.heap.size
  block : ∀ k, ¬ S k → w'.heap[k]? = w.heap[k]?
theorem Only.refl (S : Nat → Prop) (w : World) : Only S w w := ⟨rfl, rfl, rfl, rfl, fun _ _ => rfl⟩
theorem Only.drewN {S : Nat → Prop} {w w' : World} (h : Only S w w') (n : Nat) : Only S w (w'.drewN n) := ⟨h.os, h.tape, h.output, h.size, h.block⟩
theorem Only.setCell {S : Nat → Prop} {w w' : World} (h : Only S w w') (b i : Nat) (v : Value) (hb : S b) : Only S w (w'.setCell ⟨b, i, none⟩ v) :=
  ⟨h.os, h.tape, h.output, by rw [← h.size]; simp [World.setCell], fun k hk => by
    rw [Below.heap_setCell _ _ _ _ (by rintro rfl; exact hk hb)]; exact h.block k hk⟩
theorem Only.below {S : Nat → Prop} {w w' : World} {B : Nat} (h : Only S w w') (hB : ∀ k, S k → B ≤ k) : Below B w w' :=
  ⟨h.os, h.tape, h.output, by rw [h.size]; exact Nat.le_refl _, fun k hk => h.block k (fun hs => by have := hB k hs; omega)⟩

theorem rowIs_drewN {w : World} {b : Nat} {t : TypeId} {n : Nat} {f : Nat → Value} (h : w.rowIs b t n f) (q : Nat) : (w.drewN q).rowIs b t n f := h

/-- What joinStage makes of x and y behind k rounds. -/
def jX (X Y Z : Nat → Int) (k : Nat) (i : Nat) : Int := if i < k then addM (X i) (mulM (Y i) (Z i)) else X i
def jY (X Y Z : Nat → Int) (k : Nat) (i : Nat) : Int := if i < k then subM (X i) (mulM (Y i) (Z i)) else Y i
theorem jX_at (X Y Z : Nat → Int) (k : Nat) : jX X Y Z k k = X k := by simp [jX]
theorem jY_at (X Y Z : Nat → Int) (k : Nat) : jY X Y Z k k = Y k := by simp [jY]
theorem jX_step {w : World} {b n k : Nat} {X Y Z : Nat → Int} (h : w.rowIs b 22 n (U (jX X Y Z k))) :
    (w.setCell ⟨b, k, none⟩ (.int .u64 (addM (X k) (mulM (Y k) (Z k))))).rowIs b 22 n (U (jX X Y Z (k + 1))) := by
  refine (h.set k _).congr fun j _ => ?_
  by_cases e : j = k
  · subst e; simp [U, jX]
  · rw [if_neg e]
    simp only [U, jX, show (j < k + 1) = (j < k) by simp; omega]
theorem jY_step {w : World} {b n k : Nat} {X Y Z : Nat → Int} (h : w.rowIs b 22 n (U (jY X Y Z k))) :
    (w.setCell ⟨b, k, none⟩ (.int .u64 (subM (X k) (mulM (Y k) (Z k))))).rowIs b 22 n (U (jY X Y Z (k + 1))) := by
  refine (h.set k _).congr fun j _ => ?_
  by_cases e : j = k
  · subst e; simp [U, jY]
  · rw [if_neg e]
    simp only [U, jY, show (j < k + 1) = (j < k) by simp; omega]

set_option maxHeartbeats 800000 in
theorem joinStage_some (bx b_y bw n m l : Nat) (X Y Z : Nat → Int) (hn0 : 0 < n) (hnm : n ≤ m) (hnl : n ≤ l) (hn : n ≤ 1048576) (hm : m ≤ 1048576) (hl : l ≤ 1048576)
    (wX : ∀ i, Word (X i)) (wY : ∀ i, Word (Y i)) (wZ : ∀ i, Word (Z i)) (d1 : bx ≠ b_y) (d2 : bx ≠ bw) (d3 : b_y ≠ bw)
    (w : World) (rx : w.rowIs bx 22 n (U X)) (ry : w.rowIs b_y 22 m (U Y)) (rz : w.rowIs bw 22 l (U Z)) :
    Calls Try.prog 17 #[.slice (some ⟨bx, 0, none⟩) n n, .slice (some ⟨b_y, 0, none⟩) m m, .slice (some ⟨bw, 0, none⟩) l l] w fun e w' =>
      e = .returned (.tuple #[]) ∧ w'.rowIs bx 22 n (U (jX X Y Z n)) ∧ w'.rowIs b_y 22 m (U (jY X Y Z n)) ∧ Only (fun k => k = bx ∨ k = b_y) w w' := by
  have RX : Hid (w.rowIs bx 22 n (U (jX X Y Z 0))) := rx.congr fun i _ => by simp [U, jX]
  have RY : Hid (w.rowIs b_y 22 m (U (jY X Y Z 0))) := ry.congr fun i _ => by simp [U, jY]
  have RZ : Hid (w.rowIs bw 22 l (U Z)) := rz
  clear rx ry rz
  go_enter Try.func17, Try.ntmps17
  go_wp2
  go_quiet (fail)
  go_wp2
  go_loopw [19] (fun i wr => ∃ k : Nat, k ≤ n ∧ i = .int .i64 k ∧ wr.rowIs bx 22 n (U (jX X Y Z k)) ∧ wr.rowIs b_y 22 m (U (jY X Y Z k)) ∧ wr.rowIs bw 22 l (U Z) ∧ Only (fun k => k = bx ∨ k = b_y) w wr) (fun i _ => n - (intOf i).toNat)
  case atStart => exact ⟨0, Nat.zero_le _, rfl, RX.out, RY.out, RZ.out, (Only.refl _ _).drewN _⟩
  case round =>
    obtain ⟨k, hk, rfl, rx, ry, rz, hon⟩ := hrel
    clear RX RY RZ
    have RX : Hid (wr.rowIs bx 22 n (U (jX X Y Z k))) := rx
    have RY : Hid (wr.rowIs b_y 22 m (U (jY X Y Z k))) := ry
    have RZ : Hid (wr.rowIs bw 22 l (U Z)) := rz
    have HO : Hid (Only (fun k => k = bx ∨ k = b_y) w wr) := hon
    clear rx ry rz hon
    by_cases hlt : k < n
    · have cx : wr.cell? ⟨bx, k, none⟩ = some (.int .u64 (X k)) := by rw [RX.out.cell hlt]; simp [U, jX_at]
      have cy : wr.cell? ⟨b_y, k, none⟩ = some (.int .u64 (Y k)) := by rw [RY.out.cell (by omega)]; simp [U, jY_at]
      have cz : wr.cell? ⟨bw, k, none⟩ = some (.int .u64 (Z k)) := by rw [RZ.out.cell (by omega)]; simp [U]
      have fx : wr.frozen? ⟨bx, k, none⟩ = false := RX.out.frozen k
      have fy : wr.frozen? ⟨b_y, k, none⟩ = false := RY.out.frozen k
      have hi1 : (k : Int) < (n : Int) := by omega
      have wx := wX k
      have wy := wY k
      have wz := wZ k
      have HS : Hid (Word (mulM (Y k) (Z k))) := mulM_word wy wz
      go_wp2_with fail
      go_quiet ((go_at_call 20; exact Calls.quiet_of_same (mulMod_any _ _ wy wz _)))
      go_wp2_with (first
        | (go_at_call 15; refine (addMod_any _ _ wx HS.out _).mono ?_; rintro e w' ⟨rfl, rfl⟩)
        | (go_at_call 16; refine (subMod_any _ _ wx HS.out _).mono ?_; rintro e w' ⟨rfl, rfl⟩))
      have RX' := jX_step (rowIs_drewN RX.out nq)
      have RY' := jY_step ((rowIs_drewN RY.out nq).setOther (a := ⟨bx, k, none⟩) (fun h => d1 h.symm) (.int .u64 (addM (X k) (mulM (Y k) (Z k)))))
      have HO' := ((HO.out.drewN nq).setCell bx k (.int .u64 (addM (X k) (mulM (Y k) (Z k)))) (.inl rfl)).setCell b_y k (.int .u64 (subM (X k) (mulM (Y k) (Z k)))) (.inr rfl)
      go_roundw
      case rel => exact ⟨k + 1, by omega, by go_num, RX'.setOther (a := ⟨b_y, k, none⟩) d1 _, RY', ((rowIs_drewN RZ.out nq).setOther (a := ⟨bx, k, none⟩) (fun h => d2 h.symm) _).setOther (a := ⟨b_y, k, none⟩) (fun h => d3 h.symm) _, HO'⟩
      case measure => simp [intOf]; omega
    · have hd : decide ((k : Int) < (n : Int)) = false := by simp; omega
      obtain rfl : k = n := by omega
      go_wp2_with fail
      go_end0
      exact ⟨rfl, RX.out, RY.out, HO.out⟩

/-- x has no element: nothing turns. -/
theorem joinStage_none (ax ay aw : Option Addr) (m l : Nat) (hm : m ≤ 1048576) (hl : l ≤ 1048576) (w : World) :
    Calls Try.prog 17 #[.slice ax 0 0, .slice ay m m, .slice aw l l] w fun e w' => e = .returned (.tuple #[]) ∧ ∃ q, w' = w.drewN q := by
  have hm0 : (0 : Int) ≤ (m : Int) := by omega
  have hl0 : (0 : Int) ≤ (l : Int) := by omega
  have hd : decide ((0 : Int) < (0 : Int)) = false := by decide
  go_enter Try.func17, Try.ntmps17
  go_wp2
  go_quiet (fail)
  all_goals
    go_wp2
    refine wp_loop_rounds 1 ?_
    rw [rounds_succ]
    go_wp2
    go_end0
    exact ⟨rfl, _, rfl⟩

/-- A slice of the call's own: nil and without elements, or the row of block b. -/
def Row' (w : World) (ao : Option Addr) (b n : Nat) (X : Nat → Int) : Prop := (ao = none ∧ n = 0) ∨ (ao = some ⟨b, 0, none⟩ ∧ w.rowIs b 22 n (U X))
/-- A slice whose elements can be read. -/
def Src (w : World) (ao : Option Addr) (n c : Nat) (X : Nat → Int) : Prop := (ao = none ∧ n = 0 ∧ c = 0) ∨ ∃ x, ao = some x ∧ ∀ i, i < n → w.cell? (x.add i) = some (.int .u64 (X i))
theorem Src.keep {w w' : World} {ao : Option Addr} {n c : Nat} {X : Nat → Int} (h : Src w ao n c X) (hb : Below w.heap.size w w') : Src w' ao n c X := by
  rcases h with h | ⟨x, rfl, hc⟩
  · exact .inl h
  · exact .inr ⟨x, rfl, fun i hi => (hb.cell (block_lt_of_cell (hc i hi))).trans (hc i hi)⟩
theorem Row'.keep {w w' : World} {ao : Option Addr} {b n : Nat} {X : Nat → Int} (h : Row' w ao b n X) (hb : Below w.heap.size w w') : Row' w' ao b n X := by
  rcases h with h | ⟨rfl, hr⟩
  · exact .inl h
  · exact .inr ⟨rfl, hr.of_block (hb.block _ hr.lt)⟩
theorem Row'.src {w : World} {ao : Option Addr} {b n : Nat} {X : Nat → Int} (h : Row' w ao b n X) : Src w ao n n X := by
  rcases h with ⟨rfl, rfl⟩ | ⟨rfl, hr⟩
  · exact .inl ⟨rfl, rfl, rfl⟩
  · exact .inr ⟨_, rfl, fun i hi => by rw [Addr.add_lit, Nat.zero_add, hr.cell hi]; rfl⟩
theorem Row'.pos {w : World} {ao : Option Addr} {b n : Nat} {X : Nat → Int} (h : Row' w ao b n X) (hn : 0 < n) : ao = some ⟨b, 0, none⟩ ∧ w.rowIs b 22 n (U X) := by
  rcases h with ⟨rfl, rfl⟩ | h
  · omega
  · exact h
theorem Row'.only {S : Nat → Prop} {w w' : World} {ao : Option Addr} {b n : Nat} {X : Nat → Int} (h : Row' w ao b n X) (ho : Only S w w') (hb : ¬ S b) : Row' w' ao b n X := by
  rcases h with h | ⟨rfl, hr⟩
  · exact .inl h
  · exact .inr ⟨rfl, hr.of_block (ho.block _ hb)⟩
theorem Row'.congr {w : World} {ao : Option Addr} {b n : Nat} {X Y : Nat → Int} (h : Row' w ao b n X) (e : ∀ i, i < n → X i = Y i) : Row' w ao b n Y := by
  rcases h with h | ⟨rfl, hr⟩
  · exact .inl h
  · exact .inr ⟨rfl, hr.congr fun i hi => by simp only [U, e i hi]⟩
theorem clone_any (ao : Option Addr) (n c : Nat) (X : Nat → Int) (hn : n ≤ 1048576) (w : World) (h : Src w ao n c X) :
    Calls Try.prog 12 #[.slice ao n c] w fun e w' => ∃ ao', e = .returned (.slice ao' n n) ∧ Row' w' ao' w.heap.size n X ∧ Below w.heap.size w w' := by
  rcases h with ⟨rfl, rfl, rfl⟩ | ⟨x, rfl, hc⟩
  · refine (clone_nil w).mono ?_
    rintro e w' ⟨rfl, rfl⟩
    exact ⟨none, rfl, .inl ⟨rfl, rfl⟩, Below.refl _ _⟩
  · refine (clone_some x n c X hn w hc).mono ?_
    rintro e w' ⟨rfl, hr, hb⟩
    exact ⟨_, rfl, .inr ⟨rfl, hr⟩, hb⟩

theorem joinStage_any (ax ay aw : Option Addr) (bx b_y bw n m l : Nat) (X Y Z : Nat → Int) (hnm : n ≤ m) (hnl : n ≤ l) (hn : n ≤ 1048576) (hm : m ≤ 1048576) (hl : l ≤ 1048576)
    (wX : ∀ i, Word (X i)) (wY : ∀ i, Word (Y i)) (wZ : ∀ i, Word (Z i)) (hd : 0 < n → bx ≠ b_y ∧ bx ≠ bw ∧ b_y ≠ bw)
    (w : World) (rx : Row' w ax bx n X) (ry : Row' w ay b_y m Y) (rz : Row' w aw bw l Z) :
    Calls Try.prog 17 #[.slice ax n n, .slice ay m m, .slice aw l l] w fun e w' =>
      e = .returned (.tuple #[]) ∧ Row' w' ax bx n (jX X Y Z n) ∧ Row' w' ay b_y m (jY X Y Z n) ∧ Only (fun k => 0 < n ∧ (k = bx ∨ k = b_y)) w w' := by
  by_cases h : 0 < n
  · obtain ⟨rfl, rx'⟩ := rx.pos h
    obtain ⟨rfl, ry'⟩ := ry.pos (by omega)
    obtain ⟨rfl, rz'⟩ := rz.pos (by omega)
    obtain ⟨d1, d2, d3⟩ := hd h
    refine (joinStage_some bx b_y bw n m l X Y Z h hnm hnl hn hm hl wX wY wZ d1 d2 d3 w rx' ry' rz').mono ?_
    rintro e w' ⟨rfl, h1, h2, h3⟩
    exact ⟨rfl, .inr ⟨rfl, h1⟩, .inr ⟨rfl, h2⟩, ⟨h3.os, h3.tape, h3.output, h3.size, fun k hk => h3.block k (fun e => hk ⟨h, e⟩)⟩⟩
  · obtain rfl : n = 0 := by omega
    refine (joinStage_none ax ay aw m l hm hl w).mono ?_
    rintro e w' ⟨rfl, q, rfl⟩
    refine ⟨rfl, ?_, ?_, (Only.refl _ _).drewN q⟩
    · exact (Row'.congr (w := w) rx (fun i hi => by omega))
    · exact (Row'.congr (w := w) ry (fun i hi => by simp [jY]))
theorem zzjoinStage_any (ax ay aw : Option Addr) (bx b_y bw n m l : Nat) (X Y Z : Nat → Int) (hnm : n ≤ m) (hnl : n ≤ l) (hn : n ≤ 1048576) (hm : m ≤ 1048576) (hl : l ≤ 1048576)
    (wX : ∀ i, Word (X i)) (wY : ∀ i, Word (Y i)) (wZ : ∀ i, Word (Z i)) (hd : 0 < n → bx ≠ b_y ∧ bx ≠ bw ∧ b_y ≠ bw)
    (w : World) (rx : Row' w ax bx n X) (ry : Row' w ay b_y m Y) (rz : Row' w aw bw l Z) :
    Calls Try.prog 13 #[.slice ax n n, .slice ay m m, .slice aw l l] w fun e w' =>
      e = .returned (.tuple #[]) ∧ Row' w' ax bx n (jX X Y Z n) ∧ Row' w' ay b_y m (jY X Y Z n) ∧ Only (fun k => 0 < n ∧ (k = bx ∨ k = b_y)) w w' := by
  have J : Hid (∀ w : World, Row' w ax bx n X → Row' w ay b_y m Y → Row' w aw bw l Z → Calls Try.prog 17 #[.slice ax n n, .slice ay m m, .slice aw l l] w fun e w' =>
      e = .returned (.tuple #[]) ∧ Row' w' ax bx n (jX X Y Z n) ∧ Row' w' ay b_y m (jY X Y Z n) ∧ Only (fun k => 0 < n ∧ (k = bx ∨ k = b_y)) w w') :=
    fun w rx ry rz => joinStage_any ax ay aw bx b_y bw n m l X Y Z hnm hnl hn hm hl wX wY wZ hd w rx ry rz
  have RX : Hid (Row' w ax bx n X) := rx
  have RY : Hid (Row' w ay b_y m Y) := ry
  have RZ : Hid (Row' w aw bw l Z) := rz
  clear rx ry rz
  go_enter Try.func13, Try.ntmps13
  go_wp2_with fail
  refine (J.out w RX.out RY.out RZ.out).mono ?_
  rintro e w' ⟨rfl, h1, h2, h3⟩
  have H1 : Hid (Row' w' ax bx n (jX X Y Z n)) := h1
  have H2 : Hid (Row' w' ay b_y m (jY X Y Z n)) := h2
  have H3 : Hid (Only (fun k => 0 < n ∧ (k = bx ∨ k = b_y)) w w') := h3
  clear h1 h2 h3
  go_wp2_with fail
  go_end0
  exact ⟨rfl, H1.out, H2.out, H3.out⟩

set_option maxHeartbeats 400000 in
theorem bytes_yes (a0 a1 a2 : Option Addr) (n m l c0 c1 c2 : Nat) (h : n + m + l ≤ 1048576) (w : World) :
    Calls Try.prog 11 #[.slice a0 n c0, .slice a1 m c1, .slice a2 l c2] w fun e w' => e = .returned (.bool true) ∧ w' = w := by
  go_enter Try.func11, Try.ntmps11
  go_wp2
  go_ret
  exact ⟨rfl, rfl⟩
set_option maxHeartbeats 400000 in
theorem bytes_no (a0 a1 a2 : Option Addr) (n m l c0 c1 c2 : Nat) (h : ¬ n + m + l ≤ 1048576) (hn : n ≤ maxLen) (hm : m ≤ maxLen) (hl : l ≤ maxLen) (w : World) :
    Calls Try.prog 11 #[.slice a0 n c0, .slice a1 m c1, .slice a2 l c2] w fun e w' => e = .returned (.bool false) ∧ w' = w := by
  unfold maxLen at *
  go_enter Try.func11, Try.ntmps11
  go_wp2
  all_goals (go_ret; exact ⟨rfl, rfl⟩)
end Go.Proofs.Qxb6003750a
