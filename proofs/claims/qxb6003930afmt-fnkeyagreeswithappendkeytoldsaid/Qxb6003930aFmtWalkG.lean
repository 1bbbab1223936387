/- The walk of FnKeyAgreesWithAppendKey. -/
import Derived.Test.Qxb6003930aFmtWalkF
import Derived.Laws.IdiomStrings
namespace Go.Proofs.Qxb6003930aFmt
open Go.RowKit Go.Extern.Stop Go.Stop Go.Extern
set_option linter.unusedVariables false

theorem size_cut {s : ByteArray} {m : Nat} (h : m ≤ s.size) : (s.extract 0 m).size = m := by simp; omega
theorem ch_cut {s : ByteArray} {m i : Nat} (h : m ≤ s.size) (hi : i < m) : ch (s.extract 0 m) i = ch s i := by
  have h1 : i < (s.extract 0 m).size := by rw [size_cut h]; exact hi
  rw [ch, ch, dif_pos h1, dif_pos (by omega)]
  simp [ByteArray.getElem_extract]

theorem index22 {ao : Option Addr} {b n c k : Nat} (hk : k < n) (ha : ao = some ⟨b, 0, none⟩) (wx : World) :
    (Instr.indexAt 22 (.slice ao n c) (.int .i64 (k : Int))).run Tryf.prog wx = .ok (.pointer (some ⟨b, k, none⟩)) wx := by
  subst ha
  simp [Instr.indexAt, run_underlying Tryf.underlying22, asIntOf, go_sem, hk]

set_option maxHeartbeats 400000 in
theorem hasPrefix_yes (g m c : Nat) (ao : Option Addr) (n c2 : Nat) (X Y : Nat → Int) (w : World) (hm : m ≤ 2097152) (hnm : n ≤ m) (hy : Dat w (some ⟨g, 0, none⟩) m Y) (hx : Dat w ao n X) (heq : ∀ i, i < n → Y i = X i) :
    Calls Tryf.prog 10 #[.slice (some ⟨g, 0, none⟩) m c, .slice ao n c2] w fun e w' => e = .returned (.bool true) ∧ Same w w' := by
  have t1 : decide ((m : Int) < (n : Int)) = false := by simp; omega
  have t1n : decide (m < n) = false := by simp; omega
  have HX : Hid (Dat w ao n X) := hx
  have HY : Hid (Dat w (some ⟨g, 0, none⟩) m Y) := hy
  have HE : Hid (∀ i, i < n → Y i = X i) := heq
  clear hx hy heq
  go_enter Tryf.func10, Tryf.ntmps10
  go_wp2_with fail
  go_loopw [5] (fun i wr => ∃ k : Nat, k ≤ n ∧ i = .int .i64 (k : Int) ∧ Same w wr) (fun i _ => n - (intOf i).toNat)
  case atStart => exact ⟨0, Nat.zero_le _, rfl, Same.refl _⟩
  case round =>
    obtain ⟨k, hk, rfl, hsm⟩ := hrel
    have HS : Hid (Same w wr) := hsm
    clear hsm
    by_cases hlt : k < n
    · have hl : (k : Int) < (n : Int) := by omega
      have hl2 : (k : Int) < (m : Int) := by omega
      obtain ⟨b, ha, hcx⟩ : ∃ b, ao = some ⟨b, 0, none⟩ ∧ wr.cell? ⟨b, k, none⟩ = some (.int .u8 (X k)) := by
        rcases HX.out with h | ⟨b, h, hc⟩
        · omega
        · refine ⟨b, h, ?_⟩
          obtain ⟨q, rfl⟩ := HS.out
          exact hc k hlt
      have hcy : wr.cell? ⟨g, k, none⟩ = some (.int .u8 (X k)) := by
        rcases HY.out with h | ⟨b', h, hc⟩
        · omega
        · simp at h; subst h
          obtain ⟨q, rfl⟩ := HS.out
          have := hc k (by omega)
          rw [HE.out k hlt] at this
          exact this
      have hix := index22 (c := c2) hlt ha
      clear ha
      go_wp2_with fail
      go_quiet (fail)
      go_wp2_with fail
      go_roundw
      case rel => exact ⟨k + 1, by omega, by go_num, HS.out.drewN _⟩
      case measure => simp [intOf]; omega
    · have hl : decide ((k : Int) < (n : Int)) = false := by simp; omega
      have hln : n ≤ k := by omega
      go_wp2_with fail
      go_ret
      exact ⟨rfl, HS.out⟩

theorem bytes6_yes (a0 : Option Addr) (n c : Nat) (s : ByteArray) (h : n + s.size ≤ 1048576) (w : World) : Calls Tryf.prog 6 #[.slice a0 n c, .string s] w fun e w' => e = .returned (.bool true) ∧ w' = w := by
  go_enter Tryf.func6, Tryf.ntmps6
  go_wp2
  go_ret
  exact ⟨rfl, rfl⟩
theorem bytes6_no (a0 : Option Addr) (n c : Nat) (s : ByteArray) (h : ¬ n + s.size ≤ 1048576) (hn : n ≤ maxLen) (hs : s.size ≤ maxLen) (w : World) : Calls Tryf.prog 6 #[.slice a0 n c, .string s] w fun e w' => e = .returned (.bool false) ∧ w' = w := by
  unfold maxLen at *
  go_enter Tryf.func6, Tryf.ntmps6
  go_wp2
  all_goals (go_ret; exact ⟨rfl, rfl⟩)

set_option maxHeartbeats 400000 in
theorem key_out (a0 : Option Addr) (n c : Nat) (s : ByteArray) (h : ¬ n + s.size ≤ 1048576) (hn : n ≤ maxLen) (hs : s.size ≤ maxLen) (w : World) :
    Calls Tryf.prog 3 #[.slice a0 n c, .string s] w fun e w' => e = .returned (.bool true) ∧ Below w.heap.size w w' := by
  go_enter Tryf.func3, Tryf.ntmps3
  go_wp2_with fail
  refine (bytes6_no a0 n c s h hn hs _).mono ?_
  rintro e w ⟨rfl, rfl⟩
  go_wp2_with fail
  go_ret
  exact ⟨rfl, Below.refl _ _⟩

set_option maxHeartbeats 800000 in
theorem key_bad (F : Interp) (a0 : Option Addr) (n c : Nat) (X : Nat → Int) (s : ByteArray) (hns : n + s.size ≤ 1048576) (w : World) (hF : F.answers w.tape) (hsrc : Srd w a0 n c X) (hf : fst (ch s 0) = false) :
    Calls Tryf.prog 3 #[.slice a0 n c, .string s] w fun e w' => e = .returned (.bool true) ∧ Below w.heap.size w w' := by
  have HS : Hid (Srd w a0 n c X) := hsrc
  have HF : Hid (fst (ch s 0) = false) := hf
  have t1 : decide ((1048576 : Int) < (n : Int)) = false := by simp; omega
  have t2 : decide ((1048576 : Int) < (s.size : Int)) = false := by simp; omega
  have t3 : decide ((1048576 : Int) < (n : Int) + (s.size : Int)) = false := by simp; omega
  have C : ∀ m, (s.size = 0 ∧ m = 0) ∨ (0 < s.size ∧ m = 1) → Hid (∀ w, Calls Tryf.prog 26 #[.string (s.extract 0 m)] w fun e w' => e = .returned (.bool false) ∧ w' = w) := by
    rintro m (⟨h, rfl⟩ | ⟨h, rfl⟩) w
    · exact isKey_empty _ (size_cut (Nat.zero_le _)) w
    · exact isKey_first _ (by rw [size_cut h]; exact Nat.one_pos) (by rw [ch_cut h Nat.one_pos]; exact hf) w
  have HC : Hid (∀ m, (s.size = 0 ∧ m = 0) ∨ (0 < s.size ∧ m = 1) → Hid (∀ w, Calls Tryf.prog 26 #[.string (s.extract 0 m)] w fun e w' => e = .returned (.bool false) ∧ w' = w)) := C
  clear hsrc hf C
  go_enter Tryf.func3, Tryf.ntmps3
  go_wp2_with fail
  refine (bytes6_yes a0 n c s hns _).mono ?_
  rintro e w ⟨rfl, rfl⟩
  go_wp2_with fail
  refine (clone_any a0 n c X (by omega) w HS.out).mono ?_
  rintro e w1 ⟨ax, rfl, rx1, bel1⟩
  have HR : Hid (Row' w1 ax w.heap.size n X) := rx1
  have HB : Hid (Below w.heap.size w w1) := bel1
  clear rx1 bel1 HS
  go_wp2_with fail
  refine (clone_any ax n n X (by omega) w1 HR.out.src).mono ?_
  rintro e w2 ⟨ak, rfl, rx2, bel2⟩
  have HB2 : Hid (Below w.heap.size w w2) := HB.out.trans (bel2.mono HB.out.size)
  clear rx2 bel2 HR HB
  go_wp2_with fail
  refine (zzKey_no F s w2 (by rw [HB2.out.tape]; exact hF) (by omega) HF.out).mono ?_
  rintro e w3 ⟨⟨kk, v, rfl⟩, bel3⟩
  have HB3 : Hid (Below w.heap.size w w3) := HB2.out.trans (bel3.mono HB2.out.size)
  clear bel3 HB2
  by_cases h0 : s.size = 0
  · have he : ((s.size : Int) == 0) = true := by simp [h0]
    have C0 : Hid (∀ w, Calls Tryf.prog 26 #[.string ByteArray.empty] w fun e w' => e = .returned (.bool false) ∧ w' = w) := fun w => isKey_empty _ rfl w
    go_wp2_with fail
    refine (zzAppendKey_no F _ ByteArray.empty w3 (by rw [HB3.out.tape]; exact hF) C0).mono ?_
    rintro e w4 ⟨⟨v4, rfl⟩, bel4⟩
    have HB4 : Hid (Below w.heap.size w w4) := HB3.out.trans (bel4.mono HB3.out.size)
    clear bel4 HB3
    go_wp2_with fail
    go_quiet (fail)
    go_wp2_with fail
    go_ret
    exact ⟨rfl, HB4.out.trans ⟨rfl, rfl, rfl, Nat.le_refl _, fun _ _ => rfl⟩⟩
  · have he : ((s.size : Int) == 0) = false := by simp [h0]
    have hle : (1 : Int) ≤ (s.size : Int) := by omega
    have C0 : Hid (∀ w, Calls Tryf.prog 26 #[.string (s.extract 0 1)] w fun e w' => e = .returned (.bool false) ∧ w' = w) := HC.out 1 (.inr ⟨by omega, rfl⟩)
    generalize hs0 : s.extract 0 1 = s0 at C0
    go_wp2_with fail
    refine (zzAppendKey_no F _ s0 w3 (by rw [HB3.out.tape]; exact hF) C0).mono ?_
    rintro e w4 ⟨⟨v4, rfl⟩, bel4⟩
    have HB4 : Hid (Below w.heap.size w w4) := HB3.out.trans (bel4.mono HB3.out.size)
    clear bel4 HB3
    go_wp2_with fail
    go_quiet (fail)
    go_wp2_with fail
    go_ret
    exact ⟨rfl, HB4.out.trans ⟨rfl, rfl, rfl, Nat.le_refl _, fun _ _ => rfl⟩⟩

/-! ### The key is good -/
theorem Row'.owns {w : World} {ao : Option Addr} {b n B : Nat} {X : Nat → Int} (h : Row' w ao b n X) (hB : B ≤ b) (hn : n ≤ maxLen) : w.ownsRow B 5 1 (.slice ao n n) n ((List.range n).map (U X)) := by
  refine ⟨by simp, ?_⟩
  rcases h with ⟨rfl, rfl⟩ | ⟨rfl, c, hb, hs, hc⟩
  · exact .inl ⟨rfl, rfl⟩
  · refine .inr ⟨b, n, c, rfl, hB, hb, Nat.le_refl _, hn, by omega, ?_⟩
    apply List.ext_getElem?
    intro i
    by_cases hi : i < n
    · rw [List.getElem?_take_of_lt (by omega), Array.getElem?_toList, hc i hi, List.getElem?_map, List.getElem?_range hi]; rfl
    · rw [List.getElem?_eq_none (by simp; omega), List.getElem?_eq_none (by simp; omega)]

theorem ch_list {t : ByteArray} {i : Nat} (h : i < t.size) : (Lib.strCells t)[i]? = some (.int .u8 (ch t i)) := by
  rw [ch, dif_pos h, Lib.strCells, List.getElem?_map, List.getElem?_eq_getElem (by simpa using h)]
  rfl
/-- What stands in the slice behind the append. -/
def outX (X : Nat → Int) (n : Nat) (t : ByteArray) (i : Nat) : Int := if i < n then X i else ch t (i - n)
theorem owns_out {w : World} {B n : Nat} {v : Value} {X : Nat → Int} {t : ByteArray} (ht : 0 < t.size) (h : w.ownsRow B 5 1 v (n + t.size) ((List.range n).map (U X) ++ Lib.strCells t)) :
    ∃ g cap, v = .slice (some ⟨g, 0, none⟩) (n + t.size) cap ∧ n + t.size ≤ cap ∧ cap ≤ maxLen ∧ Dat w (some ⟨g, 0, none⟩) (n + t.size) (outX X n t) := by
  rcases h.2 with ⟨_, h0⟩ | ⟨g, cap, cur, rfl, _, _, h1, h2, _, _⟩
  · omega
  · refine ⟨g, cap, rfl, h1, h2, .inr ⟨g, rfl, fun i hi => ?_⟩⟩
    rw [h.cellAt i (by omega)]
    by_cases hin : i < n
    · rw [List.getElem?_append_left (by simpa using hin), List.getElem?_map, List.getElem?_range hin]
      simp [U, outX, hin]
    · rw [List.getElem?_append_right (by simp; omega)]
      simp only [List.length_map, List.length_range]
      rw [ch_list (by omega)]
      simp [outX, hin]
theorem conv_out {w : World} {g n cap : Nat} {X : Nat → Int} {t : ByteArray} (h : Dat w (some ⟨g, 0, none⟩) (n + t.size) (outX X n t)) (ht : 0 < t.size) :
    (convert 22 9 (.slice (some ⟨g, n, none⟩) t.size cap)).run Tryf.prog w = .ok (.string t) w := by
  rcases h with h | ⟨b, hb, hc⟩
  · omega
  · simp at hb; subst hb
    have hl : t.data.toList.length = t.size := by simp
    have := run_convert_bytes_back (P := Tryf.prog) w 22 9 5 ⟨g, n, none⟩ cap t.data.toList Tryf.underlying22 Tryf.underlying5 Tryf.underlying9 (fun j hj => by
      have hj' : j < t.size := by omega
      rw [Addr.add_lit, hc (n + j) (by omega)]
      rw [outX, if_neg (by omega), Nat.add_sub_cancel_left, ch, dif_pos hj']
      rfl)
    rw [hl] at this
    simpa using this

theorem Row'.grown {w w' : World} {ao : Option Addr} {b n : Nat} {X : Nat → Int} {o : Option Nat} (h : Row' w ao b n X) (hg : w.grownBy w' o) (ho : some b ≠ o) : Row' w' ao b n X := by
  rcases h with h | ⟨rfl, hr⟩
  · exact .inl h
  · exact .inr ⟨rfl, hr.of_block (hg.block _ hr.lt ho)⟩
theorem Row'.apart {w : World} {ao : Option Addr} {b n c1 : Nat} {X : Nat → Int} (h : Row' w ao b n X) (hb : w.heap.size ≤ c1) : some c1 ≠ (Value.slice ao n n).ownBlock := by
  rcases h with ⟨rfl, _⟩ | ⟨rfl, hr⟩
  · simp [Value.ownBlock]
  · have := hr.lt; simp [Value.ownBlock]; omega

set_option maxHeartbeats 1600000 in
theorem key_good (F : Interp) (a0 : Option Addr) (n c : Nat) (X : Nat → Int) (s : ByteArray) (hns : n + s.size ≤ 1048576) (w : World) (hF : F.answers w.tape) (hsrc : Srd w a0 n c X) (hf : fst (ch s 0) = true) :
    Calls Tryf.prog 3 #[.slice a0 n c, .string s] w fun e w' => e = .returned (.bool true) ∧ Below w.heap.size w w' := by
  have HS : Hid (Srd w a0 n c X) := hsrc
  have HF : Hid (fst (ch s 0) = true) := hf
  have h0n : 0 < s.size := by
    rcases Nat.lt_or_ge 0 s.size with h | h
    · exact h
    · rw [ch_end h, fst_zero] at hf; cases hf
  have t1 : decide ((1048576 : Int) < (n : Int)) = false := by simp; omega
  have t2 : decide ((1048576 : Int) < (s.size : Int)) = false := by simp; omega
  have t3 : decide ((1048576 : Int) < (n : Int) + (s.size : Int)) = false := by simp; omega
  have he : ((s.size : Int) == 0) = false := beq_eq_false_iff_ne.2 (by omega)
  have hle : (1 : Int) ≤ (s.size : Int) := by omega
  have C0 : Hid (∀ w, Calls Tryf.prog 26 #[.string (s.extract 0 1)] w fun e w' => e = .returned (.bool true) ∧ w' = w) := by
    intro w
    have hz1 : (s.extract 0 1).size = 1 := size_cut h0n
    refine isKey_yes _ (by omega) ⟨by omega, by rw [ch_cut h0n Nat.one_pos]; exact hf, fun i h1 h2 => by omega⟩ w
  have hsz0 : Hid ((s.extract 0 1).size = 1) := size_cut h0n
  generalize hs0 : s.extract 0 1 = s0 at C0 hsz0
  clear hsrc hf
  go_enter Tryf.func3, Tryf.ntmps3
  go_wp2_with fail
  refine (bytes6_yes a0 n c s hns _).mono ?_
  rintro e w ⟨rfl, rfl⟩
  go_wp2_with fail
  refine (clone_any a0 n c X (by omega) w HS.out).mono ?_
  rintro e w1 ⟨ax, rfl, rx1, bel1⟩
  have HR : Hid (Row' w1 ax w.heap.size n X) := rx1
  have HB : Hid (Below w.heap.size w w1) := bel1
  have HAP : Hid (some w1.heap.size ≠ (Value.slice ax n n).ownBlock) := rx1.apart (Nat.le_refl _)
  clear rx1 bel1 HS
  go_wp2_with fail
  refine (clone_any ax n n X (by omega) w1 HR.out.src).mono ?_
  rintro e w2 ⟨ak, rfl, rx2, bel2⟩
  have HB2 : Hid (Below w.heap.size w w2) := HB.out.trans (bel2.mono HB.out.size)
  have HR2 : Hid (Row' w2 ax w.heap.size n X) := HR.out.keep bel2
  have HK2 : Hid (Row' w2 ak w1.heap.size n X) := rx2
  clear rx2 bel2 HR HB
  go_wp2_with fail
  refine (zzKey_yes s w2 (by omega) HF.out).mono ?_
  rintro e w3 ⟨q, hsk, hq1, rfl, bel3⟩
  have HB3 : Hid (Below w.heap.size w w3) := HB2.out.trans (bel3.mono HB2.out.size)
  have HR3 : Hid (Row' w3 ax w.heap.size n X) := HR2.out.keep bel3
  have HK3 : Hid (Row' w3 ak w1.heap.size n X) := HK2.out.keep bel3
  have HSK : Hid (Skip kc s 0 q) := hsk
  have hqn : q ≤ s.size := hsk.2.1
  obtain ⟨kk, hkk⟩ : ∃ kk, kk = s.extract 0 q := ⟨_, rfl⟩
  have HKK : Hid (kk = s.extract 0 q) := hkk
  have hksz : kk.size = q := by rw [hkk]; exact size_cut hqn
  have HKS : Hid (kk.size = q) := hksz
  rw [← hkk]
  have CK : Hid (∀ w, Calls Tryf.prog 26 #[.string kk] w fun e w' => e = .returned (.bool true) ∧ w' = w) := by
    intro w
    refine isKey_yes kk (by omega) ⟨by omega, ?_, fun i h1 h2 => ?_⟩ w
    · rw [hkk, ch_cut hqn hq1]; exact HF.out
    · rw [hkk, ch_cut hqn (by omega)]; exact hsk.2.2.1 i (Nat.zero_le _) (by omega)
  have heq : (kk.toList == (s.extract 0 q).toList) = true := by rw [hkk]; simp
  have hk1 : 1 ≤ kk.size := by omega
  have hk2 : kk.size ≤ s.size := by omega
  have hp1 : decide ((q : Int) < 1) = false := by simp; omega
  have hp2 : decide ((s.size : Int) < (q : Int)) = false := by simp; omega
  have hp2n : decide (s.size < q) = false := by simp; omega
  have hp3 : (q : Int) ≤ (s.size : Int) := by omega
  clear bel3 HB2 HR2 HK2 hsk hkk hksz
  go_wp2_with fail
  refine (zzAppendKey_yes w3.heap.size 0 (.slice none 0 0) [] s0 w3 (by have := hsz0.out; omega) (by omega) (World.ownsRow_nil _ _ _ _) (Nat.le_refl _) C0).mono ?_
  rintro e w4 ⟨v4, rfl, _, bel4, _⟩
  have HB4 : Hid (Below w.heap.size w w4) := HB3.out.trans (bel4.mono HB3.out.size)
  have HR4 : Hid (Row' w4 ax w.heap.size n X) := HR3.out.keep bel4
  have HK4 : Hid (Row' w4 ak w1.heap.size n X) := HK3.out.keep bel4
  clear bel4 HB3 HR3 HK3
  go_wp2_with fail
  go_quiet (fail)
  go_wp2_with fail
  have HB5 : Hid (Below w.heap.size w (w4.drewN nq)) := HB4.out.trans ⟨rfl, rfl, rfl, Nat.le_refl _, fun _ _ => rfl⟩
  have HR5 : Hid (Row' (w4.drewN nq) ax w.heap.size n X) := HR4.out
  have HK5 : Hid (Row' (w4.drewN nq) ak w1.heap.size n X) := HK4.out
  clear HB4 HR4 HK4
  generalize w4.drewN nq = w5 at *
  refine (zzAppendKey_yes w.heap.size n (.slice ax n n) _ kk w5 (by omega) (by omega) (HR5.out.owns (Nat.le_refl _) (by unfold maxLen; omega)) HB5.out.size CK).mono ?_
  rintro e w6 ⟨v6, rfl, hown, bel6, hgr⟩
  obtain ⟨g, cap, rfl, hc1, hc2, hd⟩ := owns_out hk1 hown
  have HD : Hid (Dat w6 (some ⟨g, 0, none⟩) (n + kk.size) (outX X n kk)) := hd
  have HB6 : Hid (Below w.heap.size w w6) := HB5.out.trans bel6
  have HK6 : Hid (Row' w6 ak w1.heap.size n X) := HK5.out.grown hgr HAP.out
  clear hown bel6 hgr hd HB5 HR5 HK5 HAP
  unfold maxLen at hc2
  have hcn : ¬ cap = n := by omega
  have hsub : n + kk.size - n = kk.size := by omega
  go_wp2_with fail
  refine (hasPrefix_yes g (n + kk.size) cap ak n n X (outX X n kk) w6 (by omega) (by omega) HD.out HK6.out.dat (fun i hi => by simp [outX, hi])).mono ?_
  rintro e w7 ⟨rfl, hsm⟩
  have HB7 : Hid (Below w.heap.size w w7) := hsm.below HB6.out
  have hcv : (convert 22 9 (.slice (some ⟨g, n, none⟩) kk.size (cap - n))).run Tryf.prog w7 = .ok (.string kk) w7 := by
    obtain ⟨z, rfl⟩ := hsm
    exact conv_out HD.out hk1
  clear hsm HB6 HK6 HD
  by_cases hqs : q < s.size
  · have hlt : (q : Int) < (s.size : Int) := by omega
    have C9 : Hid (∀ w, Calls Tryf.prog 26 #[.string (s.extract 0 (q + 1))] w fun e w' => e = .returned (.bool false) ∧ w' = w) := by
      intro w
      have hz : (s.extract 0 (q + 1)).size = q + 1 := size_cut hqs
      exact isKey_at _ (by omega) q hq1 (by omega) (by rw [ch_cut hqs (by omega)]; exact HSK.out.2.2.2 hqs) (by rw [ch_cut hqs (by omega)]; exact HF.out) w
    have hq1' : (q : Int) + 1 ≤ (s.size : Int) := by omega
    generalize hs9 : s.extract 0 (q + 1) = s9 at C9
    go_wp2_with fail
    refine (zzAppendKey_no F _ s9 w7 (by rw [HB7.out.tape]; exact hF) C9).mono ?_
    rintro e w8 ⟨⟨v8, rfl⟩, bel8⟩
    have HB8 : Hid (Below w.heap.size w w8) := HB7.out.trans (bel8.mono HB7.out.size)
    clear bel8 HB7 hcv
    go_wp2_with fail
    go_ret
    exact ⟨rfl, HB8.out⟩
  · have hlt : decide ((q : Int) < (s.size : Int)) = false := by simp; omega
    have hltn : s.size ≤ q := by omega
    go_wp2_with fail
    go_ret
    exact ⟨rfl, HB7.out⟩
end Go.Proofs.Qxb6003930aFmt
