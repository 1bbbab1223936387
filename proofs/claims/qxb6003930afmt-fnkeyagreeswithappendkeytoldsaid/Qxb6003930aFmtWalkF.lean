/- The walks of isKey, key, ZZKey, appendKey, ZZAppendKey. -/
import Derived.Test.Qxb6003930aFmtWalkE
import Derived.Lib.AppendStr
import Derived.Lib.Strings
namespace Go.Proofs.Qxb6003930aFmt
open Go.RowKit Go.Extern.Stop Go.Stop Go.Extern
set_option linter.unusedVariables false

theorem fmt4 : FmtStop.printed? { data := #[97, 32, 107, 101, 121, 32, 99, 97, 110, 110, 111, 116, 32, 115, 116, 97, 114, 116, 32, 119, 105, 116, 104, 32, 37, 113] } 1 = some [(0, 113, false)] := by kernel_rfl
theorem fmt6 (w : World) : (FmtDoors.printed { data := #[37, 113, 32, 105, 115, 32, 110, 111, 116, 32, 97, 32, 107, 101, 121] } 1).run Tryf.prog w = .ok [(0, 113, false)] w := by kernel_rfl

theorem Errorf_key (blk : Nat) (s : ByteArray) (F : Interp) (w : World) (hF : F.answers w.tape) (h0 : w.cell? ⟨blk, 0, none⟩ = some (.iface 9 (.string s))) :
    Calls Tryf.prog 27 #[.string { data := #[37, 113, 32, 105, 115, 32, 110, 111, 116, 32, 97, 32, 107, 101, 121] }, .slice (some ⟨blk, 0, none⟩) 1 1] w fun e w' =>
      e = .returned (.iface 56 (.pointer (some ⟨w.heap.size, 0, none⟩))) ∧ Below w.heap.size w w' := by
  have hF' := answers_open hF
  have hc := call32
  have hg := guardF
  have hf := fmt6
  have a1 := act9_113w
  have a2 := op9_113w
  have a5 := ptr56
  have a6 := elem56
  go_enter Tryf.func27, Tryf.ntmps27
  go_wp2
  apply rows_value nextTurns
  case hr =>
    go_simp
    exact ⟨rfl, rfl⟩
  case h =>
    go_wp2
    go_ret
    exact ⟨rfl, (((Below.refl _ _).alloc (Nat.le_refl _) _)).drew⟩

/-- Is t a key? -/
def IsKey (t : ByteArray) : Prop := 0 < t.size ∧ fst (ch t 0) = true ∧ ∀ i, 1 ≤ i → i < t.size → kc (ch t i) = true
theorem toList_empty {t : ByteArray} (h : t.size = 0) : t.toList.isEmpty = true := by
  rw [ByteArray.toList_eq]
  have hl : t.data.toList.length = t.size := by simp
  rcases ht : t.data.toList with _ | ⟨a, l⟩
  · rfl
  · rw [ht] at hl; simp at hl; omega
theorem toList_ne {t : ByteArray} (h : 0 < t.size) : t.toList.isEmpty = false := by
  rw [ByteArray.toList_eq]
  have : t.data.toList.length ≠ 0 := by
    have : t.data.toList.length = t.size := by simp
    omega
  rcases ht : t.data.toList with _ | ⟨a, l⟩
  · rw [ht] at this; simp at this
  · rfl

set_option maxHeartbeats 400000 in
theorem isKey_yes (t : ByteArray) (ht : t.size ≤ 1048576) (h : IsKey t) (w : World) : Calls Tryf.prog 26 #[.string t] w fun e w' => e = .returned (.bool true) ∧ w' = w := by
  obtain ⟨h0, hf, hk⟩ := h
  have HK : Hid (∀ i, 1 ≤ i → i < t.size → kc (ch t i) = true) := hk
  have hi := idx t 0 0 rfl h0
  have hem := toList_ne h0
  have h0' : (0 : Int) < (t.size : Int) := by omega
  clear hk
  cases hl : lc (ch t 0)
  · have h42 : (ch t 0 != 42) = false := by simp [fst, hl] at hf; simp [hf]
    clear hf
    go_enter Tryf.func26, Tryf.ntmps26
    go_wp2_with fail
    refine (lc_any (ch t 0) _).mono ?_
    rintro e w1 ⟨rfl, rfl⟩
    go_wp2_with fail
    go_loop [3] (fun i => ∃ k : Nat, 1 ≤ k ∧ (k ≤ t.size) ∧ i = .int .i64 (k : Int)) (fun i => t.size - (intOf i).toNat)
    case atStart => exact ⟨1, Nat.le_refl _, by omega, rfl⟩
    case round =>
      obtain ⟨k, hk1, hk2, rfl⟩ := hrel
      by_cases hlt : k < t.size
      · have hik := idx t (k : Int) k rfl hlt
        have hl : (k : Int) < (t.size : Int) := by omega
        have hkk : kc (ch t k) = true := HK.out k hk1 hlt
        go_wp2_with fail
        refine (kc_any (ch t k) _).mono ?_
        rintro e w1 ⟨rfl, rfl⟩
        go_wp2_with fail
        go_round
        case rel => exact ⟨k + 1, by omega, by omega, by go_num⟩
        case measure => simp [intOf]; omega
      · have hl : decide ((k : Int) < (t.size : Int)) = false := by simp; omega
        have hge : t.size ≤ k := by omega
        go_wp2_with fail
        go_ret
        exact ⟨rfl, rfl⟩
  · clear hf
    go_enter Tryf.func26, Tryf.ntmps26
    go_wp2_with fail
    refine (lc_any (ch t 0) _).mono ?_
    rintro e w1 ⟨rfl, rfl⟩
    go_wp2_with fail
    go_loop [3] (fun i => ∃ k : Nat, 1 ≤ k ∧ (k ≤ t.size) ∧ i = .int .i64 (k : Int)) (fun i => t.size - (intOf i).toNat)
    case atStart => exact ⟨1, Nat.le_refl _, by omega, rfl⟩
    case round =>
      obtain ⟨k, hk1, hk2, rfl⟩ := hrel
      by_cases hlt : k < t.size
      · have hik := idx t (k : Int) k rfl hlt
        have hl : (k : Int) < (t.size : Int) := by omega
        have hkk : kc (ch t k) = true := HK.out k hk1 hlt
        go_wp2_with fail
        refine (kc_any (ch t k) _).mono ?_
        rintro e w1 ⟨rfl, rfl⟩
        go_wp2_with fail
        go_round
        case rel => exact ⟨k + 1, by omega, by omega, by go_num⟩
        case measure => simp [intOf]; omega
      · have hl : decide ((k : Int) < (t.size : Int)) = false := by simp; omega
        have hge : t.size ≤ k := by omega
        go_wp2_with fail
        go_ret
        exact ⟨rfl, rfl⟩

set_option maxHeartbeats 400000 in
theorem isKey_empty (t : ByteArray) (h : t.size = 0) (w : World) : Calls Tryf.prog 26 #[.string t] w fun e w' => e = .returned (.bool false) ∧ w' = w := by
  have hem := toList_empty h
  clear h
  go_enter Tryf.func26, Tryf.ntmps26
  go_wp2_with fail
  go_ret
  exact ⟨rfl, rfl⟩
set_option maxHeartbeats 400000 in
theorem isKey_first (t : ByteArray) (h0 : 0 < t.size) (hf : fst (ch t 0) = false) (w : World) : Calls Tryf.prog 26 #[.string t] w fun e w' => e = .returned (.bool false) ∧ w' = w := by
  have hi := idx t 0 0 rfl h0
  have hem := toList_ne h0
  have h0' : (0 : Int) < (t.size : Int) := by omega
  have hl : lc (ch t 0) = false := by
    cases h : lc (ch t 0)
    · rfl
    · simp [fst, h] at hf
  have h42 : (ch t 0 != 42) = true := by simp [fst, hl] at hf; simp [hf]
  clear hf
  go_enter Tryf.func26, Tryf.ntmps26
  go_wp2_with fail
  refine (lc_any (ch t 0) _).mono ?_
  rintro e w1 ⟨rfl, rfl⟩
  go_wp2_with fail
  go_ret
  exact ⟨rfl, rfl⟩
set_option maxHeartbeats 400000 in
theorem isKey_at (t : ByteArray) (ht : t.size ≤ 1048576) (j : Nat) (hj1 : 1 ≤ j) (hj2 : j < t.size) (hj : kc (ch t j) = false) (hf : fst (ch t 0) = true) (w : World) : Calls Tryf.prog 26 #[.string t] w fun e w' => e = .returned (.bool false) ∧ w' = w := by
  have h0 : 0 < t.size := by omega
  have HJ : Hid (kc (ch t j) = false) := hj
  have hi := idx t 0 0 rfl h0
  have hem := toList_ne h0
  have h0' : (0 : Int) < (t.size : Int) := by omega
  clear hj
  cases hl : lc (ch t 0)
  · have h42 : (ch t 0 != 42) = false := by simp [fst, hl] at hf; simp [hf]
    clear hf
    go_enter Tryf.func26, Tryf.ntmps26
    go_wp2_with fail
    refine (lc_any (ch t 0) _).mono ?_
    rintro e w1 ⟨rfl, rfl⟩
    go_wp2_with fail
    go_loop [3] (fun i => ∃ k : Nat, 1 ≤ k ∧ k ≤ j ∧ i = .int .i64 (k : Int)) (fun i => j - (intOf i).toNat)
    case atStart => exact ⟨1, Nat.le_refl _, hj1, rfl⟩
    case round =>
      obtain ⟨k, hk1, hk2, rfl⟩ := hrel
      have hik := idx t (k : Int) k rfl (by omega)
      have hl : (k : Int) < (t.size : Int) := by omega
      cases hkk : kc (ch t k)
      · go_wp2_with fail
        refine (kc_any (ch t k) _).mono ?_
        rintro e w1 ⟨rfl, rfl⟩
        go_wp2_with fail
        go_ret
        exact ⟨rfl, rfl⟩
      · have hne : k ≠ j := by rintro rfl; rw [HJ.out] at hkk; cases hkk
        go_wp2_with fail
        refine (kc_any (ch t k) _).mono ?_
        rintro e w1 ⟨rfl, rfl⟩
        go_wp2_with fail
        go_round
        case rel => exact ⟨k + 1, by omega, by omega, by go_num⟩
        case measure => simp [intOf]; omega
  · clear hf
    go_enter Tryf.func26, Tryf.ntmps26
    go_wp2_with fail
    refine (lc_any (ch t 0) _).mono ?_
    rintro e w1 ⟨rfl, rfl⟩
    go_wp2_with fail
    go_loop [3] (fun i => ∃ k : Nat, 1 ≤ k ∧ k ≤ j ∧ i = .int .i64 (k : Int)) (fun i => j - (intOf i).toNat)
    case atStart => exact ⟨1, Nat.le_refl _, hj1, rfl⟩
    case round =>
      obtain ⟨k, hk1, hk2, rfl⟩ := hrel
      have hik := idx t (k : Int) k rfl (by omega)
      have hl : (k : Int) < (t.size : Int) := by omega
      cases hkk : kc (ch t k)
      · go_wp2_with fail
        refine (kc_any (ch t k) _).mono ?_
        rintro e w1 ⟨rfl, rfl⟩
        go_wp2_with fail
        go_ret
        exact ⟨rfl, rfl⟩
      · have hne : k ≠ j := by rintro rfl; rw [HJ.out] at hkk; cases hkk
        go_wp2_with fail
        refine (kc_any (ch t k) _).mono ?_
        rintro e w1 ⟨rfl, rfl⟩
        go_wp2_with fail
        go_round
        case rel => exact ⟨k + 1, by omega, by omega, by go_num⟩
        case measure => simp [intOf]; omega

/-! ### key -/
set_option maxHeartbeats 800000 in
theorem key_no (F : Interp) (B pb : Nat) (s : ByteArray) (w : World) (hF : F.answers w.tape) (hB : B ≤ pb) (hBw : B ≤ w.heap.size) (hs : s.size ≤ 1048576) (hf : fst (ch s 0) = false) (h : Par w pb s 0) :
    Calls Tryf.prog 16 #[.pointer (some ⟨pb, 0, none⟩)] w fun e w' => (∃ k v, e = .returned (.tuple #[.string k, .iface 56 v])) ∧ Par w' pb s 0 ∧ Below B w w' := by
  have H : Hid (Par w pb s 0) := h
  obtain ⟨h0, h1, h2⟩ := h
  have h1' : w.cell? ⟨pb, 1, none⟩ = some (.int .i64 0) := h1
  clear h1
  have hl : lc (ch s 0) = false := by
    cases h : lc (ch s 0)
    · rfl
    · simp [fst, h] at hf
  have h42 : (ch s 0 != 42) = true := by simp [fst, hl] at hf; simp [hf]
  clear hf
  go_enter Tryf.func16, Tryf.ntmps16
  go_wp2_with fail
  refine (peek_any pb 0 s w (Nat.zero_le _) hs H.out).mono ?_
  rintro e w1 ⟨rfl, hsm⟩
  have HL : Hid (Left B w w1 pb s 0) := (left_refl H.out).same hsm
  clear hsm h0 h1' h2 H
  obtain ⟨h0, h1, h2⟩ := HL.out.1
  have hpb : pb < w1.heap.size := block_lt_of_cell h0
  go_wp2_with fail
  refine (lc_any (ch s 0) _).mono ?_
  rintro e w2 ⟨rfl, hw2⟩
  rw [hw2]
  go_wp2_with fail
  refine (errorf_q F pb w1.heap.size 0 (ch s 0) _ fmt4 _ (by show F.answers w1.tape; rw [HL.out.2.1.tape]; exact hF) (by go_simp) (by go_simp)).mono ?_
  rintro e w7 ⟨⟨v, rfl⟩, hb⟩
  have hb2 : Below w1.heap.size w1 w7 := ((Below.refl w1.heap.size w1).alloc (Nat.le_refl _) _).trans (hb.mono (by simp))
  have HP : Hid (Par w7 pb s 0) := HL.out.1.keep hb2
  have HB : Hid (Below B w w7) := HL.out.2.1.trans (hb2.mono (Nat.le_trans hBw HL.out.2.1.size))
  clear hb hb2 HL h0 h1 h2
  go_wp2_with fail
  go_ret2
  exact ⟨⟨_, v, rfl⟩, HP.out, HB.out⟩

set_option maxHeartbeats 800000 in
theorem key_yes (B pb : Nat) (s : ByteArray) (w : World) (hB : B ≤ pb) (hs : s.size ≤ 1048576) (hf : fst (ch s 0) = true) (h : Par w pb s 0) :
    Calls Tryf.prog 16 #[.pointer (some ⟨pb, 0, none⟩)] w fun e w' => ∃ q, Skip kc s 0 q ∧ 1 ≤ q ∧ e = .returned (.tuple #[.string (s.extract 0 q), .nilIface]) ∧ Par w' pb s q ∧ Below B w w' := by
  have H : Hid (Par w pb s 0) := h
  have HF : Hid (kc (ch s 0) = true) := fst_kc hf
  have h0n : 0 < s.size := by
    rcases Nat.lt_or_ge 0 s.size with h | h
    · exact h
    · rw [ch_end h, fst_zero] at hf; cases hf
  obtain ⟨h0, h1, h2⟩ := h
  have h1' : w.cell? ⟨pb, 1, none⟩ = some (.int .i64 0) := h1
  clear h1
  have hq : lc (ch s 0) = true ∨ (lc (ch s 0) = false ∧ (ch s 0 != 42) = false) := by
    cases h : lc (ch s 0)
    · simp [fst, h] at hf; exact .inr ⟨rfl, by simp [hf]⟩
    · exact .inl rfl
  clear hf
  rcases hq with hl | ⟨hl, h42⟩
  all_goals
    go_enter Tryf.func16, Tryf.ntmps16
    go_wp2_with fail
    refine (peek_any pb 0 s w (Nat.zero_le _) hs H.out).mono ?_
    rintro e w1 ⟨rfl, hsm⟩
    have HL : Hid (Left B w w1 pb s 0) := (left_refl H.out).same hsm
    clear hsm h0 h1' h2 H
    go_wp2_with fail
    refine (lc_any (ch s 0) _).mono ?_
    rintro e w2 ⟨rfl, hw2⟩
    rw [hw2]
    go_wp2_with fail
    go_loopw [] (fun wr => ∃ k : Nat, k ≤ s.size ∧ (∀ i, i < k → kc (ch s i) = true) ∧ Left B w wr pb s k) (fun wr => s.size - place wr pb)
    case atStart => exact ⟨0, Nat.zero_le _, fun i h => by omega, HL.out⟩
    case round =>
      obtain ⟨k, hk2, hall, hlr⟩ := hrel
      have HA : Hid (∀ i, i < k → kc (ch s i) = true) := hall
      clear HL
      have HL : Hid (Left B w wr pb s k) := hlr
      clear hall hlr
      by_cases hlt : k < s.size
      · cases hkk : kc (ch s k)
        · have hk1 : 1 ≤ k := by
            rcases Nat.eq_zero_or_pos k with h | h
            · subst h; rw [HF.out] at hkk; cases hkk
            · exact h
          have HKK : Hid (kc (ch s k) = false) := hkk
          go_wp2_with fail
          refine (done_no pb k s wr hlt hs HL.out.1).mono ?_
          rintro e w3 ⟨rfl, hsm⟩
          have HL3 : Hid (Left B w w3 pb s k) := HL.out.same hsm
          clear hsm HL
          go_wp2_with fail
          refine (peek_any pb k s w3 hk2 hs HL3.out.1).mono ?_
          rintro e w4 ⟨rfl, hsm⟩
          have HL4 : Hid (Left B w w4 pb s k) := HL3.out.same hsm
          clear hsm HL3
          go_wp2_with fail
          refine (kc_any (ch s k) _).mono ?_
          rintro e w5 ⟨rfl, hw5⟩
          rw [hw5]
          obtain ⟨c0, c1, c2⟩ := HL4.out.1
          have hke : (0 : Int) ≤ (k : Int) := by omega
          have hkl : (k : Int) ≤ (s.size : Int) := by omega
          go_wp2_with fail
          go_quiet (fail)
          go_wp2_with fail
          go_ret2
          exact ⟨k, ⟨Nat.zero_le _, hk2, fun i _ h => HA.out i h, fun _ => HKK.out⟩, hk1, rfl, (HL4.out.same ⟨_, rfl⟩).1, (HL4.out.same ⟨_, rfl⟩).2.1⟩
        · have HKK : Hid (kc (ch s k) = true) := hkk
          go_wp2_with fail
          refine (done_no pb k s wr hlt hs HL.out.1).mono ?_
          rintro e w3 ⟨rfl, hsm⟩
          have HL3 : Hid (Left B w w3 pb s k) := HL.out.same hsm
          clear hsm
          go_wp2_with fail
          refine (peek_any pb k s w3 hk2 hs HL3.out.1).mono ?_
          rintro e w4 ⟨rfl, hsm⟩
          have HL4 : Hid (Left B w w4 pb s k) := HL3.out.same hsm
          clear hsm HL3
          go_wp2_with fail
          refine (kc_any (ch s k) _).mono ?_
          rintro e w5 ⟨rfl, hw5⟩
          rw [hw5]
          obtain ⟨c0, c1, c2⟩ := HL4.out.1
          go_wp2_with fail
          have HL5 := HL4.out.set hB ((k : Int) + 1) (k + 1) (by omega)
          go_roundw
          case rel =>
            refine ⟨k + 1, by omega, ?_, HL5⟩
            intro i h2
            rcases Nat.lt_or_ge i k with h | h
            · exact HA.out i h
            · obtain rfl : i = k := by omega
              exact HKK.out
          case measure => rw [place_of HL.out.1, place_of HL5.1]; omega
      · obtain rfl : k = s.size := by omega
        go_wp2_with fail
        refine (done_yes pb s.size s wr rfl hs HL.out.1).mono ?_
        rintro e w3 ⟨rfl, hsm⟩
        have HL3 : Hid (Left B w w3 pb s s.size) := HL.out.same hsm
        clear hsm HL
        obtain ⟨c0, c1, c2⟩ := HL3.out.1
        go_wp2_with fail
        go_quiet (fail)
        go_wp2_with fail
        go_ret2
        exact ⟨s.size, ⟨Nat.zero_le _, Nat.le_refl _, fun i _ h => HA.out i h, fun h => by omega⟩, h0n, by rw [show s.extract 0 s.size = s by simp]; rfl, (HL3.out.same ⟨_, rfl⟩).1, (HL3.out.same ⟨_, rfl⟩).2.1⟩

theorem zzKey_no (F : Interp) (s : ByteArray) (w : World) (hF : F.answers w.tape) (hs : s.size ≤ 1048576) (hf : fst (ch s 0) = false) :
    Calls Tryf.prog 8 #[.string s] w fun e w' => (∃ k v, e = .returned (.tuple #[.string k, .int .i64 0, .iface 56 v])) ∧ Below w.heap.size w w' := by
  have HF : Hid (fst (ch s 0) = false) := hf
  clear hf
  go_enter Tryf.func8, Tryf.ntmps8
  go_wp2_with fail
  refine (key_no F w.heap.size w.heap.size s _ (by exact hF) (Nat.le_refl _) (by simp) hs HF.out (by refine ⟨?_, ?_, ?_⟩ <;> go_simp)).mono ?_
  rintro e w1 ⟨⟨k, v, rfl⟩, h3, h4⟩
  have HB : Hid (Below w.heap.size w w1) := ((Below.refl w.heap.size w).alloc (Nat.le_refl _) _).trans h4
  obtain ⟨c0, c1, c2⟩ := h3
  have c1' : w1.cell? ⟨w.heap.size, 1, none⟩ = some (.int .i64 0) := c1
  clear h4 c1
  go_wp2_with fail
  go_quiet (fail)
  go_wp2_with fail
  go_ret3
  exact ⟨⟨k, v, rfl⟩, HB.out.trans ⟨rfl, rfl, rfl, Nat.le_refl _, fun _ _ => rfl⟩⟩

theorem zzKey_yes (s : ByteArray) (w : World) (hs : s.size ≤ 1048576) (hf : fst (ch s 0) = true) :
    Calls Tryf.prog 8 #[.string s] w fun e w' => ∃ q, Skip kc s 0 q ∧ 1 ≤ q ∧ e = .returned (.tuple #[.string (s.extract 0 q), .int .i64 (q : Int), .nilIface]) ∧ Below w.heap.size w w' := by
  have HF : Hid (fst (ch s 0) = true) := hf
  clear hf
  go_enter Tryf.func8, Tryf.ntmps8
  go_wp2_with fail
  refine (key_yes w.heap.size w.heap.size s _ (Nat.le_refl _) hs HF.out (by refine ⟨?_, ?_, ?_⟩ <;> go_simp)).mono ?_
  rintro e w1 ⟨q, hsk, hq1, rfl, h3, h4⟩
  have HB : Hid (Below w.heap.size w w1) := ((Below.refl w.heap.size w).alloc (Nat.le_refl _) _).trans h4
  have HK : Hid (Skip kc s 0 q) := hsk
  generalize hk : s.extract 0 q = kk
  have HKK : Hid (s.extract 0 q = kk) := hk
  obtain ⟨c0, c1, c2⟩ := h3
  clear h4 hsk hk
  go_wp2_with fail
  go_quiet (fail)
  go_wp2_with fail
  go_ret3
  exact ⟨q, HK.out, hq1, by rw [HKK.out]; rfl, HB.out.trans ⟨rfl, rfl, rfl, Nat.le_refl _, fun _ _ => rfl⟩⟩

/-! ### appendKey -/
set_option maxHeartbeats 400000 in
theorem appendKey_no (F : Interp) (b : Value) (t : ByteArray) (w : World) (hF : F.answers w.tape) (C : Hid (∀ w, Calls Tryf.prog 26 #[.string t] w fun e w' => e = .returned (.bool false) ∧ w' = w)) :
    Calls Tryf.prog 17 #[b, .string t] w fun e w' => (∃ v, e = .returned (.tuple #[.slice none 0 0, .iface 56 v])) ∧ Below w.heap.size w w' := by
  go_enter Tryf.func17, Tryf.ntmps17
  go_wp2_with fail
  refine (C.out w).mono ?_
  rintro e w1 ⟨rfl, hw1⟩
  rw [hw1]
  go_wp2_with fail
  refine (Errorf_key w.heap.size t F _ (by exact hF) (by go_simp)).mono ?_
  rintro e w2 ⟨rfl, hb⟩
  have HB : Hid (Below w.heap.size w w2) := ((Below.refl w.heap.size w).alloc (Nat.le_refl _) _).trans (hb.mono (by simp))
  clear hb
  go_wp2_with fail
  go_ret2
  exact ⟨⟨_, rfl⟩, HB.out⟩

set_option maxHeartbeats 400000 in
theorem appendKey_yes (B n : Nat) (v : Value) (xs : List Value) (t : ByteArray) (w : World) (ht : t.size ≤ 1048576) (hn : n ≤ 1048576) (hown : w.ownsRow B 5 1 v n xs) (hB : B ≤ w.heap.size) (C : Hid (∀ w, Calls Tryf.prog 26 #[.string t] w fun e w' => e = .returned (.bool true) ∧ w' = w)) :
    Calls Tryf.prog 17 #[v, .string t] w fun e w' => ∃ v', e = .returned (.tuple #[v', .nilIface]) ∧ w'.ownsRow B 5 1 v' (n + t.size) (xs ++ Lib.strCells t) ∧ Below B w w' ∧ w.grownBy w' v.ownBlock := by
  obtain ⟨i0, hi, hz0, hz1, hz2⟩ := info_parts info5
  have HO : Hid (w.ownsRow B 5 1 v n xs) := hown
  clear hown
  go_enter Tryf.func17, Tryf.ntmps17
  go_wp2_with fail
  refine (C.out w).mono ?_
  rintro e w1 ⟨rfl, hw1⟩
  rw [hw1]
  go_wp2_with (at_builtin; go_must (refine Lib.wpList_append_own_string _ rfl (.tmp 13) (.tmp 14) 22 9 rfl B 5 i0 Tryf.underlying22 Tryf.underlying9 hi hz0 hz1 hz2 v n xs rfl HO.out t rfl ?_ ?_ hB ?_))
  · unfold maxLen; omega
  · omega
  · intro v' w2 hown' hgrow _
    have HW : Hid (w2.ownsRow B 5 1 v' (n + t.size) (xs ++ Lib.strCells t)) := hown'
    have HB : Hid (Below B w w2) := by
      refine (Below.refl B w).grown hgrow hB ?_
      intro j hj
      rcases HO.out.2 with ⟨rfl, _⟩ | ⟨g, cap, cur, rfl, hg, _⟩
      · simp [Value.ownBlock] at hj
      · simp [Value.ownBlock] at hj; omega
    have HG : Hid (w.grownBy w2 v.ownBlock) := hgrow
    clear hown' hgrow
    go_wp2_with fail
    go_ret2
    exact ⟨v', rfl, HW.out, HB.out, HG.out⟩

theorem zzAppendKey_no (F : Interp) (b : Value) (t : ByteArray) (w : World) (hF : F.answers w.tape) (C : Hid (∀ w, Calls Tryf.prog 26 #[.string t] w fun e w' => e = .returned (.bool false) ∧ w' = w)) :
    Calls Tryf.prog 9 #[b, .string t] w fun e w' => (∃ v, e = .returned (.tuple #[.slice none 0 0, .iface 56 v])) ∧ Below w.heap.size w w' := by
  go_enter Tryf.func9, Tryf.ntmps9
  go_wp2_with fail
  refine (appendKey_no F b t w hF C).mono ?_
  rintro e w1 ⟨⟨v, rfl⟩, hb⟩
  have HB : Hid (Below w.heap.size w w1) := hb
  clear hb
  go_wp2_with fail
  go_ret2
  exact ⟨⟨_, rfl⟩, HB.out⟩
theorem zzAppendKey_yes (B n : Nat) (v : Value) (xs : List Value) (t : ByteArray) (w : World) (ht : t.size ≤ 1048576) (hn : n ≤ 1048576) (hown : w.ownsRow B 5 1 v n xs) (hB : B ≤ w.heap.size) (C : Hid (∀ w, Calls Tryf.prog 26 #[.string t] w fun e w' => e = .returned (.bool true) ∧ w' = w)) :
    Calls Tryf.prog 9 #[v, .string t] w fun e w' => ∃ v', e = .returned (.tuple #[v', .nilIface]) ∧ w'.ownsRow B 5 1 v' (n + t.size) (xs ++ Lib.strCells t) ∧ Below B w w' ∧ w.grownBy w' v.ownBlock := by
  have HO : Hid (w.ownsRow B 5 1 v n xs) := hown
  clear hown
  go_enter Tryf.func9, Tryf.ntmps9
  go_wp2_with fail
  refine (appendKey_yes B n v xs t w ht hn HO.out hB C).mono ?_
  rintro e w1 ⟨v', rfl, ho, hb, hg⟩
  have HG : Hid (w.grownBy w1 v.ownBlock) := hg
  have HB : Hid (Below B w w1) := hb
  have HW : Hid (w1.ownsRow B 5 1 v' (n + t.size) (xs ++ Lib.strCells t)) := ho
  clear hb ho hg
  go_wp2_with fail
  go_ret2
  exact ⟨v', rfl, HW.out, HB.out, HG.out⟩
end Go.Proofs.Qxb6003930aFmt
