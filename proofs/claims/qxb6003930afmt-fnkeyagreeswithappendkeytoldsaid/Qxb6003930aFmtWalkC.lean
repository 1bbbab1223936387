/- The walks of memberSeparator, end, their exports, zzOWSG1, zzBytes. -/
import Derived.Test.Qxb6003930aFmtWalkB
namespace Go.Proofs.Qxb6003930aFmt
open Go.RowKit Go.Extern.Stop Go.Stop Go.Extern
set_option linter.unusedVariables false

theorem Par.keep {w w' : World} {pb p : Nat} {s : ByteArray} (h : Par w pb s p) (hb : Below w.heap.size w w') : Par w' pb s p := by
  obtain ⟨h0, h1, h2⟩ := h
  have hlt : pb < w.heap.size := block_lt_of_cell h0
  exact ⟨(hb.cell (p := ⟨pb, 0, none⟩) hlt).trans h0, (hb.cell (p := ⟨pb, 1, none⟩) hlt).trans h1, (hb.frozen (p := ⟨pb, 1, none⟩) hlt).trans h2⟩

/-- An error that is nil just where ok. -/
def Err (ok : Bool) (er : Value) : Prop := (ok = true ∧ er = .nilIface) ∨ (ok = false ∧ ∃ v, er = .iface 56 v)
def Sep (s : ByteArray) (pos : Nat) (ok : Bool) : Prop := ∃ q, Skip ows s 0 q ∧
  ((q = s.size ∧ pos = q ∧ ok = true) ∨ (q < s.size ∧ ch s q ≠ 44 ∧ pos = q ∧ ok = false) ∨ (q < s.size ∧ ch s q = 44 ∧ Skip ows s (q + 1) pos ∧ ok = decide (pos < s.size)))

set_option maxHeartbeats 800000 in
theorem memberSeparator_any (F : Interp) (B pb : Nat) (s : ByteArray) (w : World) (hF : F.answers w.tape) (hB : B ≤ pb) (hBw : B ≤ w.heap.size) (hs : s.size ≤ 1048576) (h : Par w pb s 0) :
    Calls Tryf.prog 18 #[.pointer (some ⟨pb, 0, none⟩)] w fun e w' => ∃ pos ok er, e = .returned er ∧ Err ok er ∧ Sep s pos ok ∧ Par w' pb s pos ∧ Below B w w' := by
  have H : Hid (Par w pb s 0) := h
  clear h
  go_enter Tryf.func18, Tryf.ntmps18
  go_wp2_with fail
  refine (skipOWS_any B pb 0 s w hB (Nat.zero_le _) hs H.out).mono ?_
  rintro e w1 ⟨rfl, q, hsk, hl⟩
  have HK : Hid (Skip ows s 0 q) := hsk
  have HL : Hid (Left B w w1 pb s q) := hl
  have hq : q ≤ s.size := hsk.2.1
  clear hsk hl H
  by_cases hqn : q < s.size
  · go_wp2_with fail
    refine (done_no pb q s w1 hqn hs HL.out.1).mono ?_
    rintro e w2 ⟨rfl, hsm⟩
    have HL2 : Hid (Left B w w2 pb s q) := HL.out.same hsm
    clear hsm HL
    go_wp2_with fail
    refine (peek_any pb q s w2 hq hs HL2.out.1).mono ?_
    rintro e w3 ⟨rfl, hsm⟩
    have HL3 : Hid (Left B w w3 pb s q) := HL2.out.same hsm
    obtain ⟨h0, h1, h2⟩ := HL3.out.1
    clear hsm HL2
    by_cases hc : ch s q = 44
    · have hcb : (ch s q != 44) = false := by simp [hc]
      have HC : Hid (ch s q = 44) := hc
      clear hc
      go_wp2_with fail
      have HL4 : Hid (Left B w _ pb s (q + 1)) := HL3.out.set hB ((q : Int) + 1) (q + 1) (by omega)
      clear HL3 h0 h1 h2
      refine (skipOWS_any B pb (q + 1) s _ hB (by omega) hs HL4.out.1).mono ?_
      rintro e w5 ⟨rfl, q2, hsk, hl⟩
      have HK2 : Hid (Skip ows s (q + 1) q2) := hsk
      have HL5 : Hid (Left B w w5 pb s q2) := ⟨hl.1, HL4.out.2.1.trans hl.2.1, hl.2.2.trans HL4.out.2.2⟩
      have hq2 : q2 ≤ s.size := hsk.2.1
      clear hsk hl HL4
      by_cases hqn2 : q2 < s.size
      · go_wp2_with fail
        refine (done_no pb q2 s w5 hqn2 hs HL5.out.1).mono ?_
        rintro e w6 ⟨rfl, hsm⟩
        have HL6 : Hid (Left B w w6 pb s q2) := HL5.out.same hsm
        clear hsm HL5
        go_wp2_with fail
        go_ret
        exact ⟨q2, true, _, rfl, .inl ⟨rfl, rfl⟩, ⟨q, HK.out, .inr (.inr ⟨hqn, HC.out, HK2.out, by simp [hqn2]⟩)⟩, HL6.out.1, HL6.out.2.1⟩
      · go_wp2_with fail
        refine (done_yes pb q2 s w5 (by omega) hs HL5.out.1).mono ?_
        rintro e w6 ⟨rfl, hsm⟩
        have HL6 : Hid (Left B w w6 pb s q2) := HL5.out.same hsm
        clear hsm HL5
        go_wp2_with fail
        refine (errorf_0 F pb q2 _ fmt2 w6 (by rw [HL6.out.2.1.tape]; exact hF) HL6.out.1.2.1).mono ?_
        rintro e w7 ⟨⟨v, rfl⟩, hb⟩
        have HP : Hid (Par w7 pb s q2) := HL6.out.1.keep hb
        have HB : Hid (Below B w w7) := HL6.out.2.1.trans (hb.mono (Nat.le_trans hBw HL6.out.2.1.size))
        clear hb HL6
        go_wp2_with fail
        go_ret
        exact ⟨q2, false, _, rfl, .inr ⟨rfl, v, rfl⟩, ⟨q, HK.out, .inr (.inr ⟨hqn, HC.out, HK2.out, by simp [hqn2]⟩)⟩, HP.out, HB.out⟩
    · have hcb : (ch s q != 44) = true := by simp [hc]
      have HC : Hid (ch s q ≠ 44) := hc
      clear hc
      go_wp2_with fail
      refine (peek_any pb q s w3 hq hs HL3.out.1).mono ?_
      rintro e w4 ⟨rfl, hsm⟩
      have HL4 : Hid (Left B w w4 pb s q) := HL3.out.same hsm
      clear hsm HL3 h0 h1 h2
      obtain ⟨h0, h1, h2⟩ := HL4.out.1
      have hpb : pb < w4.heap.size := block_lt_of_cell h0
      go_wp2_with fail
      refine (errorf_q F pb w4.heap.size q (ch s q) _ fmt1 _ (by show F.answers w4.tape; rw [HL4.out.2.1.tape]; exact hF) (by go_simp) (by go_simp)).mono ?_
      rintro e w7 ⟨⟨v, rfl⟩, hb⟩
      have hb2 : Below w4.heap.size w4 w7 := ((Below.refl w4.heap.size w4).alloc (Nat.le_refl _) _).trans (hb.mono (by simp))
      have HP : Hid (Par w7 pb s q) := HL4.out.1.keep hb2
      have HB : Hid (Below B w w7) := HL4.out.2.1.trans (hb2.mono (Nat.le_trans hBw HL4.out.2.1.size))
      clear hb hb2 HL4 h0 h1 h2
      go_wp2_with fail
      go_ret
      exact ⟨q, false, _, rfl, .inr ⟨rfl, v, rfl⟩, ⟨q, HK.out, .inr (.inl ⟨hqn, HC.out, rfl, rfl⟩)⟩, HP.out, HB.out⟩
  · go_wp2_with fail
    refine (done_yes pb q s w1 (by omega) hs HL.out.1).mono ?_
    rintro e w2 ⟨rfl, hsm⟩
    have HL2 : Hid (Left B w w2 pb s q) := HL.out.same hsm
    clear hsm HL
    go_wp2_with fail
    go_ret
    exact ⟨q, true, _, rfl, .inl ⟨rfl, rfl⟩, ⟨q, HK.out, .inl ⟨by omega, rfl, rfl⟩⟩, HL2.out.1, HL2.out.2.1⟩

set_option maxHeartbeats 400000 in
theorem end_any (F : Interp) (B pb : Nat) (s : ByteArray) (w : World) (hF : F.answers w.tape) (hB : B ≤ pb) (hBw : B ≤ w.heap.size) (hs : s.size ≤ 1048576) (h : Par w pb s 0) :
    Calls Tryf.prog 19 #[.pointer (some ⟨pb, 0, none⟩)] w fun e w' => ∃ q er, e = .returned er ∧ Skip sp s 0 q ∧ Err (decide (q = s.size)) er ∧ Par w' pb s q ∧ Below B w w' := by
  have H : Hid (Par w pb s 0) := h
  clear h
  go_enter Tryf.func19, Tryf.ntmps19
  go_wp2_with fail
  refine (skipSP_any B pb 0 s w hB (Nat.zero_le _) hs H.out).mono ?_
  rintro e w1 ⟨rfl, q, hsk, hl⟩
  have HK : Hid (Skip sp s 0 q) := hsk
  have HL : Hid (Left B w w1 pb s q) := hl
  have hq : q ≤ s.size := hsk.2.1
  clear hsk hl H
  by_cases hqn : q < s.size
  · go_wp2_with fail
    refine (done_no pb q s w1 hqn hs HL.out.1).mono ?_
    rintro e w2 ⟨rfl, hsm⟩
    have HL2 : Hid (Left B w w2 pb s q) := HL.out.same hsm
    clear hsm HL
    go_wp2_with fail
    refine (peek_any pb q s w2 hq hs HL2.out.1).mono ?_
    rintro e w4 ⟨rfl, hsm⟩
    have HL4 : Hid (Left B w w4 pb s q) := HL2.out.same hsm
    clear hsm HL2
    obtain ⟨h0, h1, h2⟩ := HL4.out.1
    have hpb : pb < w4.heap.size := block_lt_of_cell h0
    go_wp2_with fail
    refine (errorf_q F pb w4.heap.size q (ch s q) _ fmt3 _ (by show F.answers w4.tape; rw [HL4.out.2.1.tape]; exact hF) (by go_simp) (by go_simp)).mono ?_
    rintro e w7 ⟨⟨v, rfl⟩, hb⟩
    have hb2 : Below w4.heap.size w4 w7 := ((Below.refl w4.heap.size w4).alloc (Nat.le_refl _) _).trans (hb.mono (by simp))
    have HP : Hid (Par w7 pb s q) := HL4.out.1.keep hb2
    have HB : Hid (Below B w w7) := HL4.out.2.1.trans (hb2.mono (Nat.le_trans hBw HL4.out.2.1.size))
    clear hb hb2 HL4 h0 h1 h2
    go_wp2_with fail
    go_ret
    exact ⟨q, _, rfl, HK.out, .inr ⟨by simp; omega, v, rfl⟩, HP.out, HB.out⟩
  · go_wp2_with fail
    refine (done_yes pb q s w1 (by omega) hs HL.out.1).mono ?_
    rintro e w2 ⟨rfl, hsm⟩
    have HL2 : Hid (Left B w w2 pb s q) := HL.out.same hsm
    clear hsm HL
    go_wp2_with fail
    go_ret
    exact ⟨q, _, rfl, HK.out, .inl ⟨by simp; omega, rfl⟩, HL2.out.1, HL2.out.2.1⟩

theorem zzMember_any (F : Interp) (s : ByteArray) (w : World) (hF : F.answers w.tape) (hs : s.size ≤ 1048576) :
    Calls Tryf.prog 12 #[.string s] w fun e w' => ∃ (pos : Nat) (ok : Bool) (er : Value), e = .returned (.tuple #[.int .i64 (pos : Int), er]) ∧ Err ok er ∧ Sep s pos ok ∧ Below w.heap.size w w' := by
  go_enter Tryf.func12, Tryf.ntmps12
  go_wp2_with fail
  refine (memberSeparator_any F w.heap.size w.heap.size s _ (by exact hF) (Nat.le_refl _) (by simp) hs (by refine ⟨?_, ?_, ?_⟩ <;> go_simp)).mono ?_
  rintro e w1 ⟨pos, ok, er, rfl, h1, h2, h3, h4⟩
  have H1 : Hid (Err ok er) := h1
  have H2 : Hid (Sep s pos ok) := h2
  have HB : Hid (Below w.heap.size w w1) := ((Below.refl w.heap.size w).alloc (Nat.le_refl _) _).trans h4
  obtain ⟨c0, c1, c2⟩ := h3
  clear h1 h2 h4
  go_wp2_with fail
  go_ret2
  exact ⟨pos, ok, er, rfl, H1.out, H2.out, HB.out⟩

theorem zzEnd_any (F : Interp) (s : ByteArray) (w : World) (hF : F.answers w.tape) (hs : s.size ≤ 1048576) :
    Calls Tryf.prog 14 #[.string s] w fun e w' => ∃ (q : Nat) (er : Value), e = .returned (.tuple #[.int .i64 (q : Int), er]) ∧ Skip sp s 0 q ∧ Err (decide (q = s.size)) er ∧ Below w.heap.size w w' := by
  go_enter Tryf.func14, Tryf.ntmps14
  go_wp2_with fail
  refine (end_any F w.heap.size w.heap.size s _ (by exact hF) (Nat.le_refl _) (by simp) hs (by refine ⟨?_, ?_, ?_⟩ <;> go_simp)).mono ?_
  rintro e w1 ⟨q, er, rfl, h1, h2, h3, h4⟩
  have H1 : Hid (Skip sp s 0 q) := h1
  have H2 : Hid (Err (decide (q = s.size)) er) := h2
  have HB : Hid (Below w.heap.size w w1) := ((Below.refl w.heap.size w).alloc (Nat.le_refl _) _).trans h4
  obtain ⟨c0, c1, c2⟩ := h3
  clear h1 h2 h4
  go_wp2_with fail
  go_ret2
  exact ⟨q, er, rfl, H1.out, H2.out, HB.out⟩

theorem zzOWS_any (c : Int) (w : World) : Calls Tryf.prog 13 #[.int .u8 c] w fun e w' => e = .returned (.bool (ows c)) ∧ w' = w := by
  by_cases h1 : c = 32
  · have hb : (c == 32) = true := by simp [h1]
    have HE : Hid (ows c = true) := by simp [Hid, ows, h1]
    clear h1
    go_enter Tryf.func13, Tryf.ntmps13
    go_wp2
    go_ret
    exact ⟨by rw [HE.out]; rfl, rfl⟩
  · have hb : (c == 32) = false := by simp [h1]
    by_cases h2 : c = 9
    · have hb2 : (c == 9) = true := by simp [h2]
      have HE : Hid (ows c = true) := by simp [Hid, ows, h2]
      clear h1 h2
      go_enter Tryf.func13, Tryf.ntmps13
      go_wp2
      go_ret
      exact ⟨by rw [HE.out]; rfl, rfl⟩
    · have hb2 : (c == 9) = false := by simp [h2]
      have HE : Hid (ows c = false) := by simp [Hid, ows, h1, h2]
      clear h1 h2
      go_enter Tryf.func13, Tryf.ntmps13
      go_wp2
      go_ret
      exact ⟨by rw [HE.out]; rfl, rfl⟩

theorem bytes11_yes (s : ByteArray) (h : s.size ≤ 1048576) (w : World) : Calls Tryf.prog 11 #[.string s] w fun e w' => e = .returned (.bool true) ∧ w' = w := by
  go_enter Tryf.func11, Tryf.ntmps11
  go_wp2
  go_ret
  exact ⟨rfl, rfl⟩
theorem bytes11_no (s : ByteArray) (h : ¬ s.size ≤ 1048576) (w : World) : Calls Tryf.prog 11 #[.string s] w fun e w' => e = .returned (.bool false) ∧ w' = w := by
  go_enter Tryf.func11, Tryf.ntmps11
  go_wp2
  go_ret
  exact ⟨rfl, rfl⟩
end Go.Proofs.Qxb6003930aFmt
