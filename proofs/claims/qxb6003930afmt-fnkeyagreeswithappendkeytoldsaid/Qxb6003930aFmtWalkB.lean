/- The walks of the parser's functions: done, peek, skipSP, skipOWS. -/
import Derived.Test.Qxb6003930aFmtWalkA
namespace Go.Proofs.Qxb6003930aFmt
open Go.RowKit Go.Extern.Stop Go.Stop Go.Extern
set_option linter.unusedVariables false

/-- The byte at place i, 0 behind the end. -/
def ch (s : ByteArray) (i : Nat) : Int := if h : i < s.size then (s[i].toNat : Int) else 0
theorem ch_end {s : ByteArray} {i : Nat} (h : s.size ≤ i) : ch s i = 0 := by rw [ch, dif_neg (by omega)]
theorem ch_bd (s : ByteArray) (i : Nat) : 0 ≤ ch s i ∧ ch s i < 256 := by
  unfold ch; split
  · exact ⟨by omega, by have := (s[i]).toNat_lt; omega⟩
  · omega
theorem idx (s : ByteArray) (i : Int) (k : Nat) (hi : i = k) (h : k < s.size) (w : World) : (Instr.index 9 (.string s) (.int .i64 i)).run Tryf.prog w = .ok (.int .u8 (ch s k)) w := by
  subst hi
  rw [ch, dif_pos h]
  simp [Instr.index, asIntOf, run_underlying Tryf.underlying9, h]
theorem ret_int {k : IntKind} {a b : Int} (h : a = b) : Ending.returned (.int k a) = .returned (.int k b) := by rw [h]

/-- The same world but for draws. -/
def Same (w w' : World) : Prop := ∃ q, w' = w.drewN q
theorem Same.refl (w : World) : Same w w := ⟨0, rfl⟩
theorem Same.drewN {w w' : World} (h : Same w w') (q : Nat) : Same w (w'.drewN q) := by
  obtain ⟨q', rfl⟩ := h; exact ⟨q' + q, by rw [World.drewN_drewN]⟩
theorem Same.trans {w w' w'' : World} (h : Same w w') (h' : Same w' w'') : Same w w'' := by
  obtain ⟨q, rfl⟩ := h'; exact h.drewN q
theorem Same.below {w w' : World} (h : Same w w') {W : World} {B : Nat} (hb : Below B W w) : Below B W w' := by
  obtain ⟨q, rfl⟩ := h; exact ⟨hb.os, hb.tape, hb.output, hb.size, hb.block⟩

/-- The parser's block: the text and the place. -/
def Par (w : World) (pb : Nat) (s : ByteArray) (p : Nat) : Prop := w.cell? ⟨pb, 0, none⟩ = some (.string s) ∧ w.cell? ⟨pb, 1, none⟩ = some (.int .i64 (p : Int)) ∧ w.frozen? ⟨pb, 1, none⟩ = false
theorem Same.par {w w' : World} (hs : Same w w') {pb p : Nat} {s : ByteArray} (h : Par w pb s p) : Par w' pb s p := by
  obtain ⟨q, rfl⟩ := hs; exact h
theorem Par.step {w : World} {pb p : Nat} {s : ByteArray} (h : Par w pb s p) (i : Int) (q : Nat) (hi : i = q) : Par (w.setCell ⟨pb, 1, none⟩ (.int .i64 i)) pb s q := by
  subst hi
  obtain ⟨h0, h1, h2⟩ := h
  refine ⟨?_, ?_, ?_⟩ <;> go_simp

theorem done_any (pb p : Nat) (s : ByteArray) (w : World) (hp : p ≤ s.size) (hs : s.size ≤ 1048576) (h : Par w pb s p) :
    Calls Tryf.prog 24 #[.pointer (some ⟨pb, 0, none⟩)] w fun e w' => e = .returned (.bool (decide (p = s.size))) ∧ Same w w' := by
  obtain ⟨h0, h1, h2⟩ := h
  by_cases hd : p = s.size
  · subst hd
    go_enter Tryf.func24, Tryf.ntmps24
    go_wp2
    go_quiet (fail)
    go_wp2
    go_ret
    exact ⟨by simp, _, rfl⟩
  · have he : ((p : Int) == (s.size : Int)) = false := by simp; omega
    go_enter Tryf.func24, Tryf.ntmps24
    go_wp2
    go_quiet (fail)
    go_wp2
    go_ret
    exact ⟨by simp [hd], _, rfl⟩
theorem done_yes (pb p : Nat) (s : ByteArray) (w : World) (hp : p = s.size) (hs : s.size ≤ 1048576) (h : Par w pb s p) :
    Calls Tryf.prog 24 #[.pointer (some ⟨pb, 0, none⟩)] w fun e w' => e = .returned (.bool true) ∧ Same w w' := by
  have := done_any pb p s w (by omega) hs h
  rwa [show decide (p = s.size) = true by simp [hp]] at this
theorem done_no (pb p : Nat) (s : ByteArray) (w : World) (hp : p < s.size) (hs : s.size ≤ 1048576) (h : Par w pb s p) :
    Calls Tryf.prog 24 #[.pointer (some ⟨pb, 0, none⟩)] w fun e w' => e = .returned (.bool false) ∧ Same w w' := by
  have := done_any pb p s w (by omega) hs h
  rwa [show decide (p = s.size) = false by simp; omega] at this

theorem peek_any (pb p : Nat) (s : ByteArray) (w : World) (hp : p ≤ s.size) (hs : s.size ≤ 1048576) (h : Par w pb s p) :
    Calls Tryf.prog 21 #[.pointer (some ⟨pb, 0, none⟩)] w fun e w' => e = .returned (.int .u8 (ch s p)) ∧ Same w w' := by
  have H : Hid (Par w pb s p) := h
  clear h
  by_cases hd : p < s.size
  · have hi := idx s (p : Int) p rfl (by omega)
    have hlt : (p : Int) < (s.size : Int) := by omega
    go_enter Tryf.func21, Tryf.ntmps21
    go_wp2_with fail
    refine (done_no pb p s w hd hs H.out).mono ?_
    rintro e w' ⟨rfl, hsm⟩
    have HS : Hid (Same w w') := hsm
    obtain ⟨h0, h1, h2⟩ := hsm.par H.out
    clear hsm
    go_wp2_with fail
    go_quiet (fail)
    go_wp2_with fail
    go_ret
    exact ⟨rfl, HS.out.drewN _⟩
  · have HE : Hid (ch s p = 0) := ch_end (by omega)
    go_enter Tryf.func21, Tryf.ntmps21
    go_wp2_with fail
    refine (done_yes pb p s w (by omega) hs H.out).mono ?_
    rintro e w' ⟨rfl, hsm⟩
    have HS : Hid (Same w w') := hsm
    clear hsm
    go_wp2_with fail
    go_ret
    exact ⟨ret_int HE.out.symm, HS.out⟩

/-- Behind a skip: the place, and what is known of it. -/
def Skip (P : Int → Bool) (s : ByteArray) (p q : Nat) : Prop := p ≤ q ∧ q ≤ s.size ∧ (∀ i, p ≤ i → i < q → P (ch s i) = true) ∧ (q < s.size → P (ch s q) = false)
def sp (c : Int) : Bool := c == 32
def ows (c : Int) : Bool := c == 32 || c == 9
/-- What the parser's functions leave: the parser stands at q; only its own block has turned. -/
def Left (B : Nat) (w w' : World) (pb : Nat) (s : ByteArray) (q : Nat) : Prop := Par w' pb s q ∧ Below B w w' ∧ w'.heap.size = w.heap.size
theorem Left.same {B : Nat} {w w' w'' : World} {pb : Nat} {s : ByteArray} {q : Nat} (h : Left B w w' pb s q) (hs : Same w' w'') : Left B w w'' pb s q := by
  refine ⟨hs.par h.1, hs.below h.2.1, ?_⟩
  obtain ⟨n, rfl⟩ := hs; exact h.2.2
theorem Left.set {B : Nat} {w w' : World} {pb : Nat} {s : ByteArray} {q : Nat} (h : Left B w w' pb s q) (hB : B ≤ pb) (i : Int) (q' : Nat) (hi : i = q') : Left B w (w'.setCell ⟨pb, 1, none⟩ (.int .i64 i)) pb s q' :=
  ⟨h.1.step i q' hi, h.2.1.setCell (p := ⟨pb, 1, none⟩) hB _, by rw [← h.2.2]; simp [World.setCell]⟩

/-- The place that the parser's block holds. -/
def place (w : World) (pb : Nat) : Nat := (intOf ((w.cell? ⟨pb, 1, none⟩).getD undef)).toNat
theorem place_of {w : World} {pb p : Nat} {s : ByteArray} (h : Par w pb s p) : place w pb = p := by
  unfold place; rw [h.2.1]; simp [intOf]
theorem left_refl {B pb p : Nat} {s : ByteArray} {w : World} (h : Par w pb s p) : Left B w w pb s p := ⟨h, Below.refl _ _, rfl⟩

set_option maxHeartbeats 400000 in
theorem skipSP_any (B pb p : Nat) (s : ByteArray) (w : World) (hB : B ≤ pb) (hp : p ≤ s.size) (hs : s.size ≤ 1048576) (h : Par w pb s p) :
    Calls Tryf.prog 29 #[.pointer (some ⟨pb, 0, none⟩)] w fun e w' => e = .returned (.tuple #[]) ∧ ∃ q, Skip sp s p q ∧ Left B w w' pb s q := by
  have H : Hid (Par w pb s p) := h
  clear h
  go_enter Tryf.func29, Tryf.ntmps29
  go_wp2_with fail
  go_loopw [] (fun wr => ∃ k : Nat, p ≤ k ∧ k ≤ s.size ∧ (∀ i, p ≤ i → i < k → sp (ch s i) = true) ∧ Left B w wr pb s k) (fun wr => s.size - place wr pb)
  case atStart => exact ⟨p, Nat.le_refl _, hp, fun i h1 h2 => by omega, left_refl H.out⟩
  case round =>
    obtain ⟨k, hk1, hk2, hall, hl⟩ := hrel
    have HL : Hid (Left B w wr pb s k) := hl
    have HA : Hid (∀ i, p ≤ i → i < k → sp (ch s i) = true) := hall
    clear hl hall H
    by_cases hc : ch s k = 32
    · have hlt : k < s.size := by
        rcases Nat.lt_or_ge k s.size with h | h
        · exact h
        · rw [ch_end h] at hc; omega
      have hcb : (ch s k == 32) = true := by simp [hc]
      have HC : Hid (sp (ch s k) = true) := by simp [Hid, sp, hc]
      clear hc
      go_wp2_with fail
      refine (peek_any pb k s wr hk2 hs HL.out.1).mono ?_
      rintro e w1 ⟨rfl, hsm⟩
      have HL1 : Hid (Left B w w1 pb s k) := HL.out.same hsm
      obtain ⟨h0, h1, h2⟩ := HL1.out.1
      clear hsm
      go_wp2_with fail
      have HL2 := HL1.out.set hB ((k : Int) + 1) (k + 1) (by omega)
      go_roundw
      case rel =>
        refine ⟨k + 1, by omega, by omega, ?_, HL2⟩
        intro i h1 h2
        rcases Nat.lt_or_ge i k with h | h
        · exact HA.out i h1 h
        · obtain rfl : i = k := by omega
          exact HC.out
      case measure => rw [place_of HL.out.1, place_of HL2.1]; omega
    · have hcb : (ch s k == 32) = false := by simp [hc]
      have HC : Hid (sp (ch s k) = false) := by simp [Hid, sp, hc]
      clear hc
      go_wp2_with fail
      refine (peek_any pb k s wr hk2 hs HL.out.1).mono ?_
      rintro e w1 ⟨rfl, hsm⟩
      have HL1 : Hid (Left B w w1 pb s k) := HL.out.same hsm
      clear hsm
      go_wp2_with fail
      go_end0
      exact ⟨rfl, k, ⟨hk1, hk2, HA.out, fun _ => HC.out⟩, HL1.out⟩

set_option maxHeartbeats 800000 in
theorem skipOWS_any (B pb p : Nat) (s : ByteArray) (w : World) (hB : B ≤ pb) (hp : p ≤ s.size) (hs : s.size ≤ 1048576) (h : Par w pb s p) :
    Calls Tryf.prog 28 #[.pointer (some ⟨pb, 0, none⟩)] w fun e w' => e = .returned (.tuple #[]) ∧ ∃ q, Skip ows s p q ∧ Left B w w' pb s q := by
  have H : Hid (Par w pb s p) := h
  clear h
  go_enter Tryf.func28, Tryf.ntmps28
  go_wp2_with fail
  go_loopw [] (fun wr => ∃ k : Nat, p ≤ k ∧ k ≤ s.size ∧ (∀ i, p ≤ i → i < k → ows (ch s i) = true) ∧ Left B w wr pb s k) (fun wr => s.size - place wr pb)
  case atStart => exact ⟨p, Nat.le_refl _, hp, fun i h1 h2 => by omega, left_refl H.out⟩
  case round =>
    obtain ⟨k, hk1, hk2, hall, hl⟩ := hrel
    have HL : Hid (Left B w wr pb s k) := hl
    have HA : Hid (∀ i, p ≤ i → i < k → ows (ch s i) = true) := hall
    clear hl hall H
    by_cases hc : ch s k = 32
    · have hlt : k < s.size := by
        rcases Nat.lt_or_ge k s.size with h | h
        · exact h
        · rw [ch_end h] at hc; omega
      have hcb : (ch s k == 32) = true := by simp [hc]
      have HC : Hid (ows (ch s k) = true) := by simp [Hid, ows, hc]
      clear hc
      go_wp2_with fail
      refine (peek_any pb k s wr hk2 hs HL.out.1).mono ?_
      rintro e w1 ⟨rfl, hsm⟩
      have HL1 : Hid (Left B w w1 pb s k) := HL.out.same hsm
      obtain ⟨h0, h1, h2⟩ := HL1.out.1
      clear hsm
      go_wp2_with fail
      have HL2 := HL1.out.set hB ((k : Int) + 1) (k + 1) (by omega)
      go_roundw
      case rel =>
        refine ⟨k + 1, by omega, by omega, ?_, HL2⟩
        intro i h1 h2
        rcases Nat.lt_or_ge i k with h | h
        · exact HA.out i h1 h
        · obtain rfl : i = k := by omega
          exact HC.out
      case measure => rw [place_of HL.out.1, place_of HL2.1]; omega
    · have hcb : (ch s k == 32) = false := by simp [hc]
      by_cases hc9 : ch s k = 9
      · have hlt : k < s.size := by
          rcases Nat.lt_or_ge k s.size with h | h
          · exact h
          · rw [ch_end h] at hc9; omega
        have hcb9 : (ch s k == 9) = true := by simp [hc9]
        have HC : Hid (ows (ch s k) = true) := by simp [Hid, ows, hc9]
        clear hc hc9
        go_wp2_with fail
        refine (peek_any pb k s wr hk2 hs HL.out.1).mono ?_
        rintro e w1 ⟨rfl, hsm⟩
        have HL1 : Hid (Left B w w1 pb s k) := HL.out.same hsm
        clear hsm
        go_wp2_with fail
        refine (peek_any pb k s w1 hk2 hs HL1.out.1).mono ?_
        rintro e w2 ⟨rfl, hsm⟩
        have HL3 : Hid (Left B w w2 pb s k) := HL1.out.same hsm
        obtain ⟨h0, h1, h2⟩ := HL3.out.1
        clear hsm
        go_wp2_with fail
        have HL2 := HL3.out.set hB ((k : Int) + 1) (k + 1) (by omega)
        go_roundw
        case rel =>
          refine ⟨k + 1, by omega, by omega, ?_, HL2⟩
          intro i h1 h2
          rcases Nat.lt_or_ge i k with h | h
          · exact HA.out i h1 h
          · obtain rfl : i = k := by omega
            exact HC.out
        case measure => rw [place_of HL.out.1, place_of HL2.1]; omega
      · have hcb9 : (ch s k == 9) = false := by simp [hc9]
        have HC : Hid (ows (ch s k) = false) := by simp [Hid, ows, hc, hc9]
        clear hc hc9
        go_wp2_with fail
        refine (peek_any pb k s wr hk2 hs HL.out.1).mono ?_
        rintro e w1 ⟨rfl, hsm⟩
        have HL1 : Hid (Left B w w1 pb s k) := HL.out.same hsm
        clear hsm
        go_wp2_with fail
        refine (peek_any pb k s w1 hk2 hs HL1.out.1).mono ?_
        rintro e w2 ⟨rfl, hsm⟩
        have HL3 : Hid (Left B w w2 pb s k) := HL1.out.same hsm
        clear hsm
        go_wp2_with fail
        go_end0
        exact ⟨rfl, k, ⟨hk1, hk2, HA.out, fun _ => HC.out⟩, HL3.out⟩
end Go.Proofs.Qxb6003930aFmt
