/- The walk of FnSeparatorsExact (written by tools/gensep.py: four cases, one tail). -/
import Derived.Test.Qxb6003930aFmtWalkC
namespace Go.Proofs.Qxb6003930aFmt
open Go.RowKit Go.Extern.Stop Go.Stop Go.Extern
set_option linter.unusedVariables false

theorem ows44 : ows 44 = false := by decide
/-- The commas ahead of place k, the one comma standing at q. -/
def cmas (k q : Nat) : Int := if k < q + 1 then 0 else 1
theorem cm_lo {k q : Nat} (h : k ≤ q) : cmas k q = 0 := by rw [cmas, if_pos (by omega)]
theorem cm_hi {k q : Nat} (h : q < k) : cmas k q = 1 := by rw [cmas, if_neg (by omega)]
theorem sp_iff {c : Int} : sp c = true ↔ c = 32 := by simp [sp]

set_option maxHeartbeats 3200000 in
theorem lawSep (F : Interp) (s : ByteArray) (w : World) (hF : F.answers w.tape) (hs : s.size ≤ 1048576) :
    Calls Tryf.prog 4 #[.string s] w fun e w' => e = .returned (.bool true) ∧ Below w.heap.size w w' := by
  have t0 : decide ((1048576 : Int) < (s.size : Int)) = false := by simp; omega
  go_enter Tryf.func4, Tryf.ntmps4
  go_wp2_with fail
  refine (bytes11_yes s hs _).mono ?_
  rintro e w ⟨rfl, rfl⟩
  go_wp2_with fail
  refine (zzMember_any F s w hF hs).mono ?_
  rintro e w1 ⟨pos, ok, er, rfl, herr, hsep, hb⟩
  have HB : Hid (Below w.heap.size w w1) := hb
  obtain ⟨q, hk, hcase⟩ := hsep
  have HK : Hid (Skip ows s 0 q) := hk
  have hqn : q ≤ s.size := hk.2.1
  have how0 : ∀ i, i < q → ows (ch s i) = true := fun i hi => hk.2.2.1 i (Nat.zero_le _) hi
  have HOW : Hid (∀ i, i < q → ows (ch s i) = true) := how0
  have HN44 : Hid (∀ i, i < q → (ch s i == 44) = false) := by
    intro i hi
    have := how0 i hi
    rcases Decidable.em (ch s i = 44) with h | h
    · rw [h] at this; cases this
    · simpa using h
  clear hb hk how0
  rcases hcase with ⟨hq, rfl, rfl⟩ | ⟨hq, hc, rfl, rfl⟩ | ⟨hq, hc, hk2, rfl⟩
  · rcases herr with ⟨_, rfl⟩ | ⟨h, _⟩
    case inr => cases h
    have HQ : Hid (pos = s.size) := hq
    clear hq
    go_wp2_with fail
    go_loop [5] (fun i => ∃ k : Nat, k ≤ pos ∧ i = .int .i64 (k : Int)) (fun i => pos - (intOf i).toNat)
    case atStart => exact ⟨0, Nat.zero_le _, rfl⟩
    case round =>
      obtain ⟨k, hk, rfl⟩ := hrel
      by_cases hkq : k < pos
      · have hi := idx s (k : Int) k rfl (by omega)
        have hlt : (k : Int) < (s.size : Int) := by omega
        have how : ows (ch s k) = true := HK.out.2.2.1 k (Nat.zero_le _) hkq
        go_wp2_with fail
        refine (zzOWS_any (ch s k) _).mono ?_
        rintro e wz ⟨rfl, rfl⟩
        go_wp2_with fail
        go_round
        case rel => exact ⟨k + 1, by omega, by go_num⟩
        case measure => simp [intOf]; omega
      · obtain rfl : k = pos := by omega

        have hlt : decide ((k : Int) < (s.size : Int)) = false := by have := HQ.out; simp; omega
        have heq : ((k : Int) == (s.size : Int)) = true := by have := HQ.out; simp; omega
        have hge : s.size ≤ k := by have := HQ.out; omega
        have hp0 : decide ((k : Int) < 0) = false := by simp
        have hp1 : decide ((s.size : Int) < (k : Int)) = false := by have := HQ.out; simp; omega
        go_wp2_with fail
        go_loop [8, 9] (fun cm i => ∃ k : Nat, k ≤ k ∧ i = .int .i64 (k : Int) ∧ cm = .int .i64 (0)) (fun _ i => k - (intOf i).toNat)
        case atStart => exact ⟨0, Nat.zero_le _, rfl, rfl⟩
        case round =>
          obtain ⟨k3, hk3, rfl, rfl⟩ := hrel

          by_cases hk3k : k3 < k
          · have hi3 := idx s (k3 : Int) k3 rfl (by have := HQ.out; omega)
            have hl3 : (k3 : Int) < (k : Int) := by omega
            have hl4 : (k3 : Int) < (s.size : Int) := by omega
            have hn3 : (ch s k3 == 44) = false := HN44.out k3 hk3k
            have how3 : ows (ch s k3) = true := HOW.out k3 hk3k
            go_wp2_with fail
            refine (zzOWS_any (ch s k3) _).mono ?_
            rintro e wz ⟨rfl, rfl⟩
            go_wp2_with fail
            go_round
            case rel => exact ⟨k3 + 1, by omega, by go_num, rfl⟩
            case measure => simp [intOf]; omega
          · have hl3 : decide ((k3 : Int) < (k : Int)) = false := by simp; omega
            go_wp2_with fail
            refine (zzEnd_any F s _ (by rw [HB.out.tape]; exact hF) hs).mono ?_
            rintro e wE ⟨r, er2, rfl, hsk2, he2, hb2⟩
            have HBE : Hid (Below w.heap.size w wE) := HB.out.trans (hb2.mono HB.out.size)
            have HR : Hid (Skip sp s 0 r) := hsk2
            have hr : r ≤ s.size := hsk2.2.1
            clear hb2 hsk2
            rcases he2 with ⟨hd, rfl⟩ | ⟨hd, v2, rfl⟩
            · have hrn : r = s.size := of_decide_eq_true hd
              have HRN : Hid (r = s.size) := hrn
              clear hd hrn
              go_wp2_with fail
              go_loop [12, 13] (fun al i => ∃ k : Nat, k ≤ s.size ∧ i = .int .i64 (k : Int) ∧ al = .bool true) (fun _ i => s.size - (intOf i).toNat)
              case atStart => exact ⟨0, Nat.zero_le _, rfl, rfl⟩
              case round =>
                obtain ⟨k4, hk4, rfl, rfl⟩ := hrel
                by_cases hlt4 : k4 < s.size
                · have hi := idx s (k4 : Int) k4 rfl hlt4
                  have hlt : (k4 : Int) < (s.size : Int) := by omega
                  have hc4 : (ch s k4 != 32) = false := by
                    have := HR.out.2.2.1 k4 (Nat.zero_le _) (by rw [HRN.out]; exact hlt4)
                    rw [sp_iff] at this; simp [this]
                  go_wp2_with fail
                  go_round
                  case rel => exact ⟨k4 + 1, by omega, by go_num, rfl⟩
                  case measure => simp [intOf]; omega
                · have hlt : decide ((k4 : Int) < (s.size : Int)) = false := by simp; omega
                  have hrs : ((r : Int) == (s.size : Int)) = true := by have := HRN.out; simp; omega
                  go_wp2_with fail
                  go_ret
                  exact ⟨rfl, HBE.out⟩
            · have hrn : r < s.size := by have := of_decide_eq_false hd; omega
              have hcr : ch s r ≠ 32 := by
                intro hc
                have := HR.out.2.2.2 hrn
                rw [sp_iff.2 hc] at this; cases this
              clear hd
              go_wp2_with fail
              go_loop [12, 13] (fun al i => ∃ k : Nat, k ≤ s.size ∧ i = .int .i64 (k : Int) ∧ al = .bool (decide (k ≤ r))) (fun _ i => s.size - (intOf i).toNat)
              case atStart => exact ⟨0, Nat.zero_le _, rfl, rfl⟩
              case round =>
                obtain ⟨k4, hk4, rfl, rfl⟩ := hrel
                by_cases hlt4 : k4 < s.size
                · have hi := idx s (k4 : Int) k4 rfl hlt4
                  have hlt : (k4 : Int) < (s.size : Int) := by omega
                  by_cases hkr : k4 < r
                  · have hc4 : (ch s k4 != 32) = false := by
                      have := HR.out.2.2.1 k4 (Nat.zero_le _) hkr
                      rw [sp_iff] at this; simp [this]
                    have HD : Hid (decide (k4 ≤ r) = decide (k4 + 1 ≤ r)) := by
                      show decide (k4 ≤ r) = decide (k4 + 1 ≤ r)
                      rw [decide_eq_true (show k4 ≤ r by omega), decide_eq_true (show k4 + 1 ≤ r by omega)]
                    go_wp2_with fail
                    go_round
                    case rel => exact ⟨k4 + 1, by omega, by go_num, by first | rw [HD.out] | (rw [← HD.out]; simp; omega)⟩
                    case measure => simp [intOf]; omega
                  · have HD : Hid (decide (k4 + 1 ≤ r) = false) := by
                      show decide (k4 + 1 ≤ r) = false
                      exact decide_eq_false (by omega)
                    by_cases hc4 : (ch s k4 != 32) = true
                    · go_wp2_with fail
                      go_round
                      case rel => exact ⟨k4 + 1, by omega, by go_num, by rw [HD.out]⟩
                      case measure => simp [intOf]; omega
                    · have hkr2 : r < k4 := by
                        rcases Nat.lt_or_ge r k4 with h | h
                        · exact h
                        · exfalso
                          obtain rfl : k4 = r := by omega
                          simp at hc4; exact hcr hc4
                      have hc5 : (ch s k4 != 32) = false := by simpa using hc4
                      have HD2 : Hid (decide (k4 ≤ r) = false) := by
                        show decide (k4 ≤ r) = false
                        exact decide_eq_false (by omega)
                      clear hc4
                      go_wp2_with fail
                      go_round
                      case rel => exact ⟨k4 + 1, by omega, by go_num, by first | rw [HD.out, HD2.out] | (rw [HD.out]; simp; omega)⟩
                      case measure => simp [intOf]; omega
                · have hlt : decide ((k4 : Int) < (s.size : Int)) = false := by simp; omega
                  have hdr : decide (k4 ≤ r) = false := decide_eq_false (by omega)
                  go_wp2_with fail
                  go_ret
                  exact ⟨rfl, HBE.out⟩
  · rcases herr with ⟨h, _⟩ | ⟨_, v, rfl⟩
    case inl => cases h
    have HQ : Hid (ows (ch s pos) = false) := HK.out.2.2.2 hq
    have hc44 : (ch s pos == 44) = false := by simpa using hc
    clear hc
    go_wp2_with fail
    go_loop [5] (fun i => ∃ k : Nat, k ≤ pos ∧ i = .int .i64 (k : Int)) (fun i => pos - (intOf i).toNat)
    case atStart => exact ⟨0, Nat.zero_le _, rfl⟩
    case round =>
      obtain ⟨k, hk, rfl⟩ := hrel
      by_cases hkq : k < pos
      · have hi := idx s (k : Int) k rfl (by omega)
        have hlt : (k : Int) < (s.size : Int) := by omega
        have how : ows (ch s k) = true := HK.out.2.2.1 k (Nat.zero_le _) hkq
        go_wp2_with fail
        refine (zzOWS_any (ch s k) _).mono ?_
        rintro e wz ⟨rfl, rfl⟩
        go_wp2_with fail
        go_round
        case rel => exact ⟨k + 1, by omega, by go_num⟩
        case measure => simp [intOf]; omega
      · obtain rfl : k = pos := by omega

        have hi := idx s (k : Int) k rfl hq
        have hlt : (k : Int) < (s.size : Int) := by omega
        have how : ows (ch s k) = false := HQ.out
        have heq : ((k : Int) == (s.size : Int)) = false := by simp; omega
        go_wp2_with fail
        refine (zzOWS_any (ch s k) _).mono ?_
        rintro e wz ⟨rfl, rfl⟩
        go_wp2_with fail
        refine (zzEnd_any F s _ (by rw [HB.out.tape]; exact hF) hs).mono ?_
        rintro e wE ⟨r, er2, rfl, hsk2, he2, hb2⟩
        have HBE : Hid (Below w.heap.size w wE) := HB.out.trans (hb2.mono HB.out.size)
        have HR : Hid (Skip sp s 0 r) := hsk2
        have hr : r ≤ s.size := hsk2.2.1
        clear hb2 hsk2
        rcases he2 with ⟨hd, rfl⟩ | ⟨hd, v2, rfl⟩
        · have hrn : r = s.size := of_decide_eq_true hd
          have HRN : Hid (r = s.size) := hrn
          clear hd hrn
          go_wp2_with fail
          go_loop [12, 13] (fun al i => ∃ k : Nat, k ≤ s.size ∧ i = .int .i64 (k : Int) ∧ al = .bool true) (fun _ i => s.size - (intOf i).toNat)
          case atStart => exact ⟨0, Nat.zero_le _, rfl, rfl⟩
          case round =>
            obtain ⟨k4, hk4, rfl, rfl⟩ := hrel
            by_cases hlt4 : k4 < s.size
            · have hi := idx s (k4 : Int) k4 rfl hlt4
              have hlt : (k4 : Int) < (s.size : Int) := by omega
              have hc4 : (ch s k4 != 32) = false := by
                have := HR.out.2.2.1 k4 (Nat.zero_le _) (by rw [HRN.out]; exact hlt4)
                rw [sp_iff] at this; simp [this]
              go_wp2_with fail
              go_round
              case rel => exact ⟨k4 + 1, by omega, by go_num, rfl⟩
              case measure => simp [intOf]; omega
            · have hlt : decide ((k4 : Int) < (s.size : Int)) = false := by simp; omega
              have hrs : ((r : Int) == (s.size : Int)) = true := by have := HRN.out; simp; omega
              go_wp2_with fail
              go_ret
              exact ⟨rfl, HBE.out⟩
        · have hrn : r < s.size := by have := of_decide_eq_false hd; omega
          have hcr : ch s r ≠ 32 := by
            intro hc
            have := HR.out.2.2.2 hrn
            rw [sp_iff.2 hc] at this; cases this
          clear hd
          go_wp2_with fail
          go_loop [12, 13] (fun al i => ∃ k : Nat, k ≤ s.size ∧ i = .int .i64 (k : Int) ∧ al = .bool (decide (k ≤ r))) (fun _ i => s.size - (intOf i).toNat)
          case atStart => exact ⟨0, Nat.zero_le _, rfl, rfl⟩
          case round =>
            obtain ⟨k4, hk4, rfl, rfl⟩ := hrel
            by_cases hlt4 : k4 < s.size
            · have hi := idx s (k4 : Int) k4 rfl hlt4
              have hlt : (k4 : Int) < (s.size : Int) := by omega
              by_cases hkr : k4 < r
              · have hc4 : (ch s k4 != 32) = false := by
                  have := HR.out.2.2.1 k4 (Nat.zero_le _) hkr
                  rw [sp_iff] at this; simp [this]
                have HD : Hid (decide (k4 ≤ r) = decide (k4 + 1 ≤ r)) := by
                  show decide (k4 ≤ r) = decide (k4 + 1 ≤ r)
                  rw [decide_eq_true (show k4 ≤ r by omega), decide_eq_true (show k4 + 1 ≤ r by omega)]
                go_wp2_with fail
                go_round
                case rel => exact ⟨k4 + 1, by omega, by go_num, by first | rw [HD.out] | (rw [← HD.out]; simp; omega)⟩
                case measure => simp [intOf]; omega
              · have HD : Hid (decide (k4 + 1 ≤ r) = false) := by
                  show decide (k4 + 1 ≤ r) = false
                  exact decide_eq_false (by omega)
                by_cases hc4 : (ch s k4 != 32) = true
                · go_wp2_with fail
                  go_round
                  case rel => exact ⟨k4 + 1, by omega, by go_num, by rw [HD.out]⟩
                  case measure => simp [intOf]; omega
                · have hkr2 : r < k4 := by
                    rcases Nat.lt_or_ge r k4 with h | h
                    · exact h
                    · exfalso
                      obtain rfl : k4 = r := by omega
                      simp at hc4; exact hcr hc4
                  have hc5 : (ch s k4 != 32) = false := by simpa using hc4
                  have HD2 : Hid (decide (k4 ≤ r) = false) := by
                    show decide (k4 ≤ r) = false
                    exact decide_eq_false (by omega)
                  clear hc4
                  go_wp2_with fail
                  go_round
                  case rel => exact ⟨k4 + 1, by omega, by go_num, by first | rw [HD.out, HD2.out] | (rw [HD.out]; simp; omega)⟩
                  case measure => simp [intOf]; omega
            · have hlt : decide ((k4 : Int) < (s.size : Int)) = false := by simp; omega
              have hdr : decide (k4 ≤ r) = false := decide_eq_false (by omega)
              go_wp2_with fail
              go_ret
              exact ⟨rfl, HBE.out⟩
  · have HQ : Hid (ows (ch s q) = false) := HK.out.2.2.2 hq
    have HK2 : Hid (Skip ows s (q + 1) pos) := hk2
    have hk2a : q + 1 ≤ pos := hk2.1
    have hpn : pos ≤ s.size := hk2.2.1
    have hc44 : (ch s q == 44) = true := by simpa using hc
    clear hc hk2
    rcases herr with ⟨hd, rfl⟩ | ⟨hd, v, rfl⟩
    · have hpl : pos < s.size := of_decide_eq_true hd
      have HP : Hid (ows (ch s pos) = false) := HK2.out.2.2.2 hpl
      clear hd
      go_wp2_with fail
      go_loop [5] (fun i => ∃ k : Nat, k ≤ q ∧ i = .int .i64 (k : Int)) (fun i => q - (intOf i).toNat)
      case atStart => exact ⟨0, Nat.zero_le _, rfl⟩
      case round =>
        obtain ⟨k, hk, rfl⟩ := hrel
        by_cases hkq : k < q
        · have hi := idx s (k : Int) k rfl (by omega)
          have hlt : (k : Int) < (s.size : Int) := by omega
          have how : ows (ch s k) = true := HK.out.2.2.1 k (Nat.zero_le _) hkq
          go_wp2_with fail
          refine (zzOWS_any (ch s k) _).mono ?_
          rintro e wz ⟨rfl, rfl⟩
          go_wp2_with fail
          go_round
          case rel => exact ⟨k + 1, by omega, by go_num⟩
          case measure => simp [intOf]; omega
        · obtain rfl : k = q := by omega

          have hi := idx s (k : Int) k rfl hq
          have hlt : (k : Int) < (s.size : Int) := by omega
          have how : ows (ch s k) = false := HQ.out
          have heq : ((k : Int) == (s.size : Int)) = false := by simp; omega
          go_wp2_with fail
          refine (zzOWS_any (ch s k) _).mono ?_
          rintro e wz ⟨rfl, rfl⟩
          go_wp2_with fail
          go_loop [6, 7] (fun ac j => ∃ kk : Nat, k + 1 ≤ kk ∧ kk ≤ pos ∧ j = .int .i64 (kk : Int) ∧ ac = .bool false) (fun _ j => pos - (intOf j).toNat)
          case atStart => exact ⟨k + 1, Nat.le_refl _, hk2a, by go_num, rfl⟩
          case round =>
            obtain ⟨k2, hk2l, hk2u, rfl, rfl⟩ := hrel
            by_cases hk2p : k2 < pos
            · have hi2 := idx s (k2 : Int) k2 rfl (by omega)
              have hl2 : (k2 : Int) < (s.size : Int) := by omega
              have how2 : ows (ch s k2) = true := HK2.out.2.2.1 k2 hk2l hk2p
              go_wp2_with fail
              refine (zzOWS_any (ch s k2) _).mono ?_
              rintro e wz ⟨rfl, rfl⟩
              go_wp2_with fail
              go_round
              case rel => exact ⟨k2 + 1, by omega, by omega, by go_num, rfl⟩
              case measure => simp [intOf]; omega
            · obtain rfl : k2 = pos := by omega

              have hi2 := idx s (k2 : Int) k2 rfl hpl
              have hl2 : (k2 : Int) < (s.size : Int) := by omega
              have how2 : ows (ch s k2) = false := HP.out
              have hp0 : decide ((k2 : Int) < 0) = false := by simp
              have hp1 : decide ((s.size : Int) < (k2 : Int)) = false := by simp; omega
              have hp1n : decide (s.size < k2) = false := by simp; omega
              have hp2 : ((k2 : Int) == (s.size : Int)) = false := by simp; omega
              go_wp2_with fail
              refine (zzOWS_any (ch s k2) _).mono ?_
              rintro e wz ⟨rfl, rfl⟩
              go_wp2_with fail
              go_loop [8, 9] (fun cm i => ∃ (k3b : Nat) (cc : Int), k3b ≤ k2 ∧ i = .int .i64 (k3b : Int) ∧ cm = .int .i64 cc ∧ cc = cmas k3b k) (fun _ i => k2 - (intOf i).toNat)
              case atStart => exact ⟨0, 0, Nat.zero_le _, rfl, rfl, by rw [cm_lo (Nat.zero_le _)]⟩
              case round =>
                obtain ⟨k3, cc, hk3, rfl, rfl, hcc⟩ := hrel
                by_cases hk3k : k3 < k2
                · have hi3 := idx s (k3 : Int) k3 rfl (by omega)
                  have hl3 : (k3 : Int) < (k2 : Int) := by omega
                  have hl4 : (k3 : Int) < (s.size : Int) := by omega
                  rcases Nat.lt_trichotomy k3 k with hlt3 | rfl | hgt3
                  · have hn3 : (ch s k3 == 44) = false := HN44.out k3 hlt3
                    have how3 : ows (ch s k3) = true := HOW.out k3 hlt3
                    obtain rfl : cc = 0 := by rw [hcc, cm_lo (show k3 ≤ k by omega)]
                    clear hcc
                    go_wp2_with fail
                    refine (zzOWS_any (ch s k3) _).mono ?_
                    rintro e wz ⟨rfl, rfl⟩
                    go_wp2_with fail
                    go_round
                    case rel => exact ⟨k3 + 1, 0, by omega, by go_num, rfl, by rw [cm_lo (show k3 + 1 ≤ k by omega)]⟩
                    case measure => simp [intOf]; omega
                  · obtain rfl : cc = 0 := by rw [hcc, cm_lo (show k3 ≤ k3 by omega)]
                    clear hcc
                    go_wp2_with fail
                    go_round
                    case rel => exact ⟨k3 + 1, 1, by omega, by go_num, by go_num, by rw [cm_hi (show k3 < k3 + 1 by omega)]⟩
                    case measure => simp [intOf]; omega
                  · have how3 : ows (ch s k3) = true := HK2.out.2.2.1 k3 (by omega) hk3k
                    have hn3 : (ch s k3 == 44) = false := by
                      rcases Decidable.em (ch s k3 = 44) with h | h
                      · rw [h] at how3; cases how3
                      · simpa using h
                    obtain rfl : cc = 1 := by rw [hcc, cm_hi (show k < k3 by omega)]
                    clear hcc
                    go_wp2_with fail
                    refine (zzOWS_any (ch s k3) _).mono ?_
                    rintro e wz ⟨rfl, rfl⟩
                    go_wp2_with fail
                    go_round
                    case rel => exact ⟨k3 + 1, 1, by omega, by go_num, rfl, by rw [cm_hi (show k < k3 + 1 by omega)]⟩
                    case measure => simp [intOf]; omega
                · obtain rfl : k3 = k2 := by omega
                  have hl3 : decide ((k3 : Int) < (k3 : Int)) = false := by simp
                  obtain rfl : cc = 1 := by rw [hcc, cm_hi (show k < k3 by omega)]
                  clear hcc
                  go_wp2_with fail
                  refine (zzOWS_any (ch s k3) _).mono ?_
                  rintro e wz ⟨rfl, rfl⟩
                  go_wp2_with fail
                  refine (zzEnd_any F s _ (by rw [HB.out.tape]; exact hF) hs).mono ?_
                  rintro e wE ⟨r, er2, rfl, hsk2, he2, hb2⟩
                  have HBE : Hid (Below w.heap.size w wE) := HB.out.trans (hb2.mono HB.out.size)
                  have HR : Hid (Skip sp s 0 r) := hsk2
                  have hr : r ≤ s.size := hsk2.2.1
                  clear hb2 hsk2
                  rcases he2 with ⟨hd, rfl⟩ | ⟨hd, v2, rfl⟩
                  · have hrn : r = s.size := of_decide_eq_true hd
                    have HRN : Hid (r = s.size) := hrn
                    clear hd hrn
                    go_wp2_with fail
                    go_loop [12, 13] (fun al i => ∃ k : Nat, k ≤ s.size ∧ i = .int .i64 (k : Int) ∧ al = .bool true) (fun _ i => s.size - (intOf i).toNat)
                    case atStart => exact ⟨0, Nat.zero_le _, rfl, rfl⟩
                    case round =>
                      obtain ⟨k4, hk4, rfl, rfl⟩ := hrel
                      by_cases hlt4 : k4 < s.size
                      · have hi := idx s (k4 : Int) k4 rfl hlt4
                        have hlt : (k4 : Int) < (s.size : Int) := by omega
                        have hc4 : (ch s k4 != 32) = false := by
                          have := HR.out.2.2.1 k4 (Nat.zero_le _) (by rw [HRN.out]; exact hlt4)
                          rw [sp_iff] at this; simp [this]
                        go_wp2_with fail
                        go_round
                        case rel => exact ⟨k4 + 1, by omega, by go_num, rfl⟩
                        case measure => simp [intOf]; omega
                      · have hlt : decide ((k4 : Int) < (s.size : Int)) = false := by simp; omega
                        have hrs : ((r : Int) == (s.size : Int)) = true := by have := HRN.out; simp; omega
                        go_wp2_with fail
                        go_ret
                        exact ⟨rfl, HBE.out⟩
                  · have hrn : r < s.size := by have := of_decide_eq_false hd; omega
                    have hcr : ch s r ≠ 32 := by
                      intro hc
                      have := HR.out.2.2.2 hrn
                      rw [sp_iff.2 hc] at this; cases this
                    clear hd
                    go_wp2_with fail
                    go_loop [12, 13] (fun al i => ∃ k : Nat, k ≤ s.size ∧ i = .int .i64 (k : Int) ∧ al = .bool (decide (k ≤ r))) (fun _ i => s.size - (intOf i).toNat)
                    case atStart => exact ⟨0, Nat.zero_le _, rfl, rfl⟩
                    case round =>
                      obtain ⟨k4, hk4, rfl, rfl⟩ := hrel
                      by_cases hlt4 : k4 < s.size
                      · have hi := idx s (k4 : Int) k4 rfl hlt4
                        have hlt : (k4 : Int) < (s.size : Int) := by omega
                        by_cases hkr : k4 < r
                        · have hc4 : (ch s k4 != 32) = false := by
                            have := HR.out.2.2.1 k4 (Nat.zero_le _) hkr
                            rw [sp_iff] at this; simp [this]
                          have HD : Hid (decide (k4 ≤ r) = decide (k4 + 1 ≤ r)) := by
                            show decide (k4 ≤ r) = decide (k4 + 1 ≤ r)
                            rw [decide_eq_true (show k4 ≤ r by omega), decide_eq_true (show k4 + 1 ≤ r by omega)]
                          go_wp2_with fail
                          go_round
                          case rel => exact ⟨k4 + 1, by omega, by go_num, by first | rw [HD.out] | (rw [← HD.out]; simp; omega)⟩
                          case measure => simp [intOf]; omega
                        · have HD : Hid (decide (k4 + 1 ≤ r) = false) := by
                            show decide (k4 + 1 ≤ r) = false
                            exact decide_eq_false (by omega)
                          by_cases hc4 : (ch s k4 != 32) = true
                          · go_wp2_with fail
                            go_round
                            case rel => exact ⟨k4 + 1, by omega, by go_num, by rw [HD.out]⟩
                            case measure => simp [intOf]; omega
                          · have hkr2 : r < k4 := by
                              rcases Nat.lt_or_ge r k4 with h | h
                              · exact h
                              · exfalso
                                obtain rfl : k4 = r := by omega
                                simp at hc4; exact hcr hc4
                            have hc5 : (ch s k4 != 32) = false := by simpa using hc4
                            have HD2 : Hid (decide (k4 ≤ r) = false) := by
                              show decide (k4 ≤ r) = false
                              exact decide_eq_false (by omega)
                            clear hc4
                            go_wp2_with fail
                            go_round
                            case rel => exact ⟨k4 + 1, by omega, by go_num, by first | rw [HD.out, HD2.out] | (rw [HD.out]; simp; omega)⟩
                            case measure => simp [intOf]; omega
                      · have hlt : decide ((k4 : Int) < (s.size : Int)) = false := by simp; omega
                        have hdr : decide (k4 ≤ r) = false := decide_eq_false (by omega)
                        go_wp2_with fail
                        go_ret
                        exact ⟨rfl, HBE.out⟩

    · have hpl : pos = s.size := by have := of_decide_eq_false hd; omega
      have HPL : Hid (pos = s.size) := hpl
      clear hd hpl
      go_wp2_with fail
      go_loop [5] (fun i => ∃ k : Nat, k ≤ q ∧ i = .int .i64 (k : Int)) (fun i => q - (intOf i).toNat)
      case atStart => exact ⟨0, Nat.zero_le _, rfl⟩
      case round =>
        obtain ⟨k, hk, rfl⟩ := hrel
        by_cases hkq : k < q
        · have hi := idx s (k : Int) k rfl (by omega)
          have hlt : (k : Int) < (s.size : Int) := by omega
          have how : ows (ch s k) = true := HK.out.2.2.1 k (Nat.zero_le _) hkq
          go_wp2_with fail
          refine (zzOWS_any (ch s k) _).mono ?_
          rintro e wz ⟨rfl, rfl⟩
          go_wp2_with fail
          go_round
          case rel => exact ⟨k + 1, by omega, by go_num⟩
          case measure => simp [intOf]; omega
        · obtain rfl : k = q := by omega

          have hi := idx s (k : Int) k rfl hq
          have hlt : (k : Int) < (s.size : Int) := by omega
          have how : ows (ch s k) = false := HQ.out
          have heq : ((k : Int) == (s.size : Int)) = false := by simp; omega
          go_wp2_with fail
          refine (zzOWS_any (ch s k) _).mono ?_
          rintro e wz ⟨rfl, rfl⟩
          go_wp2_with fail
          go_loop [6, 7] (fun ac j => ∃ kk : Nat, k + 1 ≤ kk ∧ kk ≤ pos ∧ j = .int .i64 (kk : Int) ∧ ac = .bool false) (fun _ j => pos - (intOf j).toNat)
          case atStart => exact ⟨k + 1, Nat.le_refl _, hk2a, by go_num, rfl⟩
          case round =>
            obtain ⟨k2, hk2l, hk2u, rfl, rfl⟩ := hrel
            by_cases hk2p : k2 < pos
            · have hi2 := idx s (k2 : Int) k2 rfl (by omega)
              have hl2 : (k2 : Int) < (s.size : Int) := by omega
              have how2 : ows (ch s k2) = true := HK2.out.2.2.1 k2 hk2l hk2p
              go_wp2_with fail
              refine (zzOWS_any (ch s k2) _).mono ?_
              rintro e wz ⟨rfl, rfl⟩
              go_wp2_with fail
              go_round
              case rel => exact ⟨k2 + 1, by omega, by omega, by go_num, rfl⟩
              case measure => simp [intOf]; omega
            · obtain rfl : k2 = pos := by omega

              have hl2 : decide ((k2 : Int) < (s.size : Int)) = false := by have := HPL.out; simp; omega
              have hge2 : s.size ≤ k2 := by have := HPL.out; omega
              go_wp2_with fail
              refine (zzEnd_any F s _ (by rw [HB.out.tape]; exact hF) hs).mono ?_
              rintro e wE ⟨r, er2, rfl, hsk2, he2, hb2⟩
              have HBE : Hid (Below w.heap.size w wE) := HB.out.trans (hb2.mono HB.out.size)
              have HR : Hid (Skip sp s 0 r) := hsk2
              have hr : r ≤ s.size := hsk2.2.1
              clear hb2 hsk2
              rcases he2 with ⟨hd, rfl⟩ | ⟨hd, v2, rfl⟩
              · have hrn : r = s.size := of_decide_eq_true hd
                have HRN : Hid (r = s.size) := hrn
                clear hd hrn
                go_wp2_with fail
                go_loop [12, 13] (fun al i => ∃ k : Nat, k ≤ s.size ∧ i = .int .i64 (k : Int) ∧ al = .bool true) (fun _ i => s.size - (intOf i).toNat)
                case atStart => exact ⟨0, Nat.zero_le _, rfl, rfl⟩
                case round =>
                  obtain ⟨k4, hk4, rfl, rfl⟩ := hrel
                  by_cases hlt4 : k4 < s.size
                  · have hi := idx s (k4 : Int) k4 rfl hlt4
                    have hlt : (k4 : Int) < (s.size : Int) := by omega
                    have hc4 : (ch s k4 != 32) = false := by
                      have := HR.out.2.2.1 k4 (Nat.zero_le _) (by rw [HRN.out]; exact hlt4)
                      rw [sp_iff] at this; simp [this]
                    go_wp2_with fail
                    go_round
                    case rel => exact ⟨k4 + 1, by omega, by go_num, rfl⟩
                    case measure => simp [intOf]; omega
                  · have hlt : decide ((k4 : Int) < (s.size : Int)) = false := by simp; omega
                    have hrs : ((r : Int) == (s.size : Int)) = true := by have := HRN.out; simp; omega
                    go_wp2_with fail
                    go_ret
                    exact ⟨rfl, HBE.out⟩
              · have hrn : r < s.size := by have := of_decide_eq_false hd; omega
                have hcr : ch s r ≠ 32 := by
                  intro hc
                  have := HR.out.2.2.2 hrn
                  rw [sp_iff.2 hc] at this; cases this
                clear hd
                go_wp2_with fail
                go_loop [12, 13] (fun al i => ∃ k : Nat, k ≤ s.size ∧ i = .int .i64 (k : Int) ∧ al = .bool (decide (k ≤ r))) (fun _ i => s.size - (intOf i).toNat)
                case atStart => exact ⟨0, Nat.zero_le _, rfl, rfl⟩
                case round =>
                  obtain ⟨k4, hk4, rfl, rfl⟩ := hrel
                  by_cases hlt4 : k4 < s.size
                  · have hi := idx s (k4 : Int) k4 rfl hlt4
                    have hlt : (k4 : Int) < (s.size : Int) := by omega
                    by_cases hkr : k4 < r
                    · have hc4 : (ch s k4 != 32) = false := by
                        have := HR.out.2.2.1 k4 (Nat.zero_le _) hkr
                        rw [sp_iff] at this; simp [this]
                      have HD : Hid (decide (k4 ≤ r) = decide (k4 + 1 ≤ r)) := by
                        show decide (k4 ≤ r) = decide (k4 + 1 ≤ r)
                        rw [decide_eq_true (show k4 ≤ r by omega), decide_eq_true (show k4 + 1 ≤ r by omega)]
                      go_wp2_with fail
                      go_round
                      case rel => exact ⟨k4 + 1, by omega, by go_num, by first | rw [HD.out] | (rw [← HD.out]; simp; omega)⟩
                      case measure => simp [intOf]; omega
                    · have HD : Hid (decide (k4 + 1 ≤ r) = false) := by
                        show decide (k4 + 1 ≤ r) = false
                        exact decide_eq_false (by omega)
                      by_cases hc4 : (ch s k4 != 32) = true
                      · go_wp2_with fail
                        go_round
                        case rel => exact ⟨k4 + 1, by omega, by go_num, by rw [HD.out]⟩
                        case measure => simp [intOf]; omega
                      · have hkr2 : r < k4 := by
                          rcases Nat.lt_or_ge r k4 with h | h
                          · exact h
                          · exfalso
                            obtain rfl : k4 = r := by omega
                            simp at hc4; exact hcr hc4
                        have hc5 : (ch s k4 != 32) = false := by simpa using hc4
                        have HD2 : Hid (decide (k4 ≤ r) = false) := by
                          show decide (k4 ≤ r) = false
                          exact decide_eq_false (by omega)
                        clear hc4
                        go_wp2_with fail
                        go_round
                        case rel => exact ⟨k4 + 1, by omega, by go_num, by first | rw [HD.out, HD2.out] | (rw [HD.out]; simp; omega)⟩
                        case measure => simp [intOf]; omega
                  · have hlt : decide ((k4 : Int) < (s.size : Int)) = false := by simp; omega
                    have hdr : decide (k4 ≤ r) = false := decide_eq_false (by omega)
                    go_wp2_with fail
                    go_ret
                    exact ⟨rfl, HBE.out⟩

theorem lawSep_out (s : ByteArray) (w : World) (hs : ¬ s.size ≤ 1048576) :
    Calls Tryf.prog 4 #[.string s] w fun e w' => e = .returned (.bool true) ∧ Below w.heap.size w w' := by
  go_enter Tryf.func4, Tryf.ntmps4
  go_wp2_with fail
  refine (bytes11_no s hs _).mono ?_
  rintro e w ⟨rfl, rfl⟩
  go_wp2_with fail
  go_ret
  exact ⟨rfl, Below.refl _ _⟩
end Go.Proofs.Qxb6003930aFmt

