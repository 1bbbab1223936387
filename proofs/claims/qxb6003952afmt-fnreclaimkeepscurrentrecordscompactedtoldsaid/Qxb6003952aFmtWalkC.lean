/- The walks of rcIsCurrent, ZZBytes, ZZFree, ZZRecordCount. -/
import Derived.Test.Qxb6003952aFmtWalkB
namespace Go.Proofs.Qxb6003952aFmt
open Go.RowKit Go.Extern.Stop Go.Stop Go.Extern
set_option linter.unusedVariables false

/-- Record i holds its variable's current value. -/
def curP (n : Nat) (K T : Nat → Int) (i : Nat) : Prop :=
  T i ≠ 2 ∧ (T i = 0 → ∀ j, j < i → ¬ (K j = K i ∧ T j = 0)) ∧ (T i ≠ 0 → ∀ j, j < n → K j = K i → T j ≠ 0 ∧ ¬ (T j = 1 ∧ i < j))

/-- The call answers whether p. -/
def Says (e : Ending) (p : Prop) : Prop := ∃ r : Bool, e = .returned (.bool r) ∧ (r = true ↔ p)
set_option maxHeartbeats 800000 in
theorem isCurrent (a0 a1 : Option Addr) (n c0 c1 i : Nat) (I S K T : Nat → Int) (w : World) (hn : n ≤ 4096) (hi : i < n) (hI : Dat .u8 w a0 n I) (hS : Dat .u8 w a1 n S)
    (hK : ∀ j, j < n → bits .and .u8 (I j) 7 = K j) (hT : ∀ j, j < n → Int.tmod (S j) 3 = T j) :
    Calls Tryf.prog 24 #[.slice a0 n c0, .slice a1 n c1, .int .i64 (i : Int)] w fun e w' => Says e (curP n K T i) ∧ w' = w := by
  have rd0 : ∀ k, k < n → ∃ b o, a0 = some ⟨b, o, none⟩ ∧ w.cell? ⟨b, o + k, none⟩ = some (.int .u8 (I k)) := by
    intro k hk
    rcases hI with h | ⟨b, o, h, hc⟩
    · omega
    · exact ⟨b, o, h, hc k hk⟩
  have rd1 : ∀ k, k < n → ∃ b o, a1 = some ⟨b, o, none⟩ ∧ w.cell? ⟨b, o + k, none⟩ = some (.int .u8 (S k)) := by
    intro k hk
    rcases hS with h | ⟨b, o, h, hc⟩
    · omega
    · exact ⟨b, o, h, hc k hk⟩
  have HR0 : Hid (∀ k, k < n → ∃ b o, a0 = some ⟨b, o, none⟩ ∧ w.cell? ⟨b, o + k, none⟩ = some (.int .u8 (I k))) := rd0
  have HR1 : Hid (∀ k, k < n → ∃ b o, a1 = some ⟨b, o, none⟩ ∧ w.cell? ⟨b, o + k, none⟩ = some (.int .u8 (S k))) := rd1
  have HK : Hid (∀ j, j < n → bits .and .u8 (I j) 7 = K j) := hK
  have HT : Hid (∀ j, j < n → Int.tmod (S j) 3 = T j) := hT
  obtain ⟨b0, o0, ha0, hci⟩ := rd0 i hi
  obtain ⟨b1, o1, ha1, hcs⟩ := rd1 i hi
  have hix := index22 (c := c0) hi ha0
  have hiy := index22 (c := c1) hi ha1
  have hki := hK i hi
  have hti := hT i hi
  clear ha0 ha1 rd0 rd1 hK hT hI hS
  by_cases h2 : T i = 2
  · have e2 : (T i == 2) = true := by simp [h2]
    have HE : Hid (false = true ↔ curP n K T i) := by simp [Hid, curP, h2]
    clear h2
    go_enter Tryf.func24, Tryf.ntmps24
    go_wp2_with fail
    go_ret
    exact ⟨⟨_, rfl, HE.out⟩, rfl⟩
  · have e2 : (T i == 2) = false := by simp [h2]
    by_cases h0 : T i = 0
    · have e0 : (T i == 0) = true := by simp [h0]
      have H0 : Hid (T i = 0) := h0
      clear h0 h2
      go_enter Tryf.func24, Tryf.ntmps24
      go_wp2_with fail
      go_loop [9] (fun u => ∃ k : Nat, k ≤ i ∧ u = .int .i64 (k : Int) ∧ ∀ j, j < k → ¬ (K j = K i ∧ T j = 0)) (fun u => i - (intOf u).toNat)
      case atStart => exact ⟨0, Nat.zero_le _, rfl, fun j hj => by omega⟩
      case round =>
        obtain ⟨k, hk, rfl, hall⟩ := hrel
        have HALL : Hid (∀ j, j < k → ¬ (K j = K i ∧ T j = 0)) := hall
        clear hall hix hiy hci hcs hki hti
        by_cases hlt : k < i
        · have hl : (k : Int) < (i : Int) := by omega
          obtain ⟨b0, o0, ha0, hci⟩ := HR0.out k (by omega)
          obtain ⟨b1, o1, ha1, hcs⟩ := HR1.out k (by omega)
          have hix := index22 (c := c0) (show k < n by omega) ha0
          have hiy := index22 (c := c1) (show k < n by omega) ha1
          have hki := HK.out k (by omega)
          have hti := HT.out k (by omega)
          clear ha0 ha1
          by_cases hkk : K k = K i
          · have ek : (K k == K i) = true := by simp [hkk]
            by_cases htt : T k = 0
            · have et : (T k == 0) = true := by simp [htt]
              have HE : Hid (false = true ↔ curP n K T i) := by
                refine ⟨fun h => (by cases h), fun h => (h.2.1 H0.out k hlt ⟨hkk, htt⟩).elim⟩
              clear hkk htt
              go_wp2_with fail
              go_ret
              exact ⟨⟨_, rfl, HE.out⟩, rfl⟩
            · have et : (T k == 0) = false := by simp [htt]
              have HN : Hid (¬ (K k = K i ∧ T k = 0)) := fun h => htt h.2
              clear hkk htt
              go_wp2_with fail
              go_round
              case rel => exact ⟨k + 1, by omega, by go_num, fun j hj => by
                by_cases e : j = k
                · subst e; exact HN.out
                · exact HALL.out j (by omega)⟩
              case measure => simp [intOf]; omega
          · have ek : (K k == K i) = false := by simp [hkk]
            have HN : Hid (¬ (K k = K i ∧ T k = 0)) := fun h => hkk h.1
            clear hkk
            go_wp2_with fail
            go_round
            case rel => exact ⟨k + 1, by omega, by go_num, fun j hj => by
              by_cases e : j = k
              · subst e; exact HN.out
              · exact HALL.out j (by omega)⟩
            case measure => simp [intOf]; omega
        · have hl : decide ((k : Int) < (i : Int)) = false := by simp; omega
          obtain rfl : k = i := by omega
          have HE : Hid (curP n K T k) := ⟨by rw [H0.out]; decide, fun _ => HALL.out, fun h => (h H0.out).elim⟩
          go_wp2_with fail
          go_ret
          exact ⟨⟨true, rfl, fun _ => HE.out, fun _ => rfl⟩, rfl⟩
    · have e0 : (T i == 0) = false := by simp [h0]
      have H0 : Hid (T i ≠ 0 ∧ T i ≠ 2) := ⟨h0, h2⟩
      clear h0 h2
      go_enter Tryf.func24, Tryf.ntmps24
      go_wp2_with fail
      go_loop [10] (fun u => ∃ k : Nat, k ≤ n ∧ u = .int .i64 (k : Int) ∧ ∀ j, j < k → K j = K i → T j ≠ 0 ∧ ¬ (T j = 1 ∧ i < j)) (fun u => n - (intOf u).toNat)
      case atStart => exact ⟨0, Nat.zero_le _, rfl, fun j hj => by omega⟩
      case round =>
        obtain ⟨k, hk, rfl, hall⟩ := hrel
        have HALL : Hid (∀ j, j < k → K j = K i → T j ≠ 0 ∧ ¬ (T j = 1 ∧ i < j)) := hall
        clear hall hix hiy hci hcs hki hti
        by_cases hlt : k < n
        · have hl : (k : Int) < (n : Int) := by omega
          obtain ⟨b0, o0, ha0, hci⟩ := HR0.out k (by omega)
          obtain ⟨b1, o1, ha1, hcs⟩ := HR1.out k (by omega)
          have hix := index22 (c := c0) (show k < n by omega) ha0
          have hiy := index22 (c := c1) (show k < n by omega) ha1
          have hki := HK.out k (by omega)
          have hti := HT.out k (by omega)
          clear ha0 ha1
          have step : (K k = K i → T k ≠ 0 ∧ ¬ (T k = 1 ∧ i < k)) → ∀ j, j < k + 1 → K j = K i → T j ≠ 0 ∧ ¬ (T j = 1 ∧ i < j) := fun h j hj => by
            by_cases e : j = k
            · subst e; exact h
            · exact HALL.out j (by omega)
          have HST : Hid ((K k = K i → T k ≠ 0 ∧ ¬ (T k = 1 ∧ i < k)) → ∀ j, j < k + 1 → K j = K i → T j ≠ 0 ∧ ¬ (T j = 1 ∧ i < j)) := step
          clear step
          have HNO : Hid (¬ (K k = K i → T k ≠ 0 ∧ ¬ (T k = 1 ∧ i < k)) → (false = true ↔ curP n K T i)) := fun h => ⟨fun h' => (by cases h'), fun h' => (h (h'.2.2 H0.out.1 k hlt)).elim⟩
          by_cases hkk : K k = K i
          · have ek : (K k == K i) = true := by simp [hkk]
            by_cases htt : T k = 0
            · have et : (T k == 0) = true := by simp [htt]
              have HE : Hid (false = true ↔ curP n K T i) := HNO.out (fun h => (h hkk).1 htt)
              clear hkk htt HNO HST
              go_wp2_with fail
              go_ret
              exact ⟨⟨_, rfl, HE.out⟩, rfl⟩
            · have et : (T k == 0) = false := by simp [htt]
              by_cases ht1 : T k = 1
              · have et1 : (T k == 1) = true := by simp [ht1]
                by_cases hik : i < k
                · have hik' : (i : Int) < (k : Int) := by omega
                  have HE : Hid (false = true ↔ curP n K T i) := HNO.out (fun h => (h hkk).2 ⟨ht1, hik⟩)
                  clear hkk htt ht1 HNO HST
                  go_wp2_with fail
                  go_ret
                  exact ⟨⟨_, rfl, HE.out⟩, rfl⟩
                · have hik' : decide ((i : Int) < (k : Int)) = false := by simp; omega
                  have hikn : decide (i < k) = false := by simp; omega
                  have HN := HST.out (fun _ => ⟨htt, fun h => hik h.2⟩)
                  have HN2 : Hid (∀ j, j < k + 1 → K j = K i → T j ≠ 0 ∧ ¬ (T j = 1 ∧ i < j)) := HN
                  clear hkk htt ht1 HNO HST HN
                  go_wp2_with fail
                  go_round
                  case rel => exact ⟨k + 1, by omega, by go_num, HN2.out⟩
                  case measure => simp [intOf]; omega
              · have et1 : (T k == 1) = false := by simp [ht1]
                have HN := HST.out (fun _ => ⟨htt, fun h => ht1 h.1⟩)
                have HN2 : Hid (∀ j, j < k + 1 → K j = K i → T j ≠ 0 ∧ ¬ (T j = 1 ∧ i < j)) := HN
                clear hkk htt ht1 HNO HST HN
                go_wp2_with fail
                go_round
                case rel => exact ⟨k + 1, by omega, by go_num, HN2.out⟩
                case measure => simp [intOf]; omega
          · have ek : (K k == K i) = false := by simp [hkk]
            have HN := HST.out (fun h => (hkk h).elim)
            have HN2 : Hid (∀ j, j < k + 1 → K j = K i → T j ≠ 0 ∧ ¬ (T j = 1 ∧ i < j)) := HN
            clear hkk HNO HST HN
            go_wp2_with fail
            go_round
            case rel => exact ⟨k + 1, by omega, by go_num, HN2.out⟩
            case measure => simp [intOf]; omega
        · have hl : decide ((k : Int) < (n : Int)) = false := by simp; omega
          obtain rfl : k = n := by omega
          have HE : Hid (curP k K T i) := ⟨H0.out.2, fun h => (H0.out.1 h).elim, fun _ => HALL.out⟩
          go_wp2_with fail
          go_ret
          exact ⟨⟨true, rfl, fun _ => HE.out, fun _ => rfl⟩, rfl⟩

/-! ### The store's fields -/
theorem zzBytes (s : Nat) (v : Value) (hv : ∃ a n c, v = .slice a n c) (w : World) (h : w.cell? ⟨s, 0, none⟩ = some v) : Calls Tryf.prog 28 #[.pointer (some ⟨s, 0, none⟩)] w fun e w' => e = .returned v ∧ w' = w := by
  obtain ⟨a, n, c, rfl⟩ := hv
  go_enter Tryf.func28, Tryf.ntmps28
  go_wp2_with fail
  go_ret
  exact ⟨rfl, rfl⟩
theorem zzFree (s : Nat) (x : Int) (w : World) (h : w.cell? ⟨s, 3, none⟩ = some (.int .i64 x)) : Calls Tryf.prog 29 #[.pointer (some ⟨s, 0, none⟩)] w fun e w' => e = .returned (.int .i64 x) ∧ w' = w := by
  go_enter Tryf.func29, Tryf.ntmps29
  go_wp2_with fail
  go_ret
  exact ⟨rfl, rfl⟩
theorem zzCount (s : Nat) (a : Option Addr) (n c : Nat) (w : World) (h : w.cell? ⟨s, 1, none⟩ = some (.slice a n c)) : Calls Tryf.prog 30 #[.pointer (some ⟨s, 0, none⟩)] w fun e w' => e = .returned (.int .i64 (n : Int)) ∧ w' = w := by
  go_enter Tryf.func30, Tryf.ntmps30
  go_wp2_with fail
  go_ret
  exact ⟨rfl, rfl⟩
end Go.Proofs.Qxb6003952aFmt
