/- The law's own function: the store is made, and reclaim is called. -/
import Derived.Test.Qxb6003952aFmtPlainA
import Derived.Test.Qxb6003952aFmtWalkS
namespace Go.Proofs.Qxb6003952aFmt
open Go.RowKit Go.Extern.Stop Go.Stop Go.Extern
set_option linter.unusedVariables false

/-- The store as it is once reclaim has refused, and once it has accepted. -/
def OutA (bb T start free en_ : Nat) (Z : List Rec) (a : Act) (w : World) : Prop := ∃ (s rg : Nat) (p : Value), a.tmps.getD 50 undef = .pointer (some ⟨s, 0, none⟩) ∧ a.tmps.getD 51 undef = .iface 102 p ∧ a.tmps.getD 52 undef = .slice (some ⟨bb, 0, none⟩) T T ∧
  w.heap[s]? = some (.cells #[.slice (some ⟨bb, 0, none⟩) T T, .slice (some ⟨rg, 0, none⟩) Z.length Z.length, .int .i64 (start : Int), .int .i64 (free : Int), .int .i64 (en_ : Int)] 72 (0, 0)) ∧ RecUp w rg Z.length Z.length bb Z
def OutB (T start en_ : Nat) (OB : Nat → Int) (K : List Rec) (a : Act) (w : World) : Prop := ∃ (s nb : Nat) (ao : Option Addr) (cap : Nat), a.tmps.getD 50 undef = .pointer (some ⟨s, 0, none⟩) ∧ a.tmps.getD 51 undef = .nilIface ∧ a.tmps.getD 52 undef = .slice (some ⟨nb, 0, none⟩) T T ∧
  w.heap[s]? = some (.cells #[.slice (some ⟨nb, 0, none⟩) T T, .slice ao K.length cap, .int .i64 (start : Int), .int .i64 ((frOf start K : Nat) : Int), .int .i64 (en_ : Int)] 72 (0, 0)) ∧ w.rowIs nb 5 T (V .u8 (newB OB start en_ T K)) ∧
  (K.length = 0 ∨ ∃ kg, ao = some ⟨kg, 0, none⟩ ∧ RecUp w kg K.length K.length nb (placed start K))
theorem same_heap {w w' : World} (h : Same w w') : w'.heap = w.heap := h.heap
set_option maxRecDepth 1000000 in
set_option maxHeartbeats 6400000 in
theorem segJ (F : Interp) (T bb zg m zcap ob kg m2 kcap ng hg fe : Nat) (ao0 ao1 ao2 ao3 ao4 ao5 : Option Addr) (og eg n start post slack free en_ : Nat) (vid size : Int) (OB : Nat → Int) (Z K : List Rec) (Q : Exit → Act → World → Prop) (a : Act) (w : World) (hsz : a.tmps.size = 848) (hd : a.defers = [])
    (h0 : a.tmps.getD 0 undef = .slice ao0 start start) (h1 : a.tmps.getD 1 undef = .slice ao1 post post) (h2 : a.tmps.getD 2 undef = .slice ao2 n n) (h3 : a.tmps.getD 3 undef = .slice ao3 n n) (h4 : a.tmps.getD 4 undef = .slice ao4 n n) (h5 : a.tmps.getD 5 undef = .slice ao5 n n) (h6 : a.tmps.getD 6 undef = .int .u16 (slack : Int)) (h7 : a.tmps.getD 7 undef = .int .u8 vid) (h8 : a.tmps.getD 8 undef = .int .i64 size) (h19 : a.tmps.getD 19 undef = .int .i64 (n : Int)) (h20 : a.tmps.getD 20 undef = .int .i64 (start : Int)) (h21 : a.tmps.getD 21 undef = .slice (some ⟨og, 0, none⟩) n n) (h22 : a.tmps.getD 22 undef = .slice (some ⟨eg, 0, none⟩) n n) (h25 : a.tmps.getD 25 undef = .int .i64 (free : Int)) (h26 : a.tmps.getD 26 undef = .int .i64 (en_ : Int)) (h27 : a.tmps.getD 27 undef = .int .i64 (T : Int)) (h28 : a.tmps.getD 28 undef = .slice (some ⟨bb, 0, none⟩) T T) (h37 : a.tmps.getD 37 undef = .slice (some ⟨zg, 0, none⟩) m zcap) (h39 : a.tmps.getD 39 undef = .slice (some ⟨ob, 0, none⟩) T T) (h41 : a.tmps.getD 41 undef = .slice (some ⟨kg, 0, none⟩) m2 kcap) (h43 : a.tmps.getD 43 undef = .slice (some ⟨ng, 0, none⟩) m2 m2) (h44 : a.tmps.getD 44 undef = .slice (some ⟨hg, 0, none⟩) m2 m2) (h47 : a.tmps.getD 47 undef = .int .i64 (fe : Int)) (h49 : a.tmps.getD 49 undef = .bool (decide (size ≤ (en_ : Int) - (fe : Int))))
    (hF : F.answers w.tape) (hob : w.rowIs bb 5 T (V .u8 OB)) (hold : w.rowIs ob 5 T (V .u8 OB)) (hZl : Z.length = m) (hm : m ≤ 4096) (hz : ∀ i r, Z[i]? = some r → w.rangeAt zg (i * 22) (zc r)) (hZ : ∀ r ∈ Z, (0 ≤ r.c ∧ r.c < 8) ∧ r.off ≤ r.en ∧ r.en ≤ en_ ∧ r.dl ≤ ln r) (hT : T ≤ 2097152) (hse : start ≤ en_) (heT : en_ ≤ T) (hv0 : 0 ≤ vid) (hv1 : vid < 256) (hfit : frOf start K ≤ en_) (hfe : fe = frOf start K) (hKF : keptOf (vid % 8) ((winners (cOf Z) (sOf Z) m).filterMap fun p => Z[p]?) = K)
    (hQ : ∀ a' w', a'.tmps.size = 848 → a'.defers = [] → a'.tmps.getD 0 undef = .slice ao0 start start → a'.tmps.getD 1 undef = .slice ao1 post post → a'.tmps.getD 2 undef = .slice ao2 n n → a'.tmps.getD 3 undef = .slice ao3 n n → a'.tmps.getD 4 undef = .slice ao4 n n → a'.tmps.getD 5 undef = .slice ao5 n n → a'.tmps.getD 6 undef = .int .u16 (slack : Int) → a'.tmps.getD 7 undef = .int .u8 vid → a'.tmps.getD 8 undef = .int .i64 size → a'.tmps.getD 19 undef = .int .i64 (n : Int) → a'.tmps.getD 20 undef = .int .i64 (start : Int) → a'.tmps.getD 21 undef = .slice (some ⟨og, 0, none⟩) n n → a'.tmps.getD 22 undef = .slice (some ⟨eg, 0, none⟩) n n → a'.tmps.getD 25 undef = .int .i64 (free : Int) → a'.tmps.getD 26 undef = .int .i64 (en_ : Int) → a'.tmps.getD 27 undef = .int .i64 (T : Int) → a'.tmps.getD 28 undef = .slice (some ⟨bb, 0, none⟩) T T → a'.tmps.getD 37 undef = .slice (some ⟨zg, 0, none⟩) m zcap → a'.tmps.getD 39 undef = .slice (some ⟨ob, 0, none⟩) T T → a'.tmps.getD 41 undef = .slice (some ⟨kg, 0, none⟩) m2 kcap → a'.tmps.getD 43 undef = .slice (some ⟨ng, 0, none⟩) m2 m2 → a'.tmps.getD 44 undef = .slice (some ⟨hg, 0, none⟩) m2 m2 → a'.tmps.getD 47 undef = .int .i64 (fe : Int) → (OutA bb T start free en_ Z a' w' ∨ OutB T start en_ OB K a' w') → Below w.heap.size w w' → Code.wp Tryf.prog (tk 49 (Tryf.f6.body.getD .skip)) Q a' w') :
    Code.wp Tryf.prog (tk 44 (Tryf.f6.body.getD .skip)) Q a w := by
  obtain ⟨f, hf, rfl⟩ := lit848 a hsz hd
  have e0 : f 0 = .slice ao0 start start := (hf 0).symm.trans h0
  have e1 : f 1 = .slice ao1 post post := (hf 1).symm.trans h1
  have e2 : f 2 = .slice ao2 n n := (hf 2).symm.trans h2
  have e3 : f 3 = .slice ao3 n n := (hf 3).symm.trans h3
  have e4 : f 4 = .slice ao4 n n := (hf 4).symm.trans h4
  have e5 : f 5 = .slice ao5 n n := (hf 5).symm.trans h5
  have e6 : f 6 = .int .u16 (slack : Int) := (hf 6).symm.trans h6
  have e7 : f 7 = .int .u8 vid := (hf 7).symm.trans h7
  have e8 : f 8 = .int .i64 size := (hf 8).symm.trans h8
  have e19 : f 19 = .int .i64 (n : Int) := (hf 19).symm.trans h19
  have e20 : f 20 = .int .i64 (start : Int) := (hf 20).symm.trans h20
  have e21 : f 21 = .slice (some ⟨og, 0, none⟩) n n := (hf 21).symm.trans h21
  have e22 : f 22 = .slice (some ⟨eg, 0, none⟩) n n := (hf 22).symm.trans h22
  have e25 : f 25 = .int .i64 (free : Int) := (hf 25).symm.trans h25
  have e26 : f 26 = .int .i64 (en_ : Int) := (hf 26).symm.trans h26
  have e27 : f 27 = .int .i64 (T : Int) := (hf 27).symm.trans h27
  have e28 : f 28 = .slice (some ⟨bb, 0, none⟩) T T := (hf 28).symm.trans h28
  have e37 : f 37 = .slice (some ⟨zg, 0, none⟩) m zcap := (hf 37).symm.trans h37
  have e39 : f 39 = .slice (some ⟨ob, 0, none⟩) T T := (hf 39).symm.trans h39
  have e41 : f 41 = .slice (some ⟨kg, 0, none⟩) m2 kcap := (hf 41).symm.trans h41
  have e43 : f 43 = .slice (some ⟨ng, 0, none⟩) m2 m2 := (hf 43).symm.trans h43
  have e44 : f 44 = .slice (some ⟨hg, 0, none⟩) m2 m2 := (hf 44).symm.trans h44
  have e47 : f 47 = .int .i64 (fe : Int) := (hf 47).symm.trans h47
  have e49 : f 49 = .bool (decide (size ≤ (en_ : Int) - (fe : Int))) := (hf 49).symm.trans h49
  have HQ : Hid (∀ a' w', a'.tmps.size = 848 → a'.defers = [] → a'.tmps.getD 0 undef = .slice ao0 start start → a'.tmps.getD 1 undef = .slice ao1 post post → a'.tmps.getD 2 undef = .slice ao2 n n → a'.tmps.getD 3 undef = .slice ao3 n n → a'.tmps.getD 4 undef = .slice ao4 n n → a'.tmps.getD 5 undef = .slice ao5 n n → a'.tmps.getD 6 undef = .int .u16 (slack : Int) → a'.tmps.getD 7 undef = .int .u8 vid → a'.tmps.getD 8 undef = .int .i64 size → a'.tmps.getD 19 undef = .int .i64 (n : Int) → a'.tmps.getD 20 undef = .int .i64 (start : Int) → a'.tmps.getD 21 undef = .slice (some ⟨og, 0, none⟩) n n → a'.tmps.getD 22 undef = .slice (some ⟨eg, 0, none⟩) n n → a'.tmps.getD 25 undef = .int .i64 (free : Int) → a'.tmps.getD 26 undef = .int .i64 (en_ : Int) → a'.tmps.getD 27 undef = .int .i64 (T : Int) → a'.tmps.getD 28 undef = .slice (some ⟨bb, 0, none⟩) T T → a'.tmps.getD 37 undef = .slice (some ⟨zg, 0, none⟩) m zcap → a'.tmps.getD 39 undef = .slice (some ⟨ob, 0, none⟩) T T → a'.tmps.getD 41 undef = .slice (some ⟨kg, 0, none⟩) m2 kcap → a'.tmps.getD 43 undef = .slice (some ⟨ng, 0, none⟩) m2 m2 → a'.tmps.getD 44 undef = .slice (some ⟨hg, 0, none⟩) m2 m2 → a'.tmps.getD 47 undef = .int .i64 (fe : Int) → (OutA bb T start free en_ Z a' w' ∨ OutB T start en_ OB K a' w') → Below w.heap.size w w' → Code.wp Tryf.prog (tk 49 (Tryf.f6.body.getD .skip)) Q a' w') := hQ
  rw [e0, e1, e2, e3, e4, e5, e6, e7, e8, e19, e20, e21, e22, e25, e26, e27, e28, e37, e39, e41, e43, e44, e47, e49]
  clear h0 e0 h1 e1 h2 e2 h3 e3 h4 e4 h5 e5 h6 e6 h7 e7 h8 e8 h19 e19 h20 e20 h21 e21 h22 e22 h25 e25 h26 e26 h27 e27 h28 e28 h37 e37 h39 e39 h41 e41 h43 e43 h44 e44 h47 e47 h49 e49 hf hsz hd hQ
  conv => arg 2; whnf
  have HOB : Hid (w.rowIs bb 5 T (V .u8 OB)) := hob
  have HOLD : Hid (w.rowIs ob 5 T (V .u8 OB)) := hold
  have HF : Hid (F.answers w.tape) := hF
  have HNS : Hid (Calls Tryf.prog 25 #[.slice (some ⟨bb, 0, none⟩) T T, .slice (some ⟨zg, 0, none⟩) m zcap, .int .i64 (start : Int), .int .i64 (free : Int), .int .i64 (en_ : Int)] w fun e w' =>
      ∃ s, e = .returned (.pointer (some ⟨s, 0, none⟩)) ∧ w.heap.size < s ∧ w'.heap[s]? = some (.cells #[.slice (some ⟨bb, 0, none⟩) T T, .slice (some ⟨w.heap.size, 0, none⟩) m m, .int .i64 (start : Int), .int .i64 (free : Int), .int .i64 (en_ : Int)] 72 (0, 0)) ∧
        RecUp w' w.heap.size m m bb Z ∧ Below w.heap.size w w') := newStore bb T zg zcap m start free en_ Z hZl hm w hz (fun r hr => by
          obtain ⟨_, h1, h2, h3⟩ := hZ r hr
          unfold ln at h3
          exact ⟨by omega, by omega⟩) (by omega)
  have HZC : Hid (∀ (s rg : Nat) (w2 : World), F.answers w2.tape → w2.heap[s]? = some (.cells #[.slice (some ⟨bb, 0, none⟩) T T, .slice (some ⟨rg, 0, none⟩) m m, .int .i64 (start : Int), .int .i64 (free : Int), .int .i64 (en_ : Int)] 72 (0, 0)) → RecUp w2 rg m m bb Z → w2.rowIs bb 5 T (V .u8 OB) →
      Calls Tryf.prog 26 #[.pointer (some ⟨s, 0, none⟩), .string (nmOf vid), .agg #[.int .u8 (gOf vid), .int .u8 0, .int .u8 0, .int .u8 0, .int .u8 0, .int .u8 0, .int .u8 0, .int .u8 0, .int .u8 0, .int .u8 0, .int .u8 0, .int .u8 0, .int .u8 0, .int .u8 0, .int .u8 0, .int .u8 0], .int .i64 size] w2 (RPost w2 s T start en_ size OB K)) := fun s rg w2 h1 h2 h3 h4 => by
    have := zzReclaim F s rg m bb T start free en_ (vid % 8) size Z OB w2 h1 h2 hZl hm hZ (by omega) (by omega) h3 h4 (by omega) hse heT (by rw [hKF]; exact hfit)
    rw [hKF, nm8, g8] at this
    exact this
  have HZL : Hid (Z.length = m) := hZl
  have HFE : Hid (fe = frOf start K) := hfe
  clear hob hold hF hZl hz hZ hfit hfe hKF
  go_wp2_with fail
  refine HNS.out.mono ?_
  rintro e w1 ⟨s, rfl, hs, hst1, hup1, hb1⟩
  have HS : Hid (w.heap.size < s) := hs
  have HST1 : Hid (w1.heap[s]? = some (.cells #[.slice (some ⟨bb, 0, none⟩) T T, .slice (some ⟨w.heap.size, 0, none⟩) m m, .int .i64 (start : Int), .int .i64 (free : Int), .int .i64 (en_ : Int)] 72 (0, 0))) := hst1
  have HUP1 : Hid (RecUp w1 w.heap.size m m bb Z) := hup1
  have HB1 : Hid (Below w.heap.size w w1) := hb1
  have HS1 : Hid (s < w1.heap.size) := (Array.getElem?_eq_some_iff.1 hst1).1
  clear hs hst1 hup1 hb1
  go_wp2_with fail
  refine (name vid hv0 hv1 _).mono ?_
  rintro e w1' ⟨rfl, rfl⟩
  go_wp2_with fail
  refine (guid' vid hv0 hv1 _).mono ?_
  rintro e w2 ⟨rfl, hb2⟩
  have HB2 : Hid (Below w1'.heap.size w1' w2) := hb2
  clear hb2
  go_wp2_with fail
  have hs2 : s < w1'.heap.size := HS1.out
  have hrg2 : w.heap.size < w1'.heap.size := by have := HS.out; omega
  have e2s : w2.heap[s]? = w1'.heap[s]? := HB2.out.block s hs2
  have hbw2 : Below w.heap.size w w2 := HB1.out.trans (HB2.out.mono HB1.out.size)
  have hup2 : RecUp w2 w.heap.size m m bb Z := HUP1.out.of_block (HB2.out.block _ hrg2)
  have HUP2 : Hid (RecUp w2 w.heap.size m m bb Z) := hup2
  have HST2 : Hid (w2.heap[s]? = some (.cells #[.slice (some ⟨bb, 0, none⟩) T T, .slice (some ⟨w.heap.size, 0, none⟩) m m, .int .i64 (start : Int), .int .i64 (free : Int), .int .i64 (en_ : Int)] 72 (0, 0))) := e2s.trans HST1.out
  have HBW2 : Hid (Below w.heap.size w w2) := hbw2
  have HS2 : Hid (s < w2.heap.size) := by have := HB2.out.size; unfold Hid; omega
  refine (HZC.out s w.heap.size w2 (by rw [hbw2.tape]; exact HF.out) HST2.out hup2 (HOB.out.of_block (hbw2.block bb HOB.out.lt))).mono ?_
  clear hs2 hrg2 e2s hbw2 hup2
  rintro e w3 (⟨hbig, ⟨p, rfl⟩, hb3⟩ | ⟨hsm, rfl, hg3, nb, ao, cap, hst3, hnb, hrow3, hrec3⟩)
  · have HB3 : Hid (Below w.heap.size w w3) := HBW2.out.trans (hb3.mono HBW2.out.size)
    have hacc : decide (size ≤ (en_ : Int) - (fe : Int)) = false := by rw [HFE.out]; simp; omega
    rw [hacc]
    have HE1 : Hid (w3.heap[s]? = w2.heap[s]?) := hb3.block s HS2.out
    have HE2 : Hid (w3.heap[w.heap.size]? = w2.heap[w.heap.size]?) := hb3.block _ (by have := HS.out; have := HS2.out; omega)
    have HST3 : Hid (w3.heap[s]? = some (.cells #[.slice (some ⟨bb, 0, none⟩) T T, .slice (some ⟨w.heap.size, 0, none⟩) m m, .int .i64 (start : Int), .int .i64 (free : Int), .int .i64 (en_ : Int)] 72 (0, 0))) := HE1.out.trans HST2.out
    clear hbig hb3 hacc
    go_wp2_with fail
    refine (equal_yes _ _ T T T OB w3 (by omega) (.inr ⟨bb, 0, rfl, fun i hi => by rw [Nat.zero_add]; exact (HOB.out.of_block (HB3.out.block bb HOB.out.lt)).cell hi⟩) (.inr ⟨ob, 0, rfl, fun i hi => by rw [Nat.zero_add]; exact (HOLD.out.of_block (HB3.out.block ob HOLD.out.lt)).cell hi⟩)).mono ?_
    rintro e w4 ⟨rfl, hsame⟩
    obtain ⟨q, rfl⟩ := hsame
    go_upto_region 111 with fail
    rename_i K hK
    have HK : Hid (∀ (a : Act) (w : World), Code.wp Tryf.prog (tk 49 (Tryf.f6.body.getD .skip)) Q a w → K a w) := hK
    clear hK
    go_wp2_with fail
    refine (zzBytes s _ ⟨_, _, _, rfl⟩ _ (cell_of_row (w3.drewN q) s 0 _ _ _ HST3.out)).mono ?_
    rintro e w5 ⟨rfl, rfl⟩
    go_wp2_with fail
    refine HK.out _ _ ?_
    refine HQ.out _ _ rfl rfl rfl rfl rfl rfl rfl rfl rfl rfl rfl rfl rfl rfl rfl rfl rfl rfl rfl rfl rfl rfl rfl rfl rfl (.inl ⟨s, w.heap.size, p, rfl, rfl, rfl, ?_, ?_⟩) ⟨HB3.out.os, HB3.out.tape, HB3.out.output, HB3.out.size, HB3.out.block⟩
    · rw [HZL.out]; exact HST3.out
    · rw [HZL.out]; exact HUP2.out.of_block HE2.out
  · have HB3 : Hid (Below w.heap.size w w3) := ⟨hg3.os.trans HBW2.out.os, hg3.tape.trans HBW2.out.tape, hg3.output.trans HBW2.out.output, Nat.le_trans HBW2.out.size hg3.size, fun k hk => (hg3.block k (by have := HBW2.out.size; omega) (by have := HS.out; simp; omega)).trans (HBW2.out.block k hk)⟩
    have hacc : decide (size ≤ (en_ : Int) - (fe : Int)) = true := by rw [HFE.out]; simp; omega
    rw [hacc]
    have HST3 : Hid (w3.heap[s]? = some (.cells #[.slice (some ⟨nb, 0, none⟩) T T, .slice ao K.length cap, .int .i64 (start : Int), .int .i64 ((frOf start K : Nat) : Int), .int .i64 (en_ : Int)] 72 (0, 0))) := hst3
    have HROW3 : Hid (w3.rowIs nb 5 T (V .u8 (newB OB start en_ T K))) := hrow3
    have HREC3 : Hid (K.length = 0 ∨ ∃ kg, ao = some ⟨kg, 0, none⟩ ∧ RecUp w3 kg K.length K.length nb (placed start K)) := hrec3
    clear hsm hg3 hst3 hnb hrow3 hrec3 hacc
    go_wp2_with fail
    refine (equal_yes _ _ T T T OB w3 (by omega) (.inr ⟨bb, 0, rfl, fun i hi => by rw [Nat.zero_add]; exact (HOB.out.of_block (HB3.out.block bb HOB.out.lt)).cell hi⟩) (.inr ⟨ob, 0, rfl, fun i hi => by rw [Nat.zero_add]; exact (HOLD.out.of_block (HB3.out.block ob HOLD.out.lt)).cell hi⟩)).mono ?_
    rintro e w4 ⟨rfl, hsame⟩
    obtain ⟨q, rfl⟩ := hsame
    go_upto_region 111 with fail
    rename_i K hK
    have HK : Hid (∀ (a : Act) (w : World), Code.wp Tryf.prog (tk 49 (Tryf.f6.body.getD .skip)) Q a w → K a w) := hK
    clear hK
    go_wp2_with fail
    refine (zzBytes s _ ⟨_, _, _, rfl⟩ _ (cell_of_row (w3.drewN q) s 0 _ _ _ HST3.out)).mono ?_
    rintro e w5 ⟨rfl, rfl⟩
    go_wp2_with fail
    refine HK.out _ _ ?_
    refine HQ.out _ _ rfl rfl rfl rfl rfl rfl rfl rfl rfl rfl rfl rfl rfl rfl rfl rfl rfl rfl rfl rfl rfl rfl rfl rfl rfl (.inr ⟨s, nb, ao, cap, rfl, rfl, rfl, HST3.out, HROW3.out, HREC3.out⟩) ⟨HB3.out.os, HB3.out.tape, HB3.out.output, HB3.out.size, HB3.out.block⟩
end Go.Proofs.Qxb6003952aFmt
