/- The ground of the segments of the law's own function. -/
import Derived.Test.Qxb6003952aFmtWalkE
namespace Go.Proofs.Qxb6003952aFmt
open Go.RowKit Go.Extern.Stop Go.Stop Go.Extern
set_option linter.unusedVariables false

/-- Statements of a sequence struck from its head. -/
def tk : Nat → Code → Code
  | 0, c => c
  | n + 1, .seq _ b => tk n b
  | _, c => c
theorem lits' (t : Array Value) (n : Nat) (h : t.size = n) : t = ((List.range n).map fun i => t.getD i undef).toArray := by
  apply Array.ext_getElem?
  intro i
  by_cases hi : i < n
  · simp [hi, Array.getD, h]
  · rw [Array.getElem?_eq_none (by omega), Array.getElem?_eq_none (by simp; omega)]
set_option maxRecDepth 1000000 in
theorem lit848 (a : Act) (hs : a.tmps.size = 848) (hd : a.defers = []) : ∃ f : Nat → Value, (∀ i, a.tmps.getD i undef = f i) ∧ a = ⟨#[f 0, f 1, f 2, f 3, f 4, f 5, f 6, f 7, f 8, f 9, f 10, f 11, f 12, f 13, f 14, f 15, f 16, f 17, f 18, f 19, f 20, f 21, f 22, f 23, f 24, f 25, f 26, f 27, f 28, f 29, f 30, f 31, f 32, f 33, f 34, f 35, f 36, f 37, f 38, f 39, f 40, f 41, f 42, f 43, f 44, f 45, f 46, f 47, f 48, f 49, f 50, f 51, f 52, f 53, f 54, f 55, f 56, f 57, f 58, f 59, f 60, f 61, f 62, f 63, f 64, f 65, f 66, f 67, f 68, f 69, f 70, f 71, f 72, f 73, f 74, f 75, f 76, f 77, f 78, f 79, f 80, f 81, f 82, f 83, f 84, f 85, f 86, f 87, f 88, f 89, f 90, f 91, f 92, f 93, f 94, f 95, f 96, f 97, f 98, f 99, f 100, f 101, f 102, f 103, f 104, f 105, f 106, f 107, f 108, f 109, f 110, f 111, f 112, f 113, f 114, f 115, f 116, f 117, f 118, f 119, f 120, f 121, f 122, f 123, f 124, f 125, f 126, f 127, f 128, f 129, f 130, f 131, f 132, f 133, f 134, f 135, f 136, f 137, f 138, f 139, f 140, f 141, f 142, f 143, f 144, f 145, f 146, f 147, f 148, f 149, f 150, f 151, f 152, f 153, f 154, f 155, f 156, f 157, f 158, f 159, f 160, f 161, f 162, f 163, f 164, f 165, f 166, f 167, f 168, f 169, f 170, f 171, f 172, f 173, f 174, f 175, f 176, f 177, f 178, f 179, f 180, f 181, f 182, f 183, f 184, f 185, f 186, f 187, f 188, f 189, f 190, f 191, f 192, f 193, f 194, f 195, f 196, f 197, f 198, f 199, f 200, f 201, f 202, f 203, f 204, f 205, f 206, f 207, f 208, f 209, f 210, f 211, f 212, f 213, f 214, f 215, f 216, f 217, f 218, f 219, f 220, f 221, f 222, f 223, f 224, f 225, f 226, f 227, f 228, f 229, f 230, f 231, f 232, f 233, f 234, f 235, f 236, f 237, f 238, f 239, f 240, f 241, f 242, f 243, f 244, f 245, f 246, f 247, f 248, f 249, f 250, f 251, f 252, f 253, f 254, f 255, f 256, f 257, f 258, f 259, f 260, f 261, f 262, f 263, f 264, f 265, f 266, f 267, f 268, f 269, f 270, f 271, f 272, f 273, f 274, f 275, f 276, f 277, f 278, f 279, f 280, f 281, f 282, f 283, f 284, f 285, f 286, f 287, f 288, f 289, f 290, f 291, f 292, f 293, f 294, f 295, f 296, f 297, f 298, f 299, f 300, f 301, f 302, f 303, f 304, f 305, f 306, f 307, f 308, f 309, f 310, f 311, f 312, f 313, f 314, f 315, f 316, f 317, f 318, f 319, f 320, f 321, f 322, f 323, f 324, f 325, f 326, f 327, f 328, f 329, f 330, f 331, f 332, f 333, f 334, f 335, f 336, f 337, f 338, f 339, f 340, f 341, f 342, f 343, f 344, f 345, f 346, f 347, f 348, f 349, f 350, f 351, f 352, f 353, f 354, f 355, f 356, f 357, f 358, f 359, f 360, f 361, f 362, f 363, f 364, f 365, f 366, f 367, f 368, f 369, f 370, f 371, f 372, f 373, f 374, f 375, f 376, f 377, f 378, f 379, f 380, f 381, f 382, f 383, f 384, f 385, f 386, f 387, f 388, f 389, f 390, f 391, f 392, f 393, f 394, f 395, f 396, f 397, f 398, f 399, f 400, f 401, f 402, f 403, f 404, f 405, f 406, f 407, f 408, f 409, f 410, f 411, f 412, f 413, f 414, f 415, f 416, f 417, f 418, f 419, f 420, f 421, f 422, f 423, f 424, f 425, f 426, f 427, f 428, f 429, f 430, f 431, f 432, f 433, f 434, f 435, f 436, f 437, f 438, f 439, f 440, f 441, f 442, f 443, f 444, f 445, f 446, f 447, f 448, f 449, f 450, f 451, f 452, f 453, f 454, f 455, f 456, f 457, f 458, f 459, f 460, f 461, f 462, f 463, f 464, f 465, f 466, f 467, f 468, f 469, f 470, f 471, f 472, f 473, f 474, f 475, f 476, f 477, f 478, f 479, f 480, f 481, f 482, f 483, f 484, f 485, f 486, f 487, f 488, f 489, f 490, f 491, f 492, f 493, f 494, f 495, f 496, f 497, f 498, f 499, f 500, f 501, f 502, f 503, f 504, f 505, f 506, f 507, f 508, f 509, f 510, f 511, f 512, f 513, f 514, f 515, f 516, f 517, f 518, f 519, f 520, f 521, f 522, f 523, f 524, f 525, f 526, f 527, f 528, f 529, f 530, f 531, f 532, f 533, f 534, f 535, f 536, f 537, f 538, f 539, f 540, f 541, f 542, f 543, f 544, f 545, f 546, f 547, f 548, f 549, f 550, f 551, f 552, f 553, f 554, f 555, f 556, f 557, f 558, f 559, f 560, f 561, f 562, f 563, f 564, f 565, f 566, f 567, f 568, f 569, f 570, f 571, f 572, f 573, f 574, f 575, f 576, f 577, f 578, f 579, f 580, f 581, f 582, f 583, f 584, f 585, f 586, f 587, f 588, f 589, f 590, f 591, f 592, f 593, f 594, f 595, f 596, f 597, f 598, f 599, f 600, f 601, f 602, f 603, f 604, f 605, f 606, f 607, f 608, f 609, f 610, f 611, f 612, f 613, f 614, f 615, f 616, f 617, f 618, f 619, f 620, f 621, f 622, f 623, f 624, f 625, f 626, f 627, f 628, f 629, f 630, f 631, f 632, f 633, f 634, f 635, f 636, f 637, f 638, f 639, f 640, f 641, f 642, f 643, f 644, f 645, f 646, f 647, f 648, f 649, f 650, f 651, f 652, f 653, f 654, f 655, f 656, f 657, f 658, f 659, f 660, f 661, f 662, f 663, f 664, f 665, f 666, f 667, f 668, f 669, f 670, f 671, f 672, f 673, f 674, f 675, f 676, f 677, f 678, f 679, f 680, f 681, f 682, f 683, f 684, f 685, f 686, f 687, f 688, f 689, f 690, f 691, f 692, f 693, f 694, f 695, f 696, f 697, f 698, f 699, f 700, f 701, f 702, f 703, f 704, f 705, f 706, f 707, f 708, f 709, f 710, f 711, f 712, f 713, f 714, f 715, f 716, f 717, f 718, f 719, f 720, f 721, f 722, f 723, f 724, f 725, f 726, f 727, f 728, f 729, f 730, f 731, f 732, f 733, f 734, f 735, f 736, f 737, f 738, f 739, f 740, f 741, f 742, f 743, f 744, f 745, f 746, f 747, f 748, f 749, f 750, f 751, f 752, f 753, f 754, f 755, f 756, f 757, f 758, f 759, f 760, f 761, f 762, f 763, f 764, f 765, f 766, f 767, f 768, f 769, f 770, f 771, f 772, f 773, f 774, f 775, f 776, f 777, f 778, f 779, f 780, f 781, f 782, f 783, f 784, f 785, f 786, f 787, f 788, f 789, f 790, f 791, f 792, f 793, f 794, f 795, f 796, f 797, f 798, f 799, f 800, f 801, f 802, f 803, f 804, f 805, f 806, f 807, f 808, f 809, f 810, f 811, f 812, f 813, f 814, f 815, f 816, f 817, f 818, f 819, f 820, f 821, f 822, f 823, f 824, f 825, f 826, f 827, f 828, f 829, f 830, f 831, f 832, f 833, f 834, f 835, f 836, f 837, f 838, f 839, f 840, f 841, f 842, f 843, f 844, f 845, f 846, f 847], []⟩ := by
  refine ⟨fun i => a.tmps.getD i undef, fun _ => rfl, ?_⟩
  obtain ⟨t, d⟩ := a
  dsimp only at hs hd ⊢
  subst hd
  congr 1
  exact lits' t 848 hs

/-- The numbers of a slice can be read, in a block below B. -/
def DatB (B : Nat) (q : IntKind) (w : World) (ao : Option Addr) (n : Nat) (X : Nat → Int) : Prop := n = 0 ∨ ∃ b o, b < B ∧ ao = some ⟨b, o, none⟩ ∧ ∀ i, i < n → w.cell? ⟨b, o + i, none⟩ = some (.int q (X i))
theorem DatB.keep {B : Nat} {q : IntKind} {w w' : World} {ao : Option Addr} {n : Nat} {X : Nat → Int} (h : DatB B q w ao n X) (hb : ∀ k, k < B → w'.heap[k]? = w.heap[k]?) : DatB B q w' ao n X := by
  rcases h with h | ⟨b, o, hB, ha, hc⟩
  · exact .inl h
  · exact .inr ⟨b, o, hB, ha, fun i hi => by rw [World.cell?_of_block (a := ⟨b, o + i, none⟩) (hb b hB)]; exact hc i hi⟩
theorem DatB.dat {B : Nat} {q : IntKind} {w : World} {ao : Option Addr} {n : Nat} {X : Nat → Int} (h : DatB B q w ao n X) : Dat q w ao n X := by
  rcases h with h | ⟨b, o, _, ha, hc⟩
  · exact .inl h
  · exact .inr ⟨b, o, ha, hc⟩
theorem DatB.mono {B B' : Nat} {q : IntKind} {w : World} {ao : Option Addr} {n : Nat} {X : Nat → Int} (h : DatB B q w ao n X) (hB : B ≤ B') : DatB B' q w ao n X := by
  rcases h with h | ⟨b, o, hb, ha, hc⟩
  · exact .inl h
  · exact .inr ⟨b, o, by omega, ha, hc⟩
/-- Element k. -/
theorem DatB.at {B : Nat} {q : IntKind} {w : World} {ao : Option Addr} {n : Nat} {X : Nat → Int} (h : DatB B q w ao n X) {k : Nat} (hk : k < n) : ∃ b o, b < B ∧ ao = some ⟨b, o, none⟩ ∧ w.cell? ⟨b, o + k, none⟩ = some (.int q (X k)) := by
  rcases h with h | ⟨b, o, hb, ha, hc⟩
  · omega
  · exact ⟨b, o, hb, ha, hc k hk⟩
theorem Dat.of_row' {B : Nat} {q : IntKind} {t : Nat} {w : World} {ao : Option Addr} {b n : Nat} {X : Nat → Int} (h : Row' q t w ao b n X) (hB : b < B ∨ n = 0) : DatB B q w ao n X := by
  rcases h with h | ⟨rfl, hr⟩
  · exact .inl h
  · rcases hB with hB | hB
    · exact .inr ⟨b, 0, hB, rfl, fun i hi => by rw [Nat.zero_add, hr.cell hi]; rfl⟩
    · exact .inl hB
theorem index35 {ao : Option Addr} {b o n c k : Nat} (hk : k < n) (ha : ao = some ⟨b, o, none⟩) (wx : World) :
    (Instr.indexAt 35 (.slice ao n c) (.int .i64 (k : Int))).run Tryf.prog wx = .ok (.pointer (some ⟨b, o + k, none⟩)) wx := by
  subst ha
  simp [Instr.indexAt, run_underlying Tryf.underlying35, asIntOf, go_sem, hk]
theorem ix40 {g n c k : Nat} (hk : k < n) (wx : World) :
    (Instr.indexAt 40 (.slice (some ⟨g, 0, none⟩) n c) (.int .i64 (k : Int))).run Tryf.prog wx = .ok (.pointer (some ⟨g, k, none⟩)) wx := by
  simp [Instr.indexAt, run_underlying Tryf.underlying40, asIntOf, hk, Addr.add_lit]
theorem ix22 {g n c k : Nat} (hk : k < n) (wx : World) :
    (Instr.indexAt 22 (.slice (some ⟨g, 0, none⟩) n c) (.int .i64 (k : Int))).run Tryf.prog wx = .ok (.pointer (some ⟨g, k, none⟩)) wx := by
  simp [Instr.indexAt, run_underlying Tryf.underlying22, asIntOf, hk, Addr.add_lit]
theorem ix60 {g n c k : Nat} (hk : k < n) (wx : World) :
    (Instr.indexAt 60 (.slice (some ⟨g, 0, none⟩) n c) (.int .i64 (k : Int))).run Tryf.prog wx = .ok (.pointer (some ⟨g, k, none⟩)) wx := by
  simp [Instr.indexAt, run_underlying Tryf.underlying60, asIntOf, hk, Addr.add_lit]
/-- What the laying out has laid: the copies of the arguments, the offsets and the ends, in blocks below B. -/
structure Env (B : Nat) (w : World) (ao2 ao3 ao4 ao5 : Option Addr) (og eg n start : Nat) (I S : Nat → Int) (L : Nat → Nat) (A : Nat → Int) : Prop where
  d2 : DatB B .u8 w ao2 n I
  d3 : DatB B .u8 w ao3 n S
  d4 : DatB B .u8 w ao4 n fun i => (L i : Int)
  d5 : DatB B .u32 w ao5 n A
  lo : og < B
  le : eg < B
  ro : w.rowIs og 3 n (V .i64 fun i => (offAt start L i : Int))
  re : w.rowIs eg 3 n (V .i64 fun i => (enAt start L i : Int))
theorem Env.keep {B : Nat} {w w' : World} {ao2 ao3 ao4 ao5 : Option Addr} {og eg n start : Nat} {I S : Nat → Int} {L : Nat → Nat} {A : Nat → Int} (h : Env B w ao2 ao3 ao4 ao5 og eg n start I S L A) (hb : ∀ k, k < B → w'.heap[k]? = w.heap[k]?) : Env B w' ao2 ao3 ao4 ao5 og eg n start I S L A :=
  ⟨h.d2.keep hb, h.d3.keep hb, h.d4.keep hb, h.d5.keep hb, h.lo, h.le, h.ro.of_block (hb _ h.lo), h.re.of_block (hb _ h.le)⟩
theorem Env.mono {B B' : Nat} {w : World} {ao2 ao3 ao4 ao5 : Option Addr} {og eg n start : Nat} {I S : Nat → Int} {L : Nat → Nat} {A : Nat → Int} (h : Env B w ao2 ao3 ao4 ao5 og eg n start I S L A) (hB : B ≤ B') : Env B' w ao2 ao3 ao4 ao5 og eg n start I S L A :=
  ⟨h.d2.mono hB, h.d3.mono hB, h.d4.mono hB, h.d5.mono hB, Nat.lt_of_lt_of_le h.lo hB, Nat.lt_of_lt_of_le h.le hB, h.ro, h.re⟩
theorem Env.grown {B : Nat} {w w' : World} {ao2 ao3 ao4 ao5 : Option Addr} {og eg n start : Nat} {I S : Nat → Int} {L : Nat → Nat} {A : Nat → Int} (h : Env B w ao2 ao3 ao4 ao5 og eg n start I S L A) {row : Option Nat} (hg : w.grownBy w' row) (hB : B ≤ w.heap.size) (hr : ∀ j, row = some j → B ≤ j) : Env B w' ao2 ao3 ao4 ao5 og eg n start I S L A :=
  h.keep fun k hk => hg.block k (by omega) fun e => by have := hr k e.symm; omega
/-- A byte into a row. -/
theorem put_row {w : World} {b T : Nat} {X : Nat → Int} (k : Nat) (x : Int) (h : w.rowIs b 5 T (V .u8 X)) : (w.setCell ⟨b, k, none⟩ (.int .u8 x)).rowIs b 5 T (V .u8 fun j => if j = k then x else X j) := by
  refine (h.set k _).congr fun j _ => ?_
  by_cases e : j = k
  · subst e; simp [V]
  · simp [V, e]
theorem grown_set (w : World) (b j : Nat) (v : Value) : w.grownBy (w.setCell ⟨b, j, none⟩ v) (some b) := ⟨rfl, rfl, rfl, by simp [World.setCell], fun k hk hne => Below.heap_setCell _ _ _ _ (fun e => hne (by rw [e]))⟩
theorem grown_refl (w : World) (row : Option Nat) : w.grownBy w row := ⟨rfl, rfl, rfl, Nat.le_refl _, fun _ _ _ => rfl⟩
end Go.Proofs.Qxb6003952aFmt
