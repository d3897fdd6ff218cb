/-
  Bytes gathered in an array of 64 that stands in its own block, and in a row of its own where they are more.
  TransformTokenizedSubject: a partition. Printed by wip/py/gen_tp.py.
-/
import Derived.Test.YtocfcajafkkhdaaDoorZTp
import Derived.Test.YtocfcajafkkhdaaDoorZG8
import Derived.Test.YtocfcajafkkhdaaDoorZG7
import Derived.ArgAppend
import Derived.Lib.LazyBuf
import Derived.Deep.MidRow
/- Tk2 -/
section
namespace Go.Proofs.YtocfcajafkkhdaaDoor
open Go.RowKit

/-- what is gathered so far -/
def KeyP (w0 : World) (g c : Nat) (l : List UInt8) (wr : World) : Prop :=
  l.length ≤ c ∧ w0.heap.size ≤ g ∧ g < wr.heap.size ∧ (∀ j, j < l.length → wr.cell? ⟨g, j, none⟩ = some (.int .u8 (l.getD j 0).toNat)) ∧ (∀ j, j < c → (wr.cell? ⟨g, j, none⟩).isSome = true) ∧ (∀ j, wr.frozen? ⟨g, j, none⟩ = false ∨ c ≤ j) ∧ Below w0.heap.size w0 wr
theorem KeyP.below {w0 : World} {g c : Nat} {l : List UInt8} {wr w2 : World} (h : KeyP w0 g c l wr) (hb : Below wr.heap.size wr w2) : KeyP w0 g c l w2 :=
  ⟨h.1, h.2.1, Nat.lt_of_lt_of_le h.2.2.1 hb.size, fun j hj => (hb.cell (p := ⟨g, j, none⟩) h.2.2.1).trans (h.2.2.2.1 j hj), fun j hj => by rw [hb.cell (p := ⟨g, j, none⟩) h.2.2.1]; exact h.2.2.2.2.1 j hj,
    fun j => by rw [hb.frozen (p := ⟨g, j, none⟩) h.2.2.1]; exact h.2.2.2.2.2.1 j, h.2.2.2.2.2.2.trans (hb.mono h.2.2.2.2.2.2.size)⟩
theorem KeyP.lies {w0 : World} {g c : Nat} {l : List UInt8} {wr : World} (h : KeyP w0 g c l wr) : K.Lies wr (some ⟨g, 0, none⟩) l.length (fun j => (u8s l).getD j undef) :=
  fun _ => ⟨g, 0, rfl, h.2.2.1, fun j hj => by rw [Nat.zero_add, h.2.2.2.1 j hj]; simp [u8s, List.getD, hj]⟩
theorem KeyP.new (w0 : World) (cs : Array Value) (h : cs.size = 64) : KeyP w0 w0.heap.size 64 [] (w0.alloc (.cells cs 93)) := by
  have hb := K.heap_alloc_at w0 (.cells cs 93)
  refine ⟨by simp, Nat.le_refl _, by simp, fun j hj => by simp at hj, fun j hj => ?_, fun j => .inl ?_, (Below.refl _ _).alloc (Nat.le_refl _) _⟩
  · unfold World.cell?
    rw [hb]
    simp [show j < cs.size by omega]
  · unfold World.frozen?
    rw [hb]
    simp
theorem u8s_len (l : List UInt8) : (u8s l).length = l.length := by simp [u8s]
theorem u8s_app (a b : List UInt8) : u8s (a ++ b) = u8s a ++ u8s b := by simp [u8s]
theorem u8s_at {l : List UInt8} {j : Nat} (hj : j < l.length) : (u8s l)[j]? = some (.int .u8 (l.getD j 0).toNat) := by simp [u8s, List.getD, hj]
theorem KeyP.row {w0 wr w2 : World} {v : Value} {l : List UInt8} (h0 : 0 < l.length) (hown : w2.ownsRow wr.heap.size 5 1 v l.length (u8s l)) (hb : Below w0.heap.size w0 w2) (hs : w0.heap.size ≤ wr.heap.size) : ∃ g c, v = .slice (some ⟨g, 0, none⟩) l.length c ∧ KeyP w0 g c l w2 := by
  rcases hown.2 with ⟨_, hn⟩ | ⟨g, cap, cur, rfl, hbs, hg, hnc, hm, hcs, htake⟩
  · omega
  · refine ⟨g, cap, rfl, hnc, Nat.le_trans hs hbs, lt_of hg, fun j hj => ?_, fun j hj => ?_, fun j => .inl ?_, hb⟩
    · have := hown.cells (g := g) rfl j _ (u8s_at hj)
      rw [Addr.add_lit, Nat.zero_add] at this
      exact this
    · simp [World.cell?, hg]
      omega
    · simp [World.frozen?, hg]
theorem KeyP.sets {w0 wr : World} {g c : Nat} {l t : List UInt8} (h : KeyP w0 g c l wr) (ht : l.length + t.length ≤ c) : KeyP w0 g c (l ++ t) (wr.setCells g l.length (u8s t)) := by
  obtain ⟨h1, h2, h3, h4, h5, h6, h7⟩ := h
  refine ⟨by rw [List.length_append]; exact ht, h2, ?_, fun j hj => ?_, fun j hj => World.isSome_setCells _ _ _ _ _ (h5 j hj), fun j => by rw [World.frozen?_setCells]; exact h6 j, below_setCells h2 _ _ _ h7⟩
  · have := (below_setCells (Nat.zero_le g) (u8s t) l.length wr (Below.refl 0 wr)).size
    omega
  · rw [List.length_append] at hj
    by_cases hl : j < l.length
    · rw [World.cell?_setCells_out _ _ _ _ _ (fun _ _ => .inl hl), h4 j hl]
      simp [List.getD, List.getElem?_append_left hl]
    · have h9 := World.cell?_setCells_in g (u8s t) l.length wr (fun i hi => by rw [u8s_len] at hi; exact h5 _ (by omega)) (j - l.length) (by rw [u8s_len]; omega)
      rw [show l.length + (j - l.length) = j from by omega] at h9
      rw [h9]
      have hj2 : j - l.length < t.length := by omega
      simp [u8s, List.getD, List.getElem?_append_right (by omega : l.length ≤ j), hj2]
theorem wpList_key {ops : Array Oper} {rest : List Oper} {o : Oper} {a : Act} {w : World} {Q : Exit → Act → World → Prop} (hgd : o.guard = none) (s x : Operand) (ho : o.op = .call { callee := .builtin .append, args := #[s, x], argTypes := #[78, 78] })
    (w0 : World) (g c : Nat) (l : List UInt8) (hs : a.eval s = .slice (some ⟨g, 0, none⟩) l.length c) (hk : KeyP w0 g c l w) (gg m cc : Nat) (t : List UInt8) (hm : m = t.length) (hx : a.eval x = .slice (some ⟨gg, 0, none⟩) m cc) (hc : ∀ j, j < t.length → w.cell? ⟨gg, j, none⟩ = some (.int .u8 (t.getD j 0).toNat))
    (h0 : 0 < t.length) (hn : l.length + t.length ≤ 1000000)
    (h : ∀ g' c' w' n', n' = (l ++ t).length → KeyP w0 g' c' (l ++ t) w' → wpList Tryd.prog ops Q rest (a.put o.dst (.slice (some ⟨g', 0, none⟩) n' c')) w') : wpList Tryd.prog ops Q (o :: rest) a w := by
  subst hm
  obtain ⟨i0, hi0, hz0, hz1, hz2⟩ := info_parts info5
  have hcp := hk
  obtain ⟨h1, h2, h3, h4, h5, h6, h7⟩ := hk
  refine wpList_append_arg w hgd s x 78 ho 5 i0 (.int .u8 0) 1 1 Tryd.underlying78 hi0 hz0 hz1 hz2 rfl (by decide) g 0 l.length c (u8s l) hs (by rw [u8s_len, Nat.mul_one]) ?_ ⟨gg, 0, none⟩ t.length cc (u8s t) hx (by rw [u8s_len, Nat.mul_one]) ?_ ?_ ?_ (by unfold maxLen; omega) (by omega) ?_ ?_
  · intro j u hu
    have hj : j < l.length := by have := (List.getElem?_eq_some_iff.1 hu).1; rwa [u8s_len] at this
    rw [u8s_at hj] at hu
    rw [Nat.zero_add, h4 j hj]; exact hu
  · intro j u hu
    have hj : j < t.length := by have := (List.getElem?_eq_some_iff.1 hu).1; rwa [u8s_len] at this
    rw [u8s_at hj] at hu
    rw [Addr.add_lit, Nat.zero_add, hc j hj]; exact hu
  · intro u hu
    obtain ⟨b, _, rfl⟩ := List.mem_map.1 hu
    rfl
  · intro hroom j hj
    rw [u8s_len] at hj
    refine ⟨h5 _ (by omega), ?_⟩
    rcases h6 (0 + l.length * 1 + j) with h9 | h9
    · exact h9
    · omega
  · intro hroom
    have h8 := h g c _ (l.length + t.length) (by simp) (hcp.sets (t := t) hroom)
    rw [Nat.zero_add, Nat.mul_one]
    exact h8
  · intro hfull v' w' hown hg
    rw [← u8s_app] at hown
    have hb2 : Below w0.heap.size w0 w' := h7.grown hg h7.size (fun k hk => by cases hk)
    obtain ⟨g', c', rfl, hK⟩ := KeyP.row (w0 := w0) (wr := w) (l := l ++ t) (by rw [List.length_append]; omega) (by rw [List.length_append]; exact hown) hb2 h7.size
    exact h g' c' w' _ rfl hK
end Go.Proofs.YtocfcajafkkhdaaDoor
end
/- Tq2 -/
section
namespace Go.Proofs.YtocfcajafkkhdaaDoor
open Go.RowKit

theorem wp_out2 {c : Code} {id : Nat} {K K2 : Act → World → Prop} {Q : Exit → Act → World → Prop} {a : Act} {w : World} (h : c.wp Tryd.prog (Exit.inBlock id (Ends K)) a w) (hq : ∀ a w, K a w → K2 a w) : c.wp Tryd.prog (Exit.inBlock id (Exit.then K2 Q)) a w :=
  wp_out h fun e a w he k => by
    rcases he with rfl | rfl
    · exact hq a w k
    · simp only [Exit.inBlock, if_true]
      exact hq a w k
set_option maxRecDepth 1000000 in
/-- the frame at the loop over a partition's wildcards -/
def P33 (p tg tn b n : Nat) (T : Option Addr) (cT : Nat) (x : Nat → Value) (j : Nat) (g ln c g3 m c3 k : Nat) : List Value := [.pointer (some ⟨p, 0, none⟩), .slice (some ⟨tg, 0, none⟩) tn 32, undef, undef, .string ⟨#[]⟩, .pointer (some ⟨b, 0, none⟩), .int .i64 ((n : Int) - 1), .int .i64 j, x 8, x 9, .slice (some ⟨g, 0, none⟩) ln c, x 11, x 12, x 13, x 14, x 15, x 16, x 17, x 18, x 19, x 20, x 21, x 22, x 23, x 24, x 25, x 26, x 27, x 28, x 29, x 30, x 31, x 32, x 33, x 34, x 35, x 36, x 37, x 38, x 39, .pointer (some ⟨p, 0, none⟩), .pointer (some ⟨p, 0, none⟩), .pointer (some ⟨p, 4, none⟩), .slice T n cT, .int .i64 n, .bool false, undef, undef, undef, undef, .pointer (some ⟨p, 0, none⟩), .pointer (some ⟨p, 0, none⟩), .pointer (some ⟨p, 4, none⟩), .slice T n cT, .int .i64 n, .int .i64 ((n : Int) - 1), .pointer (some ⟨p, 0, none⟩), .pointer (some ⟨p, 0, none⟩), .pointer (some ⟨p, 4, none⟩), .slice T n cT, .int .i64 n, .int .i64 j, x 62, x 63, x 64, x 65, x 66, x 67, x 68, x 69, x 70, x 71, x 72, x 73, x 74, x 75, x 76, x 77, x 78, x 79, x 80, x 81, x 82, x 83, x 84, x 85, x 86, x 87, x 88, x 89, x 90, x 91, x 92, x 93, x 94, x 95, x 96, x 97, x 98, x 99, x 100, x 101, x 102, x 103, x 104, x 105, x 106, x 107, x 108, x 109, x 110, x 111, x 112, x 113, x 114, .slice (some ⟨g3, 0, none⟩) m c3, .int .i64 m, .int .i64 k, x 118, x 119, x 120, x 121, x 122, x 123, x 124, x 125, x 126, x 127, x 128, x 129, x 130, x 131, x 132, x 133, x 134, x 135, x 136, x 137, x 138, x 139, x 140, x 141, x 142, x 143, x 144, x 145, x 146, x 147, x 148, x 149, x 150, x 151, x 152, x 153, x 154, x 155, x 156, x 157, x 158, x 159, x 160, x 161, x 162, x 163, x 164, x 165, x 166, x 167, x 168, x 169, x 170, x 171, x 172, x 173, x 174, x 175, x 176, x 177, x 178, x 179, x 180, x 181, x 182, x 183, x 184, x 185, x 186, x 187, x 188, x 189, x 190, x 191, x 192, x 193, x 194, x 195, x 196, x 197, x 198, x 199, x 200, x 201, x 202, x 203, x 204, x 205, x 206, x 207, x 208, x 209, x 210, x 211, x 212, x 213, x 214, x 215, x 216, x 217, x 218, x 219, x 220, x 221, x 222, x 223, x 224, x 225, x 226, x 227, x 228, x 229, x 230, x 231, x 232, x 233, x 234, x 235, x 236, x 237, x 238, x 239, x 240, x 241, x 242, x 243, x 244, x 245, x 246, x 247, x 248, x 249, x 250, x 251, x 252, x 253, x 254, x 255, x 256, x 257, x 258, x 259, x 260, x 261, x 262, x 263, x 264, x 265, x 266, x 267, x 268, x 269, x 270, x 271, x 272, x 273, x 274, x 275, x 276, x 277, x 278, x 279, x 280, x 281, x 282, x 283, x 284, x 285, x 286, x 287, x 288, x 289, x 290, x 291, x 292, x 293, x 294, x 295, x 296, x 297, x 298, x 299, x 300, x 301, x 302, x 303, x 304, x 305, x 306, x 307, x 308, x 309, x 310, x 311, x 312, x 313, x 314, x 315, x 316, x 317, x 318, x 319, x 320, x 321, x 322, x 323, x 324, x 325, x 326, x 327, x 328, x 329, x 330, x 331, x 332, x 333, x 334, x 335, x 336, x 337, x 338, x 339, x 340, x 341, x 342, x 343, x 344, x 345, x 346, x 347, x 348, x 349, x 350, x 351, x 352, x 353, x 354, x 355, x 356, x 357, x 358, x 359, x 360, x 361, x 362, x 363, x 364, x 365, x 366, x 367, x 368, x 369, x 370, x 371, x 372, x 373, x 374, x 375, x 376, x 377, x 378, x 379, x 380, x 381, x 382, x 383, x 384, x 385, x 386, x 387, x 388, x 389, x 390, x 391, x 392, x 393, x 394, x 395, x 396, x 397, x 398, x 399, x 400, x 401, x 402, x 403, x 404, x 405, x 406, x 407, x 408, x 409, x 410, x 411, x 412, x 413, x 414, x 415, x 416, x 417, x 418, x 419, x 420, x 421, x 422, x 423, x 424, x 425, x 426, x 427, x 428, x 429, x 430, x 431, x 432, x 433, x 434, x 435, x 436, x 437, x 438, x 439, x 440, x 441, x 442, x 443, x 444, x 445, x 446, x 447, x 448, x 449, x 450, x 451, x 452, x 453, x 454, x 455, x 456, x 457, x 458, x 459, x 460, x 461, x 462, x 463, x 464, x 465, x 466, x 467, x 468, x 469, x 470, x 471, x 472, x 473, x 474, x 475, x 476, x 477, x 478, x 479, x 480, x 481, x 482, x 483, x 484, x 485, x 486, x 487, x 488, x 489, x 490, x 491, x 492, x 493, x 494, x 495, x 496, x 497, x 498, x 499, x 500, x 501, x 502, x 503, x 504, x 505, x 506, x 507, x 508, x 509, x 510, x 511, x 512, x 513, x 514, x 515, x 516, x 517, x 518, x 519, x 520, x 521, x 522, x 523, x 524, x 525, x 526, x 527, x 528, x 529, x 530, x 531, x 532, x 533, x 534, x 535, x 536, x 537, x 538, x 539, x 540, x 541, x 542, x 543, x 544, x 545, x 546, x 547, x 548, x 549, x 550, x 551, x 552, x 553, x 554, x 555, x 556, x 557, x 558, x 559, x 560, x 561, x 562, x 563, x 564, x 565, x 566, x 567, x 568, x 569, x 570, x 571, x 572, x 573, x 574, x 575, x 576, x 577, x 578, x 579, x 580, x 581, x 582, x 583, x 584, x 585, x 586, x 587, x 588, x 589, x 590, x 591, x 592, x 593]
theorem back_P33 {p tg tn b n : Nat} {T : Option Addr} {cT j : Nat} {g ln c g3 m c3 k : Nat} {l : List Value} (h : P33 p tg tn b n T cT (fun i => l.getD i undef) j g ln c g3 m c3 k = l) : ∃ x, (⟨l.toArray, []⟩ : Act) = ⟨(P33 p tg tn b n T cT x j g ln c g3 m c3 k).toArray, []⟩ := ⟨_, by rw [h]⟩
set_option maxHeartbeats 4000000 in
set_option maxRecDepth 1000000 in
theorem round2 (b : Nat) (wr wv : World) (p tg tn n : Nat) (T : Option Addr) (cTn : Nat) (x : Nat → Value) (j g c g3 m c3 k t : Nat) (l : List UInt8) (tb : ByteArray) (hk : k < m) (hm : m ≤ 1000) (htn : t < tn) (hsz : tb.size ≤ 1000) (hpos : 0 < tb.size) (hl : l.length ≤ 200000)
    (cI : wv.cell? ⟨g3, k, none⟩ = some (.int .i64 (t : Int))) (cQ : wv.cell? ⟨tg, t, none⟩ = some (.string tb)) (HV : Hid (KeyP wr g c l wv))
    (J KK : Act → World → Prop) (hJ : ∀ g' c' a w', (∃ y, a = ⟨(P33 p tg tn b n T cTn y j g' (l ++ tb.data.toList).length c' g3 m c3 (k + 1)).toArray, []⟩) → KeyP wr g' c' (l ++ tb.data.toList) w' → J a w') :
    (cl loop2C).wp Tryd.prog (Exit.then J (Exit.inBlock 3 (Ends KK))) ⟨(P33 p tg tn b n T cTn x j g l.length c g3 m c3 k).toArray, []⟩ wv := by
  have HK := Lib.hid hJ
  have hcv := conv78 wv tb
  have HB := Lib.hid (HV.out.below (K.bytesWorld_below wv 5 tb))
  have HC := Lib.hid (Lib.bytesWorld_cell wv 5 tb)
  have q0 : (k : Int) < (m : Int) := by omega
  clear hJ
  conv => arg 2; whnf
  unfold P33
  go_wp2_with (at_builtin; refine wpList_key rfl (.tmp 121) (.tmp 126) rfl wr g c l rfl HB.out _ _ _ tb.data.toList (K.bsize tb).symm rfl (fun i hi => HC.out i (by rw [K.bsize] at hi; exact hi)) (by rw [K.bsize]; exact hpos) (by rw [K.bsize]; omega) ?_; intro g' c' w' n' hn' hk'; have HN := Lib.hid hn'; have HK2 := Lib.hid hk'; clear hn' hk')
  have hn' := HN.out
  subst hn'
  refine HK.out g' c' _ _ (back_P33 (k := k + 1) ?_) HK2.out
  kernel_rfl
set_option maxHeartbeats 4000000 in
set_option maxRecDepth 1000000 in
theorem end2 (b : Nat) (wv : World) (p tg tn n : Nat) (T : Option Addr) (cTn : Nat) (x : Nat → Value) (j g c g3 m c3 : Nat) (l : Nat)
    (J KK : Act → World → Prop) (hK : ∀ a, (∃ y, a = ⟨(P33 p tg tn b n T cTn y j g l c g3 m c3 m).toArray, []⟩) → KK a wv) :
    (cl loop2C).wp Tryd.prog (Exit.then J (Exit.inBlock 3 (Ends KK))) ⟨(P33 p tg tn b n T cTn x j g l c g3 m c3 m).toArray, []⟩ wv := by
  have HK := Lib.hid hK
  clear hK
  conv => arg 2; whnf
  unfold P33
  go_wp2_with fail
  refine HK.out _ (back_P33 (k := m) ?_)
  kernel_rfl
/-- what the wildcards of a partition stand for, one behind the other -/
def gat (toks : List (List UInt8)) (ts : List Nat) : List UInt8 := (ts.map (fun t => toks.getD t [])).flatten
theorem gat_succ (toks : List (List UInt8)) (ts : List Nat) {k : Nat} (h : k < ts.length) : gat toks (ts.take (k + 1)) = gat toks (ts.take k) ++ toks.getD (ts.getD k 0) [] := by
  unfold gat
  rw [List.take_succ_eq_append_getElem h, List.map_append, List.flatten_append]
  simp [List.getD, h]
theorem gat_len (toks : List (List UInt8)) (h : ∀ t, (toks.getD t []).length ≤ 1000) : ∀ ts : List Nat, (gat toks ts).length ≤ 1000 * ts.length
  | [] => by simp [gat]
  | t :: r => by
    have ih := gat_len toks h r
    have h1 := h t
    unfold gat at ih ⊢
    rw [List.map_cons, List.flatten_cons, List.length_append, List.length_cons]
    omega
set_option maxRecDepth 1000000 in
theorem loop2 (b : Nat) (wr wv : World) (p tg n : Nat) (T : Option Addr) (cTn : Nat) (j g c g3 c3 : Nat) (toks : List (List UInt8)) (ts : List Nat) (a : Act) (ha : ∃ y, a = ⟨(P33 p tg toks.length b n T cTn y j g 0 c g3 ts.length c3 0).toArray, []⟩)
    (hm : ts.length ≤ 100) (hts : ∀ t ∈ ts, t < toks.length) (hl : ∀ t, (toks.getD t []).length ≤ 1000) (hne : ∀ t, t < toks.length → toks.getD t [] ≠ [])
    (hg3 : g3 < wr.heap.size) (htg : tg < wr.heap.size) (cI : ∀ k, k < ts.length → wr.cell? ⟨g3, k, none⟩ = some (.int .i64 ((ts.getD k 0 : Nat) : Int))) (cQ : ∀ t, t < toks.length → wr.cell? ⟨tg, t, none⟩ = some (sv (toks.getD t []))) (HV : KeyP wr g c [] wv)
    (KK : Act → World → Prop) (hK : ∀ g' c' a w', (∃ y, a = ⟨(P33 p tg toks.length b n T cTn y j g' (gat toks ts).length c' g3 ts.length c3 ts.length).toArray, []⟩) → KeyP wr g' c' (gat toks ts) w' → KK a w') :
    loop2C.wp Tryd.prog (Exit.inBlock 3 (Ends KK)) a wv := by
  obtain ⟨x, rfl⟩ := ha
  have e : loop2C = .loop (cl loop2C) := by kernel_rfl
  rw [e]
  refine wp_loop_ghost_k (fun q a w' => ∃ (x : Nat → Value) (k g' c' : Nat), a = ⟨(P33 p tg toks.length b n T cTn x j g' (gat toks (ts.take k)).length c' g3 ts.length c3 k).toArray, []⟩ ∧ q + k = ts.length ∧ Hid (KeyP wr g' c' (gat toks (ts.take k)) w')) ts.length ?_ ?_
  · exact ⟨x, 0, g, c, rfl, rfl, Lib.hid HV⟩
  · rintro gg _ w' ⟨x2, k, g', c', rfl, hgg, HV⟩ JJ2 KK2 hJ2 hK2
    by_cases hlt : k < ts.length
    · have hb := HV.out.2.2.2.2.2.2
      have ht : ts.getD k 0 < toks.length := hts _ (by rw [List.getD, List.getElem?_eq_getElem hlt]; exact List.getElem_mem hlt)
      obtain ⟨tb, htb⟩ : ∃ tb : ByteArray, sv (toks.getD (ts.getD k 0) []) = .string tb := ⟨_, rfl⟩
      have htl : tb.data.toList = toks.getD (ts.getD k 0) [] := by unfold sv at htb; injection htb with htb; rw [← htb]
      have hs1 : tb.size ≤ 1000 := by rw [← K.bsize, htl]; exact hl _
      have hs2 : 0 < tb.size := by rw [← K.bsize, htl]; exact List.length_pos_iff.2 (hne _ ht)
      refine round2 b wr w' p tg toks.length n T cTn x2 j g' c' g3 ts.length c3 k (ts.getD k 0) (gat toks (ts.take k)) tb hlt (by omega) ht hs1 hs2 ?_ ((hb.cell (p := ⟨g3, k, none⟩) hg3).trans (cI k hlt)) ((hb.cell (p := ⟨tg, _, none⟩) htg).trans (by rw [cQ _ ht, htb])) HV _ KK ?_
      · have := gat_len toks hl (ts.take k)
        rw [List.length_take] at this
        omega
      · intro g2 c2 a2 w2 ⟨y, hy⟩ h3
        rw [htl, ← gat_succ toks ts hlt] at hy h3
        exact hK2 a2 w2 (Handed.intro (gg - 1) (by omega) (hJ2 _ _ _ ⟨y, k + 1, g2, c2, hy, by omega, Lib.hid h3⟩))
    · obtain rfl : k = ts.length := by omega
      have e2 : ts.take ts.length = ts := List.take_length
      rw [e2]
      rw [e2] at HV
      exact end2 b w' p tg toks.length n T cTn x2 j g' c' g3 ts.length c3 _ _ KK (fun a h => hK g' c' a w' h HV.out)
set_option maxHeartbeats 4000000 in
set_option maxRecDepth 1000000 in
theorem arm2 (w wr : World) (p tg n : Nat) (T : Option Addr) (cTn : Nat) (x : Nat → Value) (j N ub uo cU g3 c3 vb vo cV_ : Nat) (toks : List (List UInt8)) (ts : List Nat) (acc : List UInt8)
    (hjn : j < n) (_hn : n ≤ 1000) (hp : p < w.heap.size) (hub : ub < w.heap.size) (hvb : vb < w.heap.size) (h0 : 0 < ts.length)
    (d5 : wr.cell? ⟨p, 5, none⟩ = some (.slice (some ⟨ub, uo, none⟩) n cU)) (d6 : wr.cell? ⟨p, 6, none⟩ = some (.slice (some ⟨vb, vo, none⟩) n cV_))
    (cU0 : wr.cell? ⟨ub, uo + j, none⟩ = some (.slice (some ⟨g3, 0, none⟩) ts.length c3)) (cV : wr.cell? ⟨vb, vo + j, none⟩ = some (.int .i32 (N : Int)))
    (hm : ts.length ≤ 100) (hts : ∀ t ∈ ts, t < toks.length) (hl : ∀ t, (toks.getD t []).length ≤ 1000) (hne : ∀ t, t < toks.length → toks.getD t [] ≠ [])
    (hg3 : g3 < w.heap.size) (htg : tg < w.heap.size) (cI : ∀ k, k < ts.length → wr.cell? ⟨g3, k, none⟩ = some (.int .i64 ((ts.getD k 0 : Nat) : Int))) (cQ : ∀ t, t < toks.length → wr.cell? ⟨tg, t, none⟩ = some (sv (toks.getD t [])))
    (hN1 : 1 ≤ N) (hN2 : N ≤ 1000) (hhl : (hashed N (gat toks ts)).length ≤ 1000) (hR : TrRel w acc wr) (hacc : acc.length ≤ 90000000)
    (KK : Act → World → Prop) (hK : ∀ a wv, (∃ y, a = ⟨(E33 p tg toks.length w.heap.size n T cTn y j ).toArray, []⟩) → TrRel w (acc ++ hashed N (gat toks ts)) wv → KK a wv) :
    arm2C.wp Tryd.prog (Ends KK) ⟨(E33 p tg toks.length w.heap.size n T cTn x j ).toArray, []⟩ wr := by
  have HK := Lib.hid hK
  have HH := Lib.hid (And.intro hts (And.intro hl (And.intro hne (And.intro cI cQ))))
  have hws := hR.2.1.size
  have HR := Lib.hid hR
  obtain ⟨cs, hcs, hz, hst⟩ := lay93
  have hst0 := hst wr
  have hb1 : Below wr.heap.size wr (wr.alloc (.cells cs 93)) := (Below.refl _ _).alloc (Nat.le_refl _) _
  have HS := Lib.hid (And.intro (KeyP.new wr cs hcs) hb1)
  have a5 := (hb1.cell (p := ⟨p, 5, none⟩) (Nat.lt_of_lt_of_le hp hws)).trans d5
  have a6 := (hb1.cell (p := ⟨p, 6, none⟩) (Nat.lt_of_lt_of_le hp hws)).trans d6
  have aU := (hb1.cell (p := ⟨ub, uo + j, none⟩) (Nat.lt_of_lt_of_le hub hws)).trans cU0
  have aV := (hb1.cell (p := ⟨vb, vo + j, none⟩) (Nat.lt_of_lt_of_le hvb hws)).trans cV
  have h0' : (0 : Int) < (ts.length : Int) := by omega
  have HD := Lib.hid (And.intro a6 aV)
  have HO := Lib.hid (And.intro d6 cV)
  clear hK hts hl hne cI cQ hst hb1 hcs hR d5 d6 cU0 cV a6 aV
  conv => arg 2; whnf
  unfold E33
  go_upto_region 15 with (fail)
  clear hz hst0
  generalize wr.alloc (.cells cs 93) = w1 at HS HD a5 aU ⊢
  go_upto_region 17 with (fail)
  rename_i K9 hK9
  have HK9 := Lib.hid hK9
  clear hK9
  refine wp_out2 (wp_code (c := loop2C) ?_ (loop2 w.heap.size wr w1 p tg n T cTn j wr.heap.size 64 g3 c3 toks ts _ (back_P33 (ln := 0) (k := 0) ?_) hm HH.out.1 HH.out.2.1 HH.out.2.2.1 (by omega) (by omega) HH.out.2.2.2.1 HH.out.2.2.2.2 HS.out.1
    (fun a wv => ∃ g' c' y, a = ⟨(P33 p tg toks.length w.heap.size n T cTn y j g' (gat toks ts).length c' g3 ts.length c3 ts.length).toArray, []⟩ ∧ KeyP wr g' c' (gat toks ts) wv) (fun g' c' a w' ⟨y, hy⟩ h3 => ⟨g', c', y, hy, h3⟩))) ?_
  · kernel_rfl
  · kernel_rfl
  · rintro a wv ⟨g', c', y, rfl, hKP⟩
    refine HK9.out _ _ ?_
    have hb := hKP.2.2.2.2.2.2
    have z6 := (hb.cell (p := ⟨p, 6, none⟩) (Nat.lt_of_lt_of_le hp hws)).trans HO.out.1
    have zV := (hb.cell (p := ⟨vb, vo + j, none⟩) (Nat.lt_of_lt_of_le hvb hws)).trans HO.out.2
    have hgl : (gat toks ts).length ≤ 100000 := by
      have := gat_len toks HH.out.2.1 ts
      omega
    have hh := hashpart_any (.pointer (some ⟨p, 0, none⟩)) (some ⟨g', 0, none⟩) c' N (gat toks ts) wv hN1 hN2 hgl hKP.lies
    have HT := Lib.hid (HR.out.below hb)
    clear hb hKP HK9 a5 aU hgl
    unfold P33
    go_wp2_with fail
    with_reducible refine hh.mono ?_
    rintro e w2 ⟨rfl, hb2⟩
    clear hh
    have hw := (HT.out.below hb2).str ⟨(hashed N (gat toks ts)).toArray⟩ (by omega) (by rw [← K.bsize]; exact Nat.le_trans hhl (by omega))
    clear hb2
    go_wp2_with fail
    with_reducible refine hw.mono ?_
    rintro e w3 ⟨rfl, hr⟩
    clear hw
    have G := Lib.hid hr
    clear hr
    go_wp2_with fail
    refine HK.out _ _ (back_E33 ?_) ?_
    · kernel_rfl
    · exact G.out
end Go.Proofs.YtocfcajafkkhdaaDoor
end
