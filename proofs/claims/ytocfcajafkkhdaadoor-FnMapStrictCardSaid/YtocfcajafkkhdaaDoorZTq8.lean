/-
  TransformTokenizedSubject: a word split at a mark. Printed by wip/py/gen_tp.py.
-/
import Derived.Test.YtocfcajafkkhdaaDoorZTp
import Derived.Test.YtocfcajafkkhdaaDoorZG7
namespace Go.Proofs.YtocfcajafkkhdaaDoor
open Go.RowKit

set_option maxRecDepth 1000000 in
/-- the frame at the loop over what a word was split into -/
def H33 (p tg tn b n : Nat) (T : Option Addr) (cT : Nat) (x : Nat → Value) (j : Nat) (g n2 c k : Nat) : List Value := [.pointer (some ⟨p, 0, none⟩), .slice (some ⟨tg, 0, none⟩) tn 32, undef, undef, .string ⟨#[]⟩, .pointer (some ⟨b, 0, none⟩), .int .i64 ((n : Int) - 1), .int .i64 j, x 8, x 9, x 10, x 11, x 12, x 13, x 14, x 15, x 16, x 17, x 18, x 19, x 20, x 21, x 22, x 23, x 24, x 25, x 26, x 27, x 28, .slice (some ⟨g, 0, none⟩) n2 c, x 30, x 31, x 32, x 33, x 34, x 35, x 36, x 37, x 38, x 39, .pointer (some ⟨p, 0, none⟩), .pointer (some ⟨p, 0, none⟩), .pointer (some ⟨p, 4, none⟩), .slice T n cT, .int .i64 n, .bool false, undef, undef, undef, undef, .pointer (some ⟨p, 0, none⟩), .pointer (some ⟨p, 0, none⟩), .pointer (some ⟨p, 4, none⟩), .slice T n cT, .int .i64 n, .int .i64 ((n : Int) - 1), .pointer (some ⟨p, 0, none⟩), .pointer (some ⟨p, 0, none⟩), .pointer (some ⟨p, 4, none⟩), .slice T n cT, .int .i64 n, .int .i64 j, x 62, x 63, x 64, x 65, x 66, x 67, x 68, x 69, x 70, x 71, x 72, x 73, x 74, x 75, x 76, x 77, x 78, x 79, x 80, x 81, x 82, x 83, x 84, x 85, x 86, x 87, x 88, x 89, x 90, x 91, x 92, x 93, x 94, x 95, x 96, x 97, x 98, x 99, x 100, x 101, x 102, x 103, x 104, x 105, x 106, x 107, x 108, x 109, x 110, x 111, x 112, x 113, x 114, x 115, x 116, x 117, x 118, x 119, x 120, x 121, x 122, x 123, x 124, x 125, x 126, x 127, x 128, x 129, x 130, x 131, x 132, x 133, x 134, x 135, x 136, x 137, x 138, x 139, x 140, x 141, x 142, x 143, x 144, x 145, x 146, x 147, x 148, x 149, x 150, x 151, x 152, x 153, x 154, x 155, x 156, x 157, x 158, x 159, x 160, x 161, x 162, x 163, x 164, x 165, x 166, x 167, x 168, x 169, x 170, x 171, x 172, x 173, x 174, x 175, x 176, x 177, x 178, x 179, x 180, x 181, x 182, x 183, x 184, x 185, x 186, x 187, x 188, x 189, x 190, x 191, x 192, x 193, x 194, x 195, x 196, x 197, x 198, x 199, x 200, x 201, x 202, x 203, x 204, x 205, x 206, x 207, x 208, x 209, x 210, x 211, x 212, x 213, x 214, x 215, x 216, x 217, x 218, x 219, x 220, x 221, x 222, x 223, x 224, x 225, x 226, x 227, x 228, x 229, x 230, x 231, x 232, x 233, x 234, x 235, x 236, x 237, x 238, x 239, x 240, x 241, x 242, x 243, x 244, x 245, x 246, x 247, x 248, x 249, x 250, x 251, x 252, x 253, x 254, x 255, x 256, x 257, x 258, x 259, x 260, x 261, x 262, x 263, x 264, x 265, x 266, x 267, x 268, x 269, x 270, x 271, x 272, x 273, x 274, x 275, x 276, x 277, x 278, x 279, x 280, x 281, x 282, x 283, x 284, x 285, x 286, x 287, x 288, x 289, x 290, x 291, x 292, x 293, x 294, x 295, x 296, x 297, x 298, x 299, x 300, x 301, x 302, x 303, x 304, x 305, x 306, x 307, x 308, x 309, x 310, x 311, x 312, x 313, x 314, x 315, x 316, x 317, x 318, x 319, x 320, x 321, x 322, x 323, x 324, x 325, x 326, x 327, x 328, x 329, x 330, x 331, x 332, x 333, x 334, x 335, x 336, x 337, x 338, x 339, x 340, x 341, x 342, x 343, x 344, x 345, x 346, x 347, x 348, x 349, x 350, x 351, x 352, x 353, x 354, x 355, x 356, x 357, x 358, x 359, x 360, x 361, x 362, x 363, x 364, x 365, x 366, x 367, x 368, x 369, x 370, x 371, x 372, x 373, x 374, x 375, x 376, x 377, x 378, x 379, x 380, x 381, x 382, x 383, x 384, x 385, x 386, x 387, x 388, x 389, x 390, x 391, x 392, x 393, x 394, x 395, x 396, x 397, x 398, x 399, x 400, x 401, x 402, x 403, x 404, x 405, x 406, x 407, x 408, x 409, x 410, x 411, x 412, x 413, x 414, x 415, x 416, x 417, x 418, x 419, x 420, x 421, x 422, x 423, x 424, x 425, x 426, x 427, x 428, x 429, x 430, x 431, x 432, x 433, x 434, x 435, x 436, x 437, x 438, .slice (some ⟨g, 0, none⟩) n2 c, .int .i64 n2, .int .i64 k, x 442, x 443, x 444, x 445, x 446, x 447, x 448, x 449, x 450, x 451, x 452, x 453, x 454, x 455, x 456, x 457, x 458, x 459, x 460, x 461, x 462, x 463, x 464, x 465, x 466, x 467, x 468, x 469, x 470, x 471, x 472, x 473, x 474, x 475, x 476, x 477, x 478, x 479, x 480, x 481, x 482, x 483, x 484, x 485, x 486, x 487, x 488, x 489, x 490, x 491, x 492, x 493, x 494, x 495, x 496, x 497, x 498, x 499, x 500, x 501, x 502, x 503, x 504, x 505, x 506, x 507, x 508, x 509, x 510, x 511, x 512, x 513, x 514, x 515, x 516, x 517, x 518, x 519, x 520, x 521, x 522, x 523, x 524, x 525, x 526, x 527, x 528, x 529, x 530, x 531, x 532, x 533, x 534, x 535, x 536, x 537, x 538, x 539, x 540, x 541, x 542, x 543, x 544, x 545, x 546, x 547, x 548, x 549, x 550, x 551, x 552, x 553, x 554, x 555, x 556, x 557, x 558, x 559, x 560, x 561, x 562, x 563, x 564, x 565, x 566, x 567, x 568, x 569, x 570, x 571, x 572, x 573, x 574, x 575, x 576, x 577, x 578, x 579, x 580, x 581, x 582, x 583, x 584, x 585, x 586, x 587, x 588, x 589, x 590, x 591, x 592, x 593]
theorem back_H33 {p tg tn b n : Nat} {T : Option Addr} {cT j : Nat} {g n2 c k : Nat} {l : List Value} (h : H33 p tg tn b n T cT (fun i => l.getD i undef) j g n2 c k = l) : ∃ x, (⟨l.toArray, []⟩ : Act) = ⟨(H33 p tg tn b n T cT x j g n2 c k).toArray, []⟩ := ⟨_, by rw [h]⟩
/-- a row of strings in one block -/
def Strs (g : Nat) (ds : List (List UInt8)) (w : World) : Prop := ∃ (cur : Array Value) (fz : Nat × Nat), w.heap[g]? = some (.cells cur 9 fz) ∧ ∀ i, i < ds.length → cur[i]? = some (sv (ds.getD i []))
theorem Strs.cell {g : Nat} {ds : List (List UInt8)} {w : World} (h : Strs g ds w) {i : Nat} (hi : i < ds.length) : w.cell? ⟨g, i, none⟩ = some (sv (ds.getD i [])) := by
  obtain ⟨cur, fz, h1, h2⟩ := h
  simp [World.cell?, h1, h2 i hi]
theorem Strs.keep {g : Nat} {ds : List (List UInt8)} {w w2 : World} (h : Strs g ds w) (hr : Rest2 w w2) : Strs g ds w2 := by
  obtain ⟨cur, fz, h1, h2⟩ := h
  exact ⟨cur, fz, hr g _ h1 (fun _ _ e => by injection e with _ e _; exact absurd e (by decide)) (fun _ _ e => by injection e with _ e _; exact absurd e (by decide)), h2⟩
theorem Strs.of {w : World} {base : Nat} {v : Value} {ds : List (List UInt8)} (h : w.ownsRow base 9 1 v ds.length (ds.map sv)) (hne : 0 < ds.length) : ∃ g c, v = .slice (some ⟨g, 0, none⟩) ds.length c ∧ Strs g ds w := by
  rcases h.2 with ⟨_, hn⟩ | ⟨g, cap, cur, rfl, hb, hg, hnc, _, _, htake⟩
  · omega
  · refine ⟨g, cap, rfl, cur, _, hg, fun j hj => ?_⟩
    have hx : (ds.map sv)[j]? = some (sv (ds.getD j [])) := by simp [List.getD, hj]
    have := h.cells (g := g) rfl j _ hx
    rw [Addr.add_lit] at this
    simpa [World.cell?, hg] using this
theorem pc_len (f : Nat → List UInt8) (n : Nat) (h : ∀ i, (f i).length ≤ 1000) : ∀ k, (pc f n k).length ≤ 1001 * k
  | 0 => by simp [pc]
  | k + 1 => by
    have ih := pc_len f n h k
    have h1 := h k
    have h2 : (if k + 1 < n then [46] else [] : List UInt8).length ≤ 1 := by split <;> simp
    rw [pc, List.length_append, List.length_append]
    omega
set_option maxHeartbeats 4000000 in
set_option maxRecDepth 1000000 in
theorem round8zM (w wr : World) (p tg tn n : Nat) (T : Option Addr) (cTn : Nat) (x : Nat → Value) (j g c : Nat) (ds : List (List UInt8)) (acc : List UInt8) (hk : 0 < ds.length) (hn2 : ds.length ≤ 2000) (hacc : acc.length ≤ 90000000) (hl : ∀ i, (ds.getD i []).length ≤ 1000) (hne : ∀ i, i < ds.length → ds.getD i [] ≠ []) (hm : 0 + 1 < ds.length) (HV : Hid (TrRel w (acc ++ pc (fun i => ds.getD i []) ds.length 0) wr ∧ Strs g ds wr))
    (J KK : Act → World → Prop) (hJ : ∀ a wv, (∃ y, a = ⟨(H33 p tg tn w.heap.size n T cTn y j g ds.length c (0 + 1)).toArray, []⟩) → TrRel w (acc ++ pc (fun i => ds.getD i []) ds.length (0 + 1)) wv → Strs g ds wv → J a wv) :
    (cl loop8C).wp Tryd.prog (Exit.then J (Exit.inBlock 10 (Ends KK))) ⟨(H33 p tg tn w.heap.size n T cTn x j g ds.length c 0).toArray, []⟩ wr := by
  have HK := Lib.hid hJ
  have hpl := pc_len (fun i => ds.getD i []) ds.length hl 0
  obtain ⟨s1, hs1⟩ : ∃ s1 : ByteArray, sv (ds.getD 0 []) = .string s1 := ⟨_, rfl⟩
  have ht1 : s1.data.toList = ds.getD 0 [] := by unfold sv at hs1; injection hs1 with hs1; rw [← hs1]
  have cW := HV.out.2.cell hk
  rw [hs1] at cW
  have hsz : s1.size ≤ 1000 := by rw [← K.bsize, ht1]; exact hl _
  have e1 : s1.toList.isEmpty = false := by
    have := hne 0 hk
    rw [ByteArray.toList_eq, ht1]
    simpa using this
  have hw := HV.out.1.strk s1 (by rw [List.length_append]; omega) (by omega)
  obtain ⟨s2, hs2⟩ : ∃ s2 : ByteArray, sv (ds.getD (0 + 1) []) = .string s2 := ⟨_, rfl⟩
  have ht2 : s2.data.toList = ds.getD (0 + 1) [] := by unfold sv at hs2; injection hs2 with hs2; rw [← hs2]
  have e2 : s2.toList.isEmpty = false := by
    have := hne (0 + 1) hm
    rw [ByteArray.toList_eq, ht2]
    simpa using this
  have HT := Lib.hid ht1
  have HN := Lib.hid (And.intro hl hne)
  have m1 : ((0 : Int) : Int) < (ds.length : Int) - 1 := by omega
  have HM := Lib.hid hm
  have hs3 := hs2
  have HS2 := Lib.hid hs3
  clear hs2 ht2 hs3
  clear hJ hs1 ht1 hl hne hm
  conv => arg 2; whnf
  unfold H33
  go_wp2_with fail
  with_reducible refine hw.mono ?_
  rintro e v1 ⟨rfl, hr, hk2⟩
  clear hw
  have HS1 := Lib.hid (HV.out.2.keep hk2)
  have G1 := Lib.hid hr
  clear hr hk2 cW
  have cW2 := HS1.out.cell HM.out
  rw [HS2.out] at cW2
  have hw := G1.out.strk ⟨#[46]⟩ (by rw [List.length_append, List.length_append, K.bsize]; omega) (by decide)
  go_wp2_with fail
  with_reducible refine hw.mono ?_
  rintro e v2 ⟨rfl, hr, hk2⟩
  clear hw cW2
  have HS3 := Lib.hid (HS1.out.keep hk2)
  have G2 := Lib.hid hr
  clear hr hk2
  go_wp2_with fail
  refine HK.out _ _ (back_H33 (k := 0 + 1) ?_) ?_ HS3.out
  · kernel_rfl
  · rw [pc, if_pos HM.out, ← List.append_assoc, ← List.append_assoc, ← HT.out]
    exact G2.out
set_option maxHeartbeats 4000000 in
set_option maxRecDepth 1000000 in
theorem round8zL (w wr : World) (p tg tn n : Nat) (T : Option Addr) (cTn : Nat) (x : Nat → Value) (j g c : Nat) (ds : List (List UInt8)) (acc : List UInt8) (hk : 0 < ds.length) (hn2 : ds.length ≤ 2000) (hacc : acc.length ≤ 90000000) (hl : ∀ i, (ds.getD i []).length ≤ 1000) (hne : ∀ i, i < ds.length → ds.getD i [] ≠ []) (hm : 0 + 1 = ds.length) (HV : Hid (TrRel w (acc ++ pc (fun i => ds.getD i []) ds.length 0) wr ∧ Strs g ds wr))
    (J KK : Act → World → Prop) (hJ : ∀ a wv, (∃ y, a = ⟨(H33 p tg tn w.heap.size n T cTn y j g ds.length c (0 + 1)).toArray, []⟩) → TrRel w (acc ++ pc (fun i => ds.getD i []) ds.length (0 + 1)) wv → Strs g ds wv → J a wv) :
    (cl loop8C).wp Tryd.prog (Exit.then J (Exit.inBlock 10 (Ends KK))) ⟨(H33 p tg tn w.heap.size n T cTn x j g ds.length c 0).toArray, []⟩ wr := by
  have HK := Lib.hid hJ
  have hpl := pc_len (fun i => ds.getD i []) ds.length hl 0
  obtain ⟨s1, hs1⟩ : ∃ s1 : ByteArray, sv (ds.getD 0 []) = .string s1 := ⟨_, rfl⟩
  have ht1 : s1.data.toList = ds.getD 0 [] := by unfold sv at hs1; injection hs1 with hs1; rw [← hs1]
  have cW := HV.out.2.cell hk
  rw [hs1] at cW
  have hsz : s1.size ≤ 1000 := by rw [← K.bsize, ht1]; exact hl _
  have e1 : s1.toList.isEmpty = false := by
    have := hne 0 hk
    rw [ByteArray.toList_eq, ht1]
    simpa using this
  have hw := HV.out.1.strk s1 (by rw [List.length_append]; omega) (by omega)
  have HT := Lib.hid ht1
  have HN := Lib.hid (And.intro hl hne)
  have m1 : ¬ ((0 : Int) : Int) < (ds.length : Int) - 1 := by omega
  have HM := Lib.hid hm
  clear hJ hs1 ht1 hl hne hm
  conv => arg 2; whnf
  unfold H33
  go_wp2_with fail
  with_reducible refine hw.mono ?_
  rintro e v1 ⟨rfl, hr, hk2⟩
  clear hw
  have HS1 := Lib.hid (HV.out.2.keep hk2)
  have G1 := Lib.hid hr
  clear hr hk2 cW
  go_wp2_with fail
  refine HK.out _ _ (back_H33 (k := 0 + 1) ?_) ?_ HS1.out
  · kernel_rfl
  · rw [pc, if_neg (by have := HM.out; omega), List.append_nil, ← List.append_assoc, ← HT.out]
    exact G1.out
set_option maxHeartbeats 4000000 in
set_option maxRecDepth 1000000 in
theorem round8nM (w wr : World) (p tg tn n : Nat) (T : Option Addr) (cTn : Nat) (x : Nat → Value) (j g c k : Nat) (ds : List (List UInt8)) (acc : List UInt8) (hk : k < ds.length) (hn2 : ds.length ≤ 2000) (hacc : acc.length ≤ 90000000) (hl : ∀ i, (ds.getD i []).length ≤ 1000) (hne : ∀ i, i < ds.length → ds.getD i [] ≠ []) (hm : k + 1 < ds.length) (hk0 : k ≠ 0) (HV : Hid (TrRel w (acc ++ pc (fun i => ds.getD i []) ds.length k) wr ∧ Strs g ds wr))
    (J KK : Act → World → Prop) (hJ : ∀ a wv, (∃ y, a = ⟨(H33 p tg tn w.heap.size n T cTn y j g ds.length c (k + 1)).toArray, []⟩) → TrRel w (acc ++ pc (fun i => ds.getD i []) ds.length (k + 1)) wv → Strs g ds wv → J a wv) :
    (cl loop8C).wp Tryd.prog (Exit.then J (Exit.inBlock 10 (Ends KK))) ⟨(H33 p tg tn w.heap.size n T cTn x j g ds.length c k).toArray, []⟩ wr := by
  have HK := Lib.hid hJ
  have hpl := pc_len (fun i => ds.getD i []) ds.length hl k
  obtain ⟨s1, hs1⟩ : ∃ s1 : ByteArray, sv (ds.getD k []) = .string s1 := ⟨_, rfl⟩
  have ht1 : s1.data.toList = ds.getD k [] := by unfold sv at hs1; injection hs1 with hs1; rw [← hs1]
  have cW := HV.out.2.cell hk
  rw [hs1] at cW
  have hsz : s1.size ≤ 1000 := by rw [← K.bsize, ht1]; exact hl _
  have e1 : s1.toList.isEmpty = false := by
    have := hne k hk
    rw [ByteArray.toList_eq, ht1]
    simpa using this
  have hw := HV.out.1.strk s1 (by rw [List.length_append]; omega) (by omega)
  obtain ⟨s2, hs2⟩ : ∃ s2 : ByteArray, sv (ds.getD (k + 1) []) = .string s2 := ⟨_, rfl⟩
  have ht2 : s2.data.toList = ds.getD (k + 1) [] := by unfold sv at hs2; injection hs2 with hs2; rw [← hs2]
  have e2 : s2.toList.isEmpty = false := by
    have := hne (k + 1) hm
    rw [ByteArray.toList_eq, ht2]
    simpa using this
  have HT := Lib.hid ht1
  have HN := Lib.hid (And.intro hl hne)
  have m1 : (k : Int) < (ds.length : Int) - 1 := by omega
  have b0 : ((k : Int) == 0) = false := by rw [beq_eq_false_iff_ne]; omega
  have HM := Lib.hid hm
  have hs3 := hs2
  have HS2 := Lib.hid hs3
  clear hs2 ht2 hs3
  clear hJ hs1 ht1 hl hne hm
  conv => arg 2; whnf
  unfold H33
  go_wp2_with fail
  with_reducible refine hw.mono ?_
  rintro e v1 ⟨rfl, hr, hk2⟩
  clear hw
  have HS1 := Lib.hid (HV.out.2.keep hk2)
  have G1 := Lib.hid hr
  clear hr hk2 cW
  have cW2 := HS1.out.cell HM.out
  rw [HS2.out] at cW2
  have hw := G1.out.strk ⟨#[46]⟩ (by rw [List.length_append, List.length_append, K.bsize]; omega) (by decide)
  go_wp2_with fail
  with_reducible refine hw.mono ?_
  rintro e v2 ⟨rfl, hr, hk2⟩
  clear hw cW2
  have HS3 := Lib.hid (HS1.out.keep hk2)
  have G2 := Lib.hid hr
  clear hr hk2
  go_wp2_with fail
  refine HK.out _ _ (back_H33 (k := k + 1) ?_) ?_ HS3.out
  · kernel_rfl
  · rw [pc, if_pos HM.out, ← List.append_assoc, ← List.append_assoc, ← HT.out]
    exact G2.out
set_option maxHeartbeats 4000000 in
set_option maxRecDepth 1000000 in
theorem round8nL (w wr : World) (p tg tn n : Nat) (T : Option Addr) (cTn : Nat) (x : Nat → Value) (j g c k : Nat) (ds : List (List UInt8)) (acc : List UInt8) (hk : k < ds.length) (hn2 : ds.length ≤ 2000) (hacc : acc.length ≤ 90000000) (hl : ∀ i, (ds.getD i []).length ≤ 1000) (hne : ∀ i, i < ds.length → ds.getD i [] ≠ []) (hm : k + 1 = ds.length) (hk0 : k ≠ 0) (HV : Hid (TrRel w (acc ++ pc (fun i => ds.getD i []) ds.length k) wr ∧ Strs g ds wr))
    (J KK : Act → World → Prop) (hJ : ∀ a wv, (∃ y, a = ⟨(H33 p tg tn w.heap.size n T cTn y j g ds.length c (k + 1)).toArray, []⟩) → TrRel w (acc ++ pc (fun i => ds.getD i []) ds.length (k + 1)) wv → Strs g ds wv → J a wv) :
    (cl loop8C).wp Tryd.prog (Exit.then J (Exit.inBlock 10 (Ends KK))) ⟨(H33 p tg tn w.heap.size n T cTn x j g ds.length c k).toArray, []⟩ wr := by
  have HK := Lib.hid hJ
  have hpl := pc_len (fun i => ds.getD i []) ds.length hl k
  obtain ⟨s1, hs1⟩ : ∃ s1 : ByteArray, sv (ds.getD k []) = .string s1 := ⟨_, rfl⟩
  have ht1 : s1.data.toList = ds.getD k [] := by unfold sv at hs1; injection hs1 with hs1; rw [← hs1]
  have cW := HV.out.2.cell hk
  rw [hs1] at cW
  have hsz : s1.size ≤ 1000 := by rw [← K.bsize, ht1]; exact hl _
  have e1 : s1.toList.isEmpty = false := by
    have := hne k hk
    rw [ByteArray.toList_eq, ht1]
    simpa using this
  have hw := HV.out.1.strk s1 (by rw [List.length_append]; omega) (by omega)
  have HT := Lib.hid ht1
  have HN := Lib.hid (And.intro hl hne)
  have m1 : ¬ (k : Int) < (ds.length : Int) - 1 := by omega
  have b0 : ((k : Int) == 0) = false := by rw [beq_eq_false_iff_ne]; omega
  have HM := Lib.hid hm
  clear hJ hs1 ht1 hl hne hm
  conv => arg 2; whnf
  unfold H33
  go_wp2_with fail
  with_reducible refine hw.mono ?_
  rintro e v1 ⟨rfl, hr, hk2⟩
  clear hw
  have HS1 := Lib.hid (HV.out.2.keep hk2)
  have G1 := Lib.hid hr
  clear hr hk2 cW
  go_wp2_with fail
  refine HK.out _ _ (back_H33 (k := k + 1) ?_) ?_ HS1.out
  · kernel_rfl
  · rw [pc, if_neg (by have := HM.out; omega), List.append_nil, ← List.append_assoc, ← HT.out]
    exact G1.out
set_option maxHeartbeats 4000000 in
set_option maxRecDepth 1000000 in
theorem end8 (w wr : World) (p tg tn n : Nat) (T : Option Addr) (cTn : Nat) (x : Nat → Value) (j g c : Nat) (ds : List (List UInt8)) (acc : List UInt8) (h0 : 0 < ds.length) (HV : Hid (TrRel w (acc ++ pc (fun i => ds.getD i []) ds.length ds.length) wr))
    (J KK : Act → World → Prop) (hK : ∀ a wv, (∃ y, a = ⟨(E33 p tg tn w.heap.size n T cTn y j ).toArray, []⟩) → TrRel w (acc ++ (jn 46 ds)) wv → KK a wv) :
    (cl loop8C).wp Tryd.prog (Exit.then J (Exit.inBlock 10 (Ends KK))) ⟨(H33 p tg tn w.heap.size n T cTn x j g ds.length c ds.length).toArray, []⟩ wr := by
  have HK := Lib.hid hK
  clear hK
  conv => arg 2; whnf
  unfold H33
  go_wp2_with fail
  refine HK.out _ _ (back_E33 ?_) ?_
  · kernel_rfl
  · have h9 := HV.out
    rw [pc_all _ _ h0] at h9
    have e : (List.range ds.length).map (fun i => ds.getD i []) = ds := by
      apply List.ext_getElem
      · simp
      · intro k h1 h2
        simp at h1
        simp [List.getD, h1]
    rw [e] at h9
    exact h9
set_option maxRecDepth 1000000 in
theorem loop8 (w wr : World) (p tg tn n : Nat) (T : Option Addr) (cTn : Nat) (j g c : Nat) (ds : List (List UInt8)) (acc : List UInt8) (a : Act) (ha : ∃ y, a = ⟨(H33 p tg tn w.heap.size n T cTn y j g ds.length c 0).toArray, []⟩)
    (h0 : 0 < ds.length) (hn2 : ds.length ≤ 2000) (hacc : acc.length ≤ 90000000) (hl : ∀ i, (ds.getD i []).length ≤ 1000) (hne : ∀ i, i < ds.length → ds.getD i [] ≠ []) (HV : TrRel w acc wr) (HS : Strs g ds wr)
    (KK : Act → World → Prop) (hK : ∀ a wv, (∃ y, a = ⟨(E33 p tg tn w.heap.size n T cTn y j ).toArray, []⟩) → TrRel w (acc ++ (jn 46 ds)) wv → KK a wv) :
    loop8C.wp Tryd.prog (Exit.inBlock 10 (Ends KK)) a wr := by
  obtain ⟨x, rfl⟩ := ha
  have e : loop8C = .loop (cl loop8C) := by kernel_rfl
  rw [e]
  refine wp_loop_ghost_k (fun m a wv => ∃ (x : Nat → Value) (k : Nat), a = ⟨(H33 p tg tn w.heap.size n T cTn x j g ds.length c k).toArray, []⟩ ∧ m + k = ds.length ∧ Hid (TrRel w (acc ++ pc (fun i => ds.getD i []) ds.length k) wv ∧ Strs g ds wv)) ds.length ?_ ?_
  · exact ⟨x, 0, rfl, rfl, Lib.hid ⟨by simpa [pc] using HV, HS⟩⟩
  · rintro gg _ wv ⟨x2, k, rfl, hgg, HV⟩ JJ2 KK2 hJ2 hK2
    by_cases hlt : k < ds.length
    · have nxt : ∀ a wv, (∃ y, a = ⟨(H33 p tg tn w.heap.size n T cTn y j g ds.length c (k + 1)).toArray, []⟩) → TrRel w (acc ++ pc (fun i => ds.getD i []) ds.length (k + 1)) wv → Strs g ds wv → KK2 a wv := fun a wv ⟨y, hy⟩ h3 h4 =>
        hK2 a wv (Handed.intro (gg - 1) (by omega) (hJ2 _ _ _ ⟨y, k + 1, hy, by omega, Lib.hid ⟨h3, h4⟩⟩))
      by_cases hk0 : k = 0
      · subst hk0
        by_cases hm : 0 + 1 < ds.length
        · exact round8zM w wv p tg tn n T cTn x2 j g c ds acc hlt hn2 hacc hl hne hm HV _ KK nxt
        · exact round8zL w wv p tg tn n T cTn x2 j g c ds acc hlt hn2 hacc hl hne (by omega) HV _ KK nxt
      · by_cases hm : k + 1 < ds.length
        · exact round8nM w wv p tg tn n T cTn x2 j g c k ds acc hlt hn2 hacc hl hne hm hk0 HV _ KK nxt
        · exact round8nL w wv p tg tn n T cTn x2 j g c k ds acc hlt hn2 hacc hl hne (by omega) hk0 HV _ KK nxt
    · obtain rfl : k = ds.length := by omega
      exact end8 w wv p tg tn n T cTn x2 j g c ds acc h0 (Lib.hid HV.out.1) _ KK hK
theorem sp_len2 (c : UInt8) : ∀ l : List UInt8, (sp c l).length ≤ l.length + 1
  | [] => by simp [sp]
  | x :: r => by
    have ih := sp_len2 c r
    rw [sp_cons]
    split
    · simp; omega
    · split
      · simp
      · rename_i t l h
        rw [h] at ih
        simp at ih ⊢
        omega
theorem sp_len1 (c : UInt8) : ∀ l : List UInt8, ∀ t ∈ sp c l, t.length ≤ l.length
  | [], t, h => by simp [sp] at h; simp [h]
  | x :: r, t, h => by
    have ih := sp_len1 c r
    rw [sp_cons] at h
    split at h
    · rcases List.mem_cons.1 h with rfl | h
      · simp
      · have := ih t h; simp; omega
    · split at h
      · simp at h; simp [h]
      · rename_i u l e
        rcases List.mem_cons.1 h with rfl | h
        · have := ih u (by rw [e]; simp); simp; omega
        · have := ih t (by rw [e]; simp [h]); simp; omega
set_option maxHeartbeats 4000000 in
set_option maxRecDepth 1000000 in
theorem arm8 (w wr : World) (p tg tn n : Nat) (T : Option Addr) (cTn : Nat) (x : Nat → Value) (j t ub uo cU g3 c3 yb yo cY : Nat) (m : UInt8) (tb : ByteArray) (acc : List UInt8)
    (hjn : j < n) (hn : n ≤ 1000) (htn : t < tn) (hp : p < w.heap.size)
    (d5 : wr.cell? ⟨p, 5, none⟩ = some (.slice (some ⟨ub, uo, none⟩) n cU)) (d7 : wr.cell? ⟨p, 7, none⟩ = some (.slice (some ⟨yb, yo, none⟩) n cY))
    (cU0 : wr.cell? ⟨ub, uo + j, none⟩ = some (.slice (some ⟨g3, 0, none⟩) 1 c3)) (cI : wr.cell? ⟨g3, 0, none⟩ = some (.int .i64 (t : Int)))
    (cQ : wr.cell? ⟨tg, t, none⟩ = some (.string tb)) (cY0 : wr.cell? ⟨yb, yo + j, none⟩ = some (.string ⟨#[m]⟩))
    (hne : ∀ u ∈ sp m tb.data.toList, u ≠ []) (hsz : tb.size ≤ 1000) (hR : TrRel w acc wr) (hacc : acc.length ≤ 90000000)
    (KK : Act → World → Prop) (hK : ∀ a wv, (∃ y, a = ⟨(E33 p tg tn w.heap.size n T cTn y j ).toArray, []⟩) → TrRel w (acc ++ (jn 46 (sp m tb.data.toList))) wv → KK a wv) :
    arm8C.wp Tryd.prog (Ends KK) ⟨(E33 p tg tn w.heap.size n T cTn x j ).toArray, []⟩ wr := by
  have HK := Lib.hid hK
  have HR := Lib.hid hR
  have HN := Lib.hid hne
  have hq9 := And.intro hn hp
  clear hK hR hne hq9
  have hsp := split_any m tb wr (by omega)
  conv => arg 2; whnf
  unfold E33
  go_wp2_with fail
  with_reducible refine hsp.mono ?_
  rintro e v1 ⟨v, rfl, hb, hown⟩
  clear hsp
  obtain ⟨ds, hds⟩ : ∃ ds, sp m tb.data.toList = ds := ⟨_, rfl⟩
  have h0 : 0 < ds.length := by rw [← hds]; exact List.length_pos_iff.2 (sp_ne m _)
  have h1 : ds.length ≤ 2000 := by rw [← hds]; have := sp_len2 m tb.data.toList; rw [K.bsize] at this; omega
  have hl : ∀ i, (ds.getD i []).length ≤ 1000 := by
    intro i
    by_cases hi : i < ds.length
    · have h2 := sp_len1 m tb.data.toList (ds.getD i []) (by rw [hds, List.getD, List.getElem?_eq_getElem hi]; exact List.getElem_mem hi)
      rw [K.bsize] at h2
      omega
    · simp [List.getD, List.getElem?_eq_none (by omega : ds.length ≤ i)]
  have hne : ∀ i, i < ds.length → ds.getD i [] ≠ [] := fun i hi => HN.out _ (by rw [hds, List.getD, List.getElem?_eq_getElem hi]; exact List.getElem_mem hi)
  rw [hds] at hown
  obtain ⟨g, c, rfl, hS⟩ := Strs.of hown h0
  have HH := Lib.hid (And.intro (HR.out.below hb) (And.intro hS (And.intro hl (And.intro hne hds))))
  clear hown hS hl hne hb d5 d7 cU0 cI cQ cY0 hds
  go_upto_region 81 with (fail)
  refine wp_code (c := loop8C) ?_ (loop8 w v1 p tg tn n T cTn j g c ds acc _ (back_H33 ?_) h0 h1 hacc HH.out.2.2.1 HH.out.2.2.2.1 HH.out.1 HH.out.2.1 KK (by rw [← HH.out.2.2.2.2]; exact HK.out))
  · kernel_rfl
  · kernel_rfl
end Go.Proofs.YtocfcajafkkhdaaDoor
