/-
  TransformTokenizedSubject: from the loop's head to a token's arm, and behind it to the next one. Printed by wip/py/gen_tp.py.
-/
import Derived.Test.YtocfcajafkkhdaaDoorZTp
namespace Go.Proofs.YtocfcajafkkhdaaDoor
open Go.RowKit

theorem glue {c : Code} {K1 K2 : Act → World → Prop} {a : Act} {w : World} (he : c = .seq (c1 c) (c2 c)) (h1 : (c1 c).wp Tryd.prog (Ends K1) a w) (h2 : ∀ a w, K1 a w → (c2 c).wp Tryd.prog (Ends K2) a w) : c.wp Tryd.prog (Ends K2) a w := by
  rw [he]
  exact wp_seq (wp_ends h1 fun a w k => h2 a w k)
theorem glueb {c : Code} {K : Act → World → Prop} {a : Act} {w : World} (id : Nat) (he : c = .block id (cb c)) (h : (cb c).wp Tryd.prog (Ends K) a w) : c.wp Tryd.prog (Ends K) a w := by
  rw [he]
  exact wp_block (wp_ends h fun a w k => k)
theorem gluet {c : Code} {K : Act → World → Prop} {a : Act} {w : World} (t : Operand) (he : c = .cond t (ct c) (ce c)) (ht : a.eval t = .bool true) (h : (ct c).wp Tryd.prog (Ends K) a w) : c.wp Tryd.prog (Ends K) a w := by
  rw [he]
  exact wp_cond_true ht h
theorem gluee {c : Code} {K : Act → World → Prop} {a : Act} {w : World} (t : Operand) (he : c = .cond t (ct c) (ce c)) (ht : a.eval t = .bool false) (h : (ce c).wp Tryd.prog (Ends K) a w) : c.wp Tryd.prog (Ends K) a w := by
  rw [he]
  exact wp_cond_false ht h
theorem glues {c : Code} {K : Act → World → Prop} {a : Act} {w : World} (he : c = .skip) (h : K a w) : c.wp Tryd.prog (Ends K) a w := by
  rw [he]
  exact wp_skip h
set_option maxRecDepth 1000000 in
/-- the frame where a token's kind is read -/
def E8 (p tg tn b n : Nat) (T : Option Addr) (cT : Nat) (x : Nat → Value) (j : Nat) (ty : Int) : List Value := [.pointer (some ⟨p, 0, none⟩), .slice (some ⟨tg, 0, none⟩) tn 32, undef, undef, .string ⟨#[]⟩, .pointer (some ⟨b, 0, none⟩), .int .i64 ((n : Int) - 1), .int .i64 j, .int .i16 ty, x 9, x 10, x 11, x 12, x 13, x 14, x 15, x 16, x 17, x 18, x 19, x 20, x 21, x 22, x 23, x 24, x 25, x 26, x 27, x 28, x 29, x 30, x 31, x 32, x 33, x 34, x 35, x 36, x 37, x 38, x 39, .pointer (some ⟨p, 0, none⟩), .pointer (some ⟨p, 0, none⟩), .pointer (some ⟨p, 4, none⟩), .slice T n cT, .int .i64 n, .bool false, undef, undef, undef, undef, .pointer (some ⟨p, 0, none⟩), .pointer (some ⟨p, 0, none⟩), .pointer (some ⟨p, 4, none⟩), .slice T n cT, .int .i64 n, .int .i64 ((n : Int) - 1), .pointer (some ⟨p, 0, none⟩), .pointer (some ⟨p, 0, none⟩), .pointer (some ⟨p, 4, none⟩), .slice T n cT, .int .i64 n, .int .i64 j, x 62, x 63, x 64, x 65, x 66, x 67, x 68, x 69, x 70, x 71, x 72, x 73, x 74, x 75, x 76, x 77, x 78, x 79, x 80, x 81, x 82, x 83, x 84, x 85, x 86, x 87, x 88, x 89, x 90, x 91, x 92, x 93, x 94, x 95, x 96, x 97, x 98, x 99, x 100, x 101, x 102, x 103, x 104, x 105, x 106, x 107, x 108, x 109, x 110, x 111, x 112, x 113, x 114, x 115, x 116, x 117, x 118, x 119, x 120, x 121, x 122, x 123, x 124, x 125, x 126, x 127, x 128, x 129, x 130, x 131, x 132, x 133, x 134, x 135, x 136, x 137, x 138, x 139, x 140, x 141, x 142, x 143, x 144, x 145, x 146, x 147, x 148, x 149, x 150, x 151, x 152, x 153, x 154, x 155, x 156, x 157, x 158, x 159, x 160, x 161, x 162, x 163, x 164, x 165, x 166, x 167, x 168, x 169, x 170, x 171, x 172, x 173, x 174, x 175, x 176, x 177, x 178, x 179, x 180, x 181, x 182, x 183, x 184, x 185, x 186, x 187, x 188, x 189, x 190, x 191, x 192, x 193, x 194, x 195, x 196, x 197, x 198, x 199, x 200, x 201, x 202, x 203, x 204, x 205, x 206, x 207, x 208, x 209, x 210, x 211, x 212, x 213, x 214, x 215, x 216, x 217, x 218, x 219, x 220, x 221, x 222, x 223, x 224, x 225, x 226, x 227, x 228, x 229, x 230, x 231, x 232, x 233, x 234, x 235, x 236, x 237, x 238, x 239, x 240, x 241, x 242, x 243, x 244, x 245, x 246, x 247, x 248, x 249, x 250, x 251, x 252, x 253, x 254, x 255, x 256, x 257, x 258, x 259, x 260, x 261, x 262, x 263, x 264, x 265, x 266, x 267, x 268, x 269, x 270, x 271, x 272, x 273, x 274, x 275, x 276, x 277, x 278, x 279, x 280, x 281, x 282, x 283, x 284, x 285, x 286, x 287, x 288, x 289, x 290, x 291, x 292, x 293, x 294, x 295, x 296, x 297, x 298, x 299, x 300, x 301, x 302, x 303, x 304, x 305, x 306, x 307, x 308, x 309, x 310, x 311, x 312, x 313, x 314, x 315, x 316, x 317, x 318, x 319, x 320, x 321, x 322, x 323, x 324, x 325, x 326, x 327, x 328, x 329, x 330, x 331, x 332, x 333, x 334, x 335, x 336, x 337, x 338, x 339, x 340, x 341, x 342, x 343, x 344, x 345, x 346, x 347, x 348, x 349, x 350, x 351, x 352, x 353, x 354, x 355, x 356, x 357, x 358, x 359, x 360, x 361, x 362, x 363, x 364, x 365, x 366, x 367, x 368, x 369, x 370, x 371, x 372, x 373, x 374, x 375, x 376, x 377, x 378, x 379, x 380, x 381, x 382, x 383, x 384, x 385, x 386, x 387, x 388, x 389, x 390, x 391, x 392, x 393, x 394, x 395, x 396, x 397, x 398, x 399, x 400, x 401, x 402, x 403, x 404, x 405, x 406, x 407, x 408, x 409, x 410, x 411, x 412, x 413, x 414, x 415, x 416, x 417, x 418, x 419, x 420, x 421, x 422, x 423, x 424, x 425, x 426, x 427, x 428, x 429, x 430, x 431, x 432, x 433, x 434, x 435, x 436, x 437, x 438, x 439, x 440, x 441, x 442, x 443, x 444, x 445, x 446, x 447, x 448, x 449, x 450, x 451, x 452, x 453, x 454, x 455, x 456, x 457, x 458, x 459, x 460, x 461, x 462, x 463, x 464, x 465, x 466, x 467, x 468, x 469, x 470, x 471, x 472, x 473, x 474, x 475, x 476, x 477, x 478, x 479, x 480, x 481, x 482, x 483, x 484, x 485, x 486, x 487, x 488, x 489, x 490, x 491, x 492, x 493, x 494, x 495, x 496, x 497, x 498, x 499, x 500, x 501, x 502, x 503, x 504, x 505, x 506, x 507, x 508, x 509, x 510, x 511, x 512, x 513, x 514, x 515, x 516, x 517, x 518, x 519, x 520, x 521, x 522, x 523, x 524, x 525, x 526, x 527, x 528, x 529, x 530, x 531, x 532, x 533, x 534, x 535, x 536, x 537, x 538, x 539, x 540, x 541, x 542, x 543, x 544, x 545, x 546, x 547, x 548, x 549, x 550, x 551, x 552, x 553, x 554, x 555, x 556, x 557, x 558, x 559, x 560, x 561, x 562, x 563, x 564, x 565, x 566, x 567, x 568, x 569, x 570, x 571, x 572, x 573, x 574, x 575, x 576, x 577, x 578, x 579, x 580, x 581, x 582, x 583, x 584, x 585, x 586, x 587, x 588, x 589, x 590, x 591, x 592, x 593]
theorem back_E8 {p tg tn b n : Nat} {T : Option Addr} {cT j : Nat} {ty : Int} {l : List Value} (h : E8 p tg tn b n T cT (fun i => l.getD i undef) j ty = l) : ∃ x, (⟨l.toArray, []⟩ : Act) = ⟨(E8 p tg tn b n T cT x j ty).toArray, []⟩ := ⟨_, by rw [h]⟩
set_option maxRecDepth 1000000 in
/-- the frame at the switch -/
def T33 (p tg tn b n : Nat) (T : Option Addr) (cT : Nat) (x : Nat → Value) (j : Nat) (ty : Int) : List Value := [.pointer (some ⟨p, 0, none⟩), .slice (some ⟨tg, 0, none⟩) tn 32, undef, undef, .string ⟨#[]⟩, .pointer (some ⟨b, 0, none⟩), .int .i64 ((n : Int) - 1), .int .i64 j, x 8, x 9, x 10, x 11, x 12, x 13, x 14, x 15, x 16, x 17, x 18, x 19, x 20, x 21, x 22, x 23, x 24, x 25, x 26, x 27, x 28, x 29, x 30, x 31, x 32, x 33, x 34, x 35, x 36, x 37, x 38, x 39, .pointer (some ⟨p, 0, none⟩), .pointer (some ⟨p, 0, none⟩), .pointer (some ⟨p, 4, none⟩), .slice T n cT, .int .i64 n, .bool false, undef, undef, undef, undef, .pointer (some ⟨p, 0, none⟩), .pointer (some ⟨p, 0, none⟩), .pointer (some ⟨p, 4, none⟩), .slice T n cT, .int .i64 n, .int .i64 ((n : Int) - 1), .pointer (some ⟨p, 0, none⟩), .pointer (some ⟨p, 0, none⟩), .pointer (some ⟨p, 4, none⟩), .slice T n cT, .int .i64 n, .int .i64 j, x 62, x 63, x 64, x 65, x 66, x 67, x 68, x 69, x 70, x 71, x 72, x 73, x 74, x 75, x 76, x 77, x 78, x 79, x 80, x 81, x 82, x 83, x 84, x 85, x 86, x 87, x 88, x 89, x 90, x 91, x 92, x 93, x 94, x 95, .int .i16 ty, x 97, x 98, x 99, x 100, x 101, x 102, x 103, x 104, x 105, x 106, x 107, x 108, x 109, x 110, x 111, x 112, x 113, x 114, x 115, x 116, x 117, x 118, x 119, x 120, x 121, x 122, x 123, x 124, x 125, x 126, x 127, x 128, x 129, x 130, x 131, x 132, x 133, x 134, x 135, x 136, x 137, x 138, x 139, x 140, x 141, x 142, x 143, x 144, x 145, x 146, x 147, x 148, x 149, x 150, x 151, x 152, x 153, x 154, x 155, x 156, x 157, x 158, x 159, x 160, x 161, x 162, x 163, x 164, x 165, x 166, x 167, x 168, x 169, x 170, x 171, x 172, x 173, x 174, x 175, x 176, x 177, x 178, x 179, x 180, x 181, x 182, x 183, x 184, x 185, x 186, x 187, x 188, x 189, x 190, x 191, x 192, x 193, x 194, x 195, x 196, x 197, x 198, x 199, x 200, x 201, x 202, x 203, x 204, x 205, x 206, x 207, x 208, x 209, x 210, x 211, x 212, x 213, x 214, x 215, x 216, x 217, x 218, x 219, x 220, x 221, x 222, x 223, x 224, x 225, x 226, x 227, x 228, x 229, x 230, x 231, x 232, x 233, x 234, x 235, x 236, x 237, x 238, x 239, x 240, x 241, x 242, x 243, x 244, x 245, x 246, x 247, x 248, x 249, x 250, x 251, x 252, x 253, x 254, x 255, x 256, x 257, x 258, x 259, x 260, x 261, x 262, x 263, x 264, x 265, x 266, x 267, x 268, x 269, x 270, x 271, x 272, x 273, x 274, x 275, x 276, x 277, x 278, x 279, x 280, x 281, x 282, x 283, x 284, x 285, x 286, x 287, x 288, x 289, x 290, x 291, x 292, x 293, x 294, x 295, x 296, x 297, x 298, x 299, x 300, x 301, x 302, x 303, x 304, x 305, x 306, x 307, x 308, x 309, x 310, x 311, x 312, x 313, x 314, x 315, x 316, x 317, x 318, x 319, x 320, x 321, x 322, x 323, x 324, x 325, x 326, x 327, x 328, x 329, x 330, x 331, x 332, x 333, x 334, x 335, x 336, x 337, x 338, x 339, x 340, x 341, x 342, x 343, x 344, x 345, x 346, x 347, x 348, x 349, x 350, x 351, x 352, x 353, x 354, x 355, x 356, x 357, x 358, x 359, x 360, x 361, x 362, x 363, x 364, x 365, x 366, x 367, x 368, x 369, x 370, x 371, x 372, x 373, x 374, x 375, x 376, x 377, x 378, x 379, x 380, x 381, x 382, x 383, x 384, x 385, x 386, x 387, x 388, x 389, x 390, x 391, x 392, x 393, x 394, x 395, x 396, x 397, x 398, x 399, x 400, x 401, x 402, x 403, x 404, x 405, x 406, x 407, x 408, x 409, x 410, x 411, x 412, x 413, x 414, x 415, x 416, x 417, x 418, x 419, x 420, x 421, x 422, x 423, x 424, x 425, x 426, x 427, x 428, x 429, x 430, x 431, x 432, x 433, x 434, x 435, x 436, x 437, x 438, x 439, x 440, x 441, x 442, x 443, x 444, x 445, x 446, x 447, x 448, x 449, x 450, x 451, x 452, x 453, x 454, x 455, x 456, x 457, x 458, x 459, x 460, x 461, x 462, x 463, x 464, x 465, x 466, x 467, x 468, x 469, x 470, x 471, x 472, x 473, x 474, x 475, x 476, x 477, x 478, x 479, x 480, x 481, x 482, x 483, x 484, x 485, x 486, x 487, x 488, x 489, x 490, x 491, x 492, x 493, x 494, x 495, x 496, x 497, x 498, x 499, x 500, x 501, x 502, x 503, x 504, x 505, x 506, x 507, x 508, x 509, x 510, x 511, x 512, x 513, x 514, x 515, x 516, x 517, x 518, x 519, x 520, x 521, x 522, x 523, x 524, x 525, x 526, x 527, x 528, x 529, x 530, x 531, x 532, x 533, x 534, x 535, x 536, x 537, x 538, x 539, x 540, x 541, x 542, x 543, x 544, x 545, x 546, x 547, x 548, x 549, x 550, x 551, x 552, x 553, x 554, x 555, x 556, x 557, x 558, x 559, x 560, x 561, x 562, x 563, x 564, x 565, x 566, x 567, x 568, x 569, x 570, x 571, x 572, x 573, x 574, x 575, x 576, x 577, x 578, x 579, x 580, x 581, x 582, x 583, x 584, x 585, x 586, x 587, x 588, x 589, x 590, x 591, x 592, x 593]
theorem back_T33 {p tg tn b n : Nat} {T : Option Addr} {cT j : Nat} {ty : Int} {l : List Value} (h : T33 p tg tn b n T cT (fun i => l.getD i undef) j ty = l) : ∃ x, (⟨l.toArray, []⟩ : Act) = ⟨(T33 p tg tn b n T cT x j ty).toArray, []⟩ := ⟨_, by rw [h]⟩
set_option maxRecDepth 1000000 in
theorem hd6 (w wr : World) (p tg tn n : Nat) (T : Option Addr) (cT : Nat) (x : Nat → Value) (j : Nat) (K : Act → World → Prop) (hjn : j < n) (hK : ∀ a, a.eval (.tmp 62) = .bool true → (∃ y, a = ⟨(F33 p tg tn w.heap.size n T cT y (j) ).toArray, []⟩) → K a wr) :
    (c1 bodyL).wp Tryd.prog (Ends K) ⟨(F33 p tg tn w.heap.size n T cT x j ).toArray, []⟩ wr := by
  have HK := Lib.hid hK
  clear hK
  have hj2 : (j : Int) < (n : Int) := by omega
  conv => arg 2; whnf
  unfold F33
  go_wp2_with fail
  refine HK.out _ ?_ (back33 ?_)
  · kernel_rfl
  · kernel_rfl
set_option maxRecDepth 1000000 in
theorem hd7 (w wr : World) (p tg tn n : Nat) (T : Option Addr) (cT : Nat) (x : Nat → Value) (j : Nat) (K : Act → World → Prop) (ty : Int) (tb to : Nat) (hjn : j < n) (hT : T = some ⟨tb, to, none⟩) (cTy : wr.cell? ⟨tb, to + j, none⟩ = some (.int .i16 ty)) (hK : ∀ a, (∃ y, a = ⟨(E8 p tg tn w.heap.size n T cT y (j) ty).toArray, []⟩) → K a wr) :
    (c1 (cb (c1 (c2 (c2 (bodyL)))))).wp Tryd.prog (Ends K) ⟨(F33 p tg tn w.heap.size n T cT x j ).toArray, []⟩ wr := by
  have HK := Lib.hid hK
  clear hK
  subst hT
  conv => arg 2; whnf
  unfold F33
  go_wp2_with fail
  refine HK.out _ (back_E8 ?_)
  kernel_rfl
set_option maxRecDepth 1000000 in
theorem hd8 (w wr : World) (p tg tn n : Nat) (T : Option Addr) (cT : Nat) (x : Nat → Value) (j : Nat) (K : Act → World → Prop) (ty : Int) (hK : ∀ a, a.eval (.tmp 67) = .bool (ty == 0) → (∃ y, a = ⟨(E8 p tg tn w.heap.size n T cT y (j) ty).toArray, []⟩) → K a wr) :
    (c1 (c1 (c2 (cb (c1 (c2 (c2 (bodyL)))))))).wp Tryd.prog (Ends K) ⟨(E8 p tg tn w.heap.size n T cT x j ty).toArray, []⟩ wr := by
  have HK := Lib.hid hK
  clear hK
  conv => arg 2; whnf
  unfold E8
  go_wp2_with fail
  refine HK.out _ ?_ (back_E8 ?_)
  · kernel_rfl
  · kernel_rfl
set_option maxRecDepth 1000000 in
theorem hd11 (w wr : World) (p tg tn n : Nat) (T : Option Addr) (cT : Nat) (x : Nat → Value) (j : Nat) (K : Act → World → Prop) (ty : Int) (hK : ∀ a, (∃ y, a = ⟨(T33 p tg tn w.heap.size n T cT y (j) ty).toArray, []⟩) → K a wr) :
    (c1 (ce (c2 (c1 (c2 (cb (c1 (c2 (c2 (bodyL)))))))))).wp Tryd.prog (Ends K) ⟨(E8 p tg tn w.heap.size n T cT x j ty).toArray, []⟩ wr := by
  have HK := Lib.hid hK
  clear hK
  conv => arg 2; whnf
  unfold E8
  go_wp2_with fail
  refine HK.out _ (back_T33 ?_)
  kernel_rfl
set_option maxRecDepth 1000000 in
theorem hd104 (w wr : World) (p tg tn n : Nat) (T : Option Addr) (cT : Nat) (x : Nat → Value) (j : Nat) (K : Act → World → Prop)  (hjn : j < n) (hn : n ≤ 1000) (hK : ∀ a, (∃ y, a = ⟨(F33 p tg tn w.heap.size n T cT y (j + 1) ).toArray, []⟩) → K a wr) :
    (c2 (c2 (c2 (bodyL)))).wp Tryd.prog (Ends K) ⟨(E33 p tg tn w.heap.size n T cT x j ).toArray, []⟩ wr := by
  have HK := Lib.hid hK
  clear hK
  conv => arg 2; whnf
  unfold E33
  go_wp2_with fail
  refine HK.out _ (back33 (j := j + 1) ?_)
  kernel_rfl
set_option maxRecDepth 1000000 in
theorem test2 (w wr : World) (p tg tn n : Nat) (T : Option Addr) (cT : Nat) (x : Nat → Value) (j : Nat) (K : Act → World → Prop) (ty : Int) (hK : ∀ a, a.eval (.tmp 97) = .bool (ty == 2) → (∃ y, a = ⟨(T33 p tg tn w.heap.size n T cT y (j) ty).toArray, []⟩) → K a wr) :
    (c1 (swC)).wp Tryd.prog (Ends K) ⟨(T33 p tg tn w.heap.size n T cT x j ty).toArray, []⟩ wr := by
  have HK := Lib.hid hK
  clear hK
  conv => arg 2; whnf
  unfold T33
  go_wp2_with fail
  refine HK.out _ ?_ (back_T33 ?_)
  · kernel_rfl
  · kernel_rfl
set_option maxRecDepth 1000000 in
theorem test3 (w wr : World) (p tg tn n : Nat) (T : Option Addr) (cT : Nat) (x : Nat → Value) (j : Nat) (K : Act → World → Prop) (ty : Int) (hK : ∀ a, a.eval (.tmp 145) = .bool (ty == 3) → (∃ y, a = ⟨(T33 p tg tn w.heap.size n T cT y (j) ty).toArray, []⟩) → K a wr) :
    (c1 (ce (c2 (swC)))).wp Tryd.prog (Ends K) ⟨(T33 p tg tn w.heap.size n T cT x j ty).toArray, []⟩ wr := by
  have HK := Lib.hid hK
  clear hK
  conv => arg 2; whnf
  unfold T33
  go_wp2_with fail
  refine HK.out _ ?_ (back_T33 ?_)
  · kernel_rfl
  · kernel_rfl
set_option maxRecDepth 1000000 in
theorem test4 (w wr : World) (p tg tn n : Nat) (T : Option Addr) (cT : Nat) (x : Nat → Value) (j : Nat) (K : Act → World → Prop) (ty : Int) (hK : ∀ a, a.eval (.tmp 191) = .bool (ty == 4) → (∃ y, a = ⟨(T33 p tg tn w.heap.size n T cT y (j) ty).toArray, []⟩) → K a wr) :
    (c1 (ce (c2 (ce (c2 (swC)))))).wp Tryd.prog (Ends K) ⟨(T33 p tg tn w.heap.size n T cT x j ty).toArray, []⟩ wr := by
  have HK := Lib.hid hK
  clear hK
  conv => arg 2; whnf
  unfold T33
  go_wp2_with fail
  refine HK.out _ ?_ (back_T33 ?_)
  · kernel_rfl
  · kernel_rfl
set_option maxRecDepth 1000000 in
theorem test5 (w wr : World) (p tg tn n : Nat) (T : Option Addr) (cT : Nat) (x : Nat → Value) (j : Nat) (K : Act → World → Prop) (ty : Int) (hK : ∀ a, a.eval (.tmp 233) = .bool (ty == 5) → (∃ y, a = ⟨(T33 p tg tn w.heap.size n T cT y (j) ty).toArray, []⟩) → K a wr) :
    (c1 (ce (c2 (ce (c2 (ce (c2 (swC)))))))).wp Tryd.prog (Ends K) ⟨(T33 p tg tn w.heap.size n T cT x j ty).toArray, []⟩ wr := by
  have HK := Lib.hid hK
  clear hK
  conv => arg 2; whnf
  unfold T33
  go_wp2_with fail
  refine HK.out _ ?_ (back_T33 ?_)
  · kernel_rfl
  · kernel_rfl
set_option maxRecDepth 1000000 in
theorem test6 (w wr : World) (p tg tn n : Nat) (T : Option Addr) (cT : Nat) (x : Nat → Value) (j : Nat) (K : Act → World → Prop) (ty : Int) (hK : ∀ a, a.eval (.tmp 279) = .bool (ty == 6) → (∃ y, a = ⟨(T33 p tg tn w.heap.size n T cT y (j) ty).toArray, []⟩) → K a wr) :
    (c1 (ce (c2 (ce (c2 (ce (c2 (ce (c2 (swC)))))))))).wp Tryd.prog (Ends K) ⟨(T33 p tg tn w.heap.size n T cT x j ty).toArray, []⟩ wr := by
  have HK := Lib.hid hK
  clear hK
  conv => arg 2; whnf
  unfold T33
  go_wp2_with fail
  refine HK.out _ ?_ (back_T33 ?_)
  · kernel_rfl
  · kernel_rfl
set_option maxRecDepth 1000000 in
theorem test7 (w wr : World) (p tg tn n : Nat) (T : Option Addr) (cT : Nat) (x : Nat → Value) (j : Nat) (K : Act → World → Prop) (ty : Int) (hK : ∀ a, a.eval (.tmp 351) = .bool (ty == 7) → (∃ y, a = ⟨(T33 p tg tn w.heap.size n T cT y (j) ty).toArray, []⟩) → K a wr) :
    (c1 (ce (c2 (ce (c2 (ce (c2 (ce (c2 (ce (c2 (swC)))))))))))).wp Tryd.prog (Ends K) ⟨(T33 p tg tn w.heap.size n T cT x j ty).toArray, []⟩ wr := by
  have HK := Lib.hid hK
  clear hK
  conv => arg 2; whnf
  unfold T33
  go_wp2_with fail
  refine HK.out _ ?_ (back_T33 ?_)
  · kernel_rfl
  · kernel_rfl
set_option maxRecDepth 1000000 in
theorem test8 (w wr : World) (p tg tn n : Nat) (T : Option Addr) (cT : Nat) (x : Nat → Value) (j : Nat) (K : Act → World → Prop) (ty : Int) (hK : ∀ a, a.eval (.tmp 416) = .bool (ty == 8) → (∃ y, a = ⟨(T33 p tg tn w.heap.size n T cT y (j) ty).toArray, []⟩) → K a wr) :
    (c1 (ce (c2 (ce (c2 (ce (c2 (ce (c2 (ce (c2 (ce (c2 (swC)))))))))))))).wp Tryd.prog (Ends K) ⟨(T33 p tg tn w.heap.size n T cT x j ty).toArray, []⟩ wr := by
  have HK := Lib.hid hK
  clear hK
  conv => arg 2; whnf
  unfold T33
  go_wp2_with fail
  refine HK.out _ ?_ (back_T33 ?_)
  · kernel_rfl
  · kernel_rfl
set_option maxRecDepth 1000000 in
theorem test9 (w wr : World) (p tg tn n : Nat) (T : Option Addr) (cT : Nat) (x : Nat → Value) (j : Nat) (K : Act → World → Prop) (ty : Int) (hK : ∀ a, a.eval (.tmp 474) = .bool (ty == 9) → (∃ y, a = ⟨(T33 p tg tn w.heap.size n T cT y (j) ty).toArray, []⟩) → K a wr) :
    (c1 (ce (c2 (ce (c2 (ce (c2 (ce (c2 (ce (c2 (ce (c2 (ce (c2 (swC)))))))))))))))).wp Tryd.prog (Ends K) ⟨(T33 p tg tn w.heap.size n T cT x j ty).toArray, []⟩ wr := by
  have HK := Lib.hid hK
  clear hK
  conv => arg 2; whnf
  unfold T33
  go_wp2_with fail
  refine HK.out _ ?_ (back_T33 ?_)
  · kernel_rfl
  · kernel_rfl
set_option maxRecDepth 1000000 in
theorem test10 (w wr : World) (p tg tn n : Nat) (T : Option Addr) (cT : Nat) (x : Nat → Value) (j : Nat) (K : Act → World → Prop) (ty : Int) (hK : ∀ a, a.eval (.tmp 511) = .bool (ty == 10) → (∃ y, a = ⟨(T33 p tg tn w.heap.size n T cT y (j) ty).toArray, []⟩) → K a wr) :
    (c1 (ce (c2 (ce (c2 (ce (c2 (ce (c2 (ce (c2 (ce (c2 (ce (c2 (ce (c2 (swC)))))))))))))))))).wp Tryd.prog (Ends K) ⟨(T33 p tg tn w.heap.size n T cT x j ty).toArray, []⟩ wr := by
  have HK := Lib.hid hK
  clear hK
  conv => arg 2; whnf
  unfold T33
  go_wp2_with fail
  refine HK.out _ ?_ (back_T33 ?_)
  · kernel_rfl
  · kernel_rfl
theorem seq_sw2 : swC = .seq (c1 (swC)) (c2 (swC)) := by kernel_rfl
theorem cond_sw2 : c2 (swC) = .cond (.tmp 97) (ct (c2 (swC))) (ce (c2 (swC))) := by kernel_rfl
theorem seq_sw3 : ce (c2 (swC)) = .seq (c1 (ce (c2 (swC)))) (c2 (ce (c2 (swC)))) := by kernel_rfl
theorem cond_sw3 : c2 (ce (c2 (swC))) = .cond (.tmp 145) (ct (c2 (ce (c2 (swC))))) (ce (c2 (ce (c2 (swC))))) := by kernel_rfl
theorem seq_sw4 : ce (c2 (ce (c2 (swC)))) = .seq (c1 (ce (c2 (ce (c2 (swC)))))) (c2 (ce (c2 (ce (c2 (swC)))))) := by kernel_rfl
theorem cond_sw4 : c2 (ce (c2 (ce (c2 (swC))))) = .cond (.tmp 191) (ct (c2 (ce (c2 (ce (c2 (swC))))))) (ce (c2 (ce (c2 (ce (c2 (swC))))))) := by kernel_rfl
theorem seq_sw5 : ce (c2 (ce (c2 (ce (c2 (swC)))))) = .seq (c1 (ce (c2 (ce (c2 (ce (c2 (swC)))))))) (c2 (ce (c2 (ce (c2 (ce (c2 (swC)))))))) := by kernel_rfl
theorem cond_sw5 : c2 (ce (c2 (ce (c2 (ce (c2 (swC))))))) = .cond (.tmp 233) (ct (c2 (ce (c2 (ce (c2 (ce (c2 (swC))))))))) (ce (c2 (ce (c2 (ce (c2 (ce (c2 (swC))))))))) := by kernel_rfl
theorem seq_sw6 : ce (c2 (ce (c2 (ce (c2 (ce (c2 (swC)))))))) = .seq (c1 (ce (c2 (ce (c2 (ce (c2 (ce (c2 (swC)))))))))) (c2 (ce (c2 (ce (c2 (ce (c2 (ce (c2 (swC)))))))))) := by kernel_rfl
theorem cond_sw6 : c2 (ce (c2 (ce (c2 (ce (c2 (ce (c2 (swC))))))))) = .cond (.tmp 279) (ct (c2 (ce (c2 (ce (c2 (ce (c2 (ce (c2 (swC))))))))))) (ce (c2 (ce (c2 (ce (c2 (ce (c2 (ce (c2 (swC))))))))))) := by kernel_rfl
theorem seq_sw7 : ce (c2 (ce (c2 (ce (c2 (ce (c2 (ce (c2 (swC)))))))))) = .seq (c1 (ce (c2 (ce (c2 (ce (c2 (ce (c2 (ce (c2 (swC)))))))))))) (c2 (ce (c2 (ce (c2 (ce (c2 (ce (c2 (ce (c2 (swC)))))))))))) := by kernel_rfl
theorem cond_sw7 : c2 (ce (c2 (ce (c2 (ce (c2 (ce (c2 (ce (c2 (swC))))))))))) = .cond (.tmp 351) (ct (c2 (ce (c2 (ce (c2 (ce (c2 (ce (c2 (ce (c2 (swC))))))))))))) (ce (c2 (ce (c2 (ce (c2 (ce (c2 (ce (c2 (ce (c2 (swC))))))))))))) := by kernel_rfl
theorem seq_sw8 : ce (c2 (ce (c2 (ce (c2 (ce (c2 (ce (c2 (ce (c2 (swC)))))))))))) = .seq (c1 (ce (c2 (ce (c2 (ce (c2 (ce (c2 (ce (c2 (ce (c2 (swC)))))))))))))) (c2 (ce (c2 (ce (c2 (ce (c2 (ce (c2 (ce (c2 (ce (c2 (swC)))))))))))))) := by kernel_rfl
theorem cond_sw8 : c2 (ce (c2 (ce (c2 (ce (c2 (ce (c2 (ce (c2 (ce (c2 (swC))))))))))))) = .cond (.tmp 416) (ct (c2 (ce (c2 (ce (c2 (ce (c2 (ce (c2 (ce (c2 (ce (c2 (swC))))))))))))))) (ce (c2 (ce (c2 (ce (c2 (ce (c2 (ce (c2 (ce (c2 (ce (c2 (swC))))))))))))))) := by kernel_rfl
theorem seq_sw9 : ce (c2 (ce (c2 (ce (c2 (ce (c2 (ce (c2 (ce (c2 (ce (c2 (swC)))))))))))))) = .seq (c1 (ce (c2 (ce (c2 (ce (c2 (ce (c2 (ce (c2 (ce (c2 (ce (c2 (swC)))))))))))))))) (c2 (ce (c2 (ce (c2 (ce (c2 (ce (c2 (ce (c2 (ce (c2 (ce (c2 (swC)))))))))))))))) := by kernel_rfl
theorem cond_sw9 : c2 (ce (c2 (ce (c2 (ce (c2 (ce (c2 (ce (c2 (ce (c2 (ce (c2 (swC))))))))))))))) = .cond (.tmp 474) (ct (c2 (ce (c2 (ce (c2 (ce (c2 (ce (c2 (ce (c2 (ce (c2 (ce (c2 (swC))))))))))))))))) (ce (c2 (ce (c2 (ce (c2 (ce (c2 (ce (c2 (ce (c2 (ce (c2 (ce (c2 (swC))))))))))))))))) := by kernel_rfl
theorem seq_sw10 : ce (c2 (ce (c2 (ce (c2 (ce (c2 (ce (c2 (ce (c2 (ce (c2 (ce (c2 (swC)))))))))))))))) = .seq (c1 (ce (c2 (ce (c2 (ce (c2 (ce (c2 (ce (c2 (ce (c2 (ce (c2 (ce (c2 (swC)))))))))))))))))) (c2 (ce (c2 (ce (c2 (ce (c2 (ce (c2 (ce (c2 (ce (c2 (ce (c2 (ce (c2 (swC)))))))))))))))))) := by kernel_rfl
theorem cond_sw10 : c2 (ce (c2 (ce (c2 (ce (c2 (ce (c2 (ce (c2 (ce (c2 (ce (c2 (ce (c2 (swC))))))))))))))))) = .cond (.tmp 511) (ct (c2 (ce (c2 (ce (c2 (ce (c2 (ce (c2 (ce (c2 (ce (c2 (ce (c2 (ce (c2 (swC))))))))))))))))))) (ce (c2 (ce (c2 (ce (c2 (ce (c2 (ce (c2 (ce (c2 (ce (c2 (ce (c2 (ce (c2 (swC))))))))))))))))))) := by kernel_rfl
set_option maxRecDepth 1000000 in
theorem to_arm2 (w wr : World) (p tg tn n : Nat) (T : Option Addr) (cT : Nat) (x : Nat → Value) (j : Nat) (K : Act → World → Prop) (h : ∀ a, (∃ y, a = ⟨(E33 p tg tn w.heap.size n T cT y (j) ).toArray, []⟩) → arm2C.wp Tryd.prog (Ends K) a wr) :
    swC.wp Tryd.prog (Ends K) ⟨(T33 p tg tn w.heap.size n T cT x j 2).toArray, []⟩ wr := by
  refine glue (c := swC) seq_sw2 (test2 w wr p tg tn n T cT x j (fun a v => a.eval (.tmp 97) = .bool ((2 : Int) == 2) ∧ (∃ y, a = ⟨(T33 p tg tn w.heap.size n T cT y (j) 2).toArray, []⟩) ∧ wr = v) 2 fun a h1 h2 => ⟨h1, h2, rfl⟩) ?_
  rintro _ _ ⟨he0, ⟨x0, rfl⟩, rfl⟩
  refine gluet (.tmp 97) cond_sw2 he0 ?_
  exact h _ (back_E33 (by kernel_rfl))
set_option maxRecDepth 1000000 in
theorem to_arm3 (w wr : World) (p tg tn n : Nat) (T : Option Addr) (cT : Nat) (x : Nat → Value) (j : Nat) (K : Act → World → Prop) (h : ∀ a, (∃ y, a = ⟨(E33 p tg tn w.heap.size n T cT y (j) ).toArray, []⟩) → arm3C.wp Tryd.prog (Ends K) a wr) :
    swC.wp Tryd.prog (Ends K) ⟨(T33 p tg tn w.heap.size n T cT x j 3).toArray, []⟩ wr := by
  refine glue (c := swC) seq_sw2 (test2 w wr p tg tn n T cT x j (fun a v => a.eval (.tmp 97) = .bool ((3 : Int) == 2) ∧ (∃ y, a = ⟨(T33 p tg tn w.heap.size n T cT y (j) 3).toArray, []⟩) ∧ wr = v) 3 fun a h1 h2 => ⟨h1, h2, rfl⟩) ?_
  rintro _ _ ⟨he0, ⟨x0, rfl⟩, rfl⟩
  refine gluee (.tmp 97) cond_sw2 he0 ?_
  refine glue (c := ce (c2 (swC))) seq_sw3 (test3 w wr p tg tn n T cT x0 j (fun a v => a.eval (.tmp 145) = .bool ((3 : Int) == 3) ∧ (∃ y, a = ⟨(T33 p tg tn w.heap.size n T cT y (j) 3).toArray, []⟩) ∧ wr = v) 3 fun a h1 h2 => ⟨h1, h2, rfl⟩) ?_
  rintro _ _ ⟨he1, ⟨x1, rfl⟩, rfl⟩
  refine gluet (.tmp 145) cond_sw3 he1 ?_
  exact h _ (back_E33 (by kernel_rfl))
set_option maxRecDepth 1000000 in
theorem to_arm4 (w wr : World) (p tg tn n : Nat) (T : Option Addr) (cT : Nat) (x : Nat → Value) (j : Nat) (K : Act → World → Prop) (h : ∀ a, (∃ y, a = ⟨(E33 p tg tn w.heap.size n T cT y (j) ).toArray, []⟩) → arm4C.wp Tryd.prog (Ends K) a wr) :
    swC.wp Tryd.prog (Ends K) ⟨(T33 p tg tn w.heap.size n T cT x j 4).toArray, []⟩ wr := by
  refine glue (c := swC) seq_sw2 (test2 w wr p tg tn n T cT x j (fun a v => a.eval (.tmp 97) = .bool ((4 : Int) == 2) ∧ (∃ y, a = ⟨(T33 p tg tn w.heap.size n T cT y (j) 4).toArray, []⟩) ∧ wr = v) 4 fun a h1 h2 => ⟨h1, h2, rfl⟩) ?_
  rintro _ _ ⟨he0, ⟨x0, rfl⟩, rfl⟩
  refine gluee (.tmp 97) cond_sw2 he0 ?_
  refine glue (c := ce (c2 (swC))) seq_sw3 (test3 w wr p tg tn n T cT x0 j (fun a v => a.eval (.tmp 145) = .bool ((4 : Int) == 3) ∧ (∃ y, a = ⟨(T33 p tg tn w.heap.size n T cT y (j) 4).toArray, []⟩) ∧ wr = v) 4 fun a h1 h2 => ⟨h1, h2, rfl⟩) ?_
  rintro _ _ ⟨he1, ⟨x1, rfl⟩, rfl⟩
  refine gluee (.tmp 145) cond_sw3 he1 ?_
  refine glue (c := ce (c2 (ce (c2 (swC))))) seq_sw4 (test4 w wr p tg tn n T cT x1 j (fun a v => a.eval (.tmp 191) = .bool ((4 : Int) == 4) ∧ (∃ y, a = ⟨(T33 p tg tn w.heap.size n T cT y (j) 4).toArray, []⟩) ∧ wr = v) 4 fun a h1 h2 => ⟨h1, h2, rfl⟩) ?_
  rintro _ _ ⟨he2, ⟨x2, rfl⟩, rfl⟩
  refine gluet (.tmp 191) cond_sw4 he2 ?_
  exact h _ (back_E33 (by kernel_rfl))
set_option maxRecDepth 1000000 in
theorem to_arm5 (w wr : World) (p tg tn n : Nat) (T : Option Addr) (cT : Nat) (x : Nat → Value) (j : Nat) (K : Act → World → Prop) (h : ∀ a, (∃ y, a = ⟨(E33 p tg tn w.heap.size n T cT y (j) ).toArray, []⟩) → arm5C.wp Tryd.prog (Ends K) a wr) :
    swC.wp Tryd.prog (Ends K) ⟨(T33 p tg tn w.heap.size n T cT x j 5).toArray, []⟩ wr := by
  refine glue (c := swC) seq_sw2 (test2 w wr p tg tn n T cT x j (fun a v => a.eval (.tmp 97) = .bool ((5 : Int) == 2) ∧ (∃ y, a = ⟨(T33 p tg tn w.heap.size n T cT y (j) 5).toArray, []⟩) ∧ wr = v) 5 fun a h1 h2 => ⟨h1, h2, rfl⟩) ?_
  rintro _ _ ⟨he0, ⟨x0, rfl⟩, rfl⟩
  refine gluee (.tmp 97) cond_sw2 he0 ?_
  refine glue (c := ce (c2 (swC))) seq_sw3 (test3 w wr p tg tn n T cT x0 j (fun a v => a.eval (.tmp 145) = .bool ((5 : Int) == 3) ∧ (∃ y, a = ⟨(T33 p tg tn w.heap.size n T cT y (j) 5).toArray, []⟩) ∧ wr = v) 5 fun a h1 h2 => ⟨h1, h2, rfl⟩) ?_
  rintro _ _ ⟨he1, ⟨x1, rfl⟩, rfl⟩
  refine gluee (.tmp 145) cond_sw3 he1 ?_
  refine glue (c := ce (c2 (ce (c2 (swC))))) seq_sw4 (test4 w wr p tg tn n T cT x1 j (fun a v => a.eval (.tmp 191) = .bool ((5 : Int) == 4) ∧ (∃ y, a = ⟨(T33 p tg tn w.heap.size n T cT y (j) 5).toArray, []⟩) ∧ wr = v) 5 fun a h1 h2 => ⟨h1, h2, rfl⟩) ?_
  rintro _ _ ⟨he2, ⟨x2, rfl⟩, rfl⟩
  refine gluee (.tmp 191) cond_sw4 he2 ?_
  refine glue (c := ce (c2 (ce (c2 (ce (c2 (swC))))))) seq_sw5 (test5 w wr p tg tn n T cT x2 j (fun a v => a.eval (.tmp 233) = .bool ((5 : Int) == 5) ∧ (∃ y, a = ⟨(T33 p tg tn w.heap.size n T cT y (j) 5).toArray, []⟩) ∧ wr = v) 5 fun a h1 h2 => ⟨h1, h2, rfl⟩) ?_
  rintro _ _ ⟨he3, ⟨x3, rfl⟩, rfl⟩
  refine gluet (.tmp 233) cond_sw5 he3 ?_
  exact h _ (back_E33 (by kernel_rfl))
set_option maxRecDepth 1000000 in
theorem to_arm6 (w wr : World) (p tg tn n : Nat) (T : Option Addr) (cT : Nat) (x : Nat → Value) (j : Nat) (K : Act → World → Prop) (h : ∀ a, (∃ y, a = ⟨(E33 p tg tn w.heap.size n T cT y (j) ).toArray, []⟩) → arm6C.wp Tryd.prog (Ends K) a wr) :
    swC.wp Tryd.prog (Ends K) ⟨(T33 p tg tn w.heap.size n T cT x j 6).toArray, []⟩ wr := by
  refine glue (c := swC) seq_sw2 (test2 w wr p tg tn n T cT x j (fun a v => a.eval (.tmp 97) = .bool ((6 : Int) == 2) ∧ (∃ y, a = ⟨(T33 p tg tn w.heap.size n T cT y (j) 6).toArray, []⟩) ∧ wr = v) 6 fun a h1 h2 => ⟨h1, h2, rfl⟩) ?_
  rintro _ _ ⟨he0, ⟨x0, rfl⟩, rfl⟩
  refine gluee (.tmp 97) cond_sw2 he0 ?_
  refine glue (c := ce (c2 (swC))) seq_sw3 (test3 w wr p tg tn n T cT x0 j (fun a v => a.eval (.tmp 145) = .bool ((6 : Int) == 3) ∧ (∃ y, a = ⟨(T33 p tg tn w.heap.size n T cT y (j) 6).toArray, []⟩) ∧ wr = v) 6 fun a h1 h2 => ⟨h1, h2, rfl⟩) ?_
  rintro _ _ ⟨he1, ⟨x1, rfl⟩, rfl⟩
  refine gluee (.tmp 145) cond_sw3 he1 ?_
  refine glue (c := ce (c2 (ce (c2 (swC))))) seq_sw4 (test4 w wr p tg tn n T cT x1 j (fun a v => a.eval (.tmp 191) = .bool ((6 : Int) == 4) ∧ (∃ y, a = ⟨(T33 p tg tn w.heap.size n T cT y (j) 6).toArray, []⟩) ∧ wr = v) 6 fun a h1 h2 => ⟨h1, h2, rfl⟩) ?_
  rintro _ _ ⟨he2, ⟨x2, rfl⟩, rfl⟩
  refine gluee (.tmp 191) cond_sw4 he2 ?_
  refine glue (c := ce (c2 (ce (c2 (ce (c2 (swC))))))) seq_sw5 (test5 w wr p tg tn n T cT x2 j (fun a v => a.eval (.tmp 233) = .bool ((6 : Int) == 5) ∧ (∃ y, a = ⟨(T33 p tg tn w.heap.size n T cT y (j) 6).toArray, []⟩) ∧ wr = v) 6 fun a h1 h2 => ⟨h1, h2, rfl⟩) ?_
  rintro _ _ ⟨he3, ⟨x3, rfl⟩, rfl⟩
  refine gluee (.tmp 233) cond_sw5 he3 ?_
  refine glue (c := ce (c2 (ce (c2 (ce (c2 (ce (c2 (swC))))))))) seq_sw6 (test6 w wr p tg tn n T cT x3 j (fun a v => a.eval (.tmp 279) = .bool ((6 : Int) == 6) ∧ (∃ y, a = ⟨(T33 p tg tn w.heap.size n T cT y (j) 6).toArray, []⟩) ∧ wr = v) 6 fun a h1 h2 => ⟨h1, h2, rfl⟩) ?_
  rintro _ _ ⟨he4, ⟨x4, rfl⟩, rfl⟩
  refine gluet (.tmp 279) cond_sw6 he4 ?_
  exact h _ (back_E33 (by kernel_rfl))
set_option maxRecDepth 1000000 in
theorem to_arm7 (w wr : World) (p tg tn n : Nat) (T : Option Addr) (cT : Nat) (x : Nat → Value) (j : Nat) (K : Act → World → Prop) (h : ∀ a, (∃ y, a = ⟨(E33 p tg tn w.heap.size n T cT y (j) ).toArray, []⟩) → arm7C.wp Tryd.prog (Ends K) a wr) :
    swC.wp Tryd.prog (Ends K) ⟨(T33 p tg tn w.heap.size n T cT x j 7).toArray, []⟩ wr := by
  refine glue (c := swC) seq_sw2 (test2 w wr p tg tn n T cT x j (fun a v => a.eval (.tmp 97) = .bool ((7 : Int) == 2) ∧ (∃ y, a = ⟨(T33 p tg tn w.heap.size n T cT y (j) 7).toArray, []⟩) ∧ wr = v) 7 fun a h1 h2 => ⟨h1, h2, rfl⟩) ?_
  rintro _ _ ⟨he0, ⟨x0, rfl⟩, rfl⟩
  refine gluee (.tmp 97) cond_sw2 he0 ?_
  refine glue (c := ce (c2 (swC))) seq_sw3 (test3 w wr p tg tn n T cT x0 j (fun a v => a.eval (.tmp 145) = .bool ((7 : Int) == 3) ∧ (∃ y, a = ⟨(T33 p tg tn w.heap.size n T cT y (j) 7).toArray, []⟩) ∧ wr = v) 7 fun a h1 h2 => ⟨h1, h2, rfl⟩) ?_
  rintro _ _ ⟨he1, ⟨x1, rfl⟩, rfl⟩
  refine gluee (.tmp 145) cond_sw3 he1 ?_
  refine glue (c := ce (c2 (ce (c2 (swC))))) seq_sw4 (test4 w wr p tg tn n T cT x1 j (fun a v => a.eval (.tmp 191) = .bool ((7 : Int) == 4) ∧ (∃ y, a = ⟨(T33 p tg tn w.heap.size n T cT y (j) 7).toArray, []⟩) ∧ wr = v) 7 fun a h1 h2 => ⟨h1, h2, rfl⟩) ?_
  rintro _ _ ⟨he2, ⟨x2, rfl⟩, rfl⟩
  refine gluee (.tmp 191) cond_sw4 he2 ?_
  refine glue (c := ce (c2 (ce (c2 (ce (c2 (swC))))))) seq_sw5 (test5 w wr p tg tn n T cT x2 j (fun a v => a.eval (.tmp 233) = .bool ((7 : Int) == 5) ∧ (∃ y, a = ⟨(T33 p tg tn w.heap.size n T cT y (j) 7).toArray, []⟩) ∧ wr = v) 7 fun a h1 h2 => ⟨h1, h2, rfl⟩) ?_
  rintro _ _ ⟨he3, ⟨x3, rfl⟩, rfl⟩
  refine gluee (.tmp 233) cond_sw5 he3 ?_
  refine glue (c := ce (c2 (ce (c2 (ce (c2 (ce (c2 (swC))))))))) seq_sw6 (test6 w wr p tg tn n T cT x3 j (fun a v => a.eval (.tmp 279) = .bool ((7 : Int) == 6) ∧ (∃ y, a = ⟨(T33 p tg tn w.heap.size n T cT y (j) 7).toArray, []⟩) ∧ wr = v) 7 fun a h1 h2 => ⟨h1, h2, rfl⟩) ?_
  rintro _ _ ⟨he4, ⟨x4, rfl⟩, rfl⟩
  refine gluee (.tmp 279) cond_sw6 he4 ?_
  refine glue (c := ce (c2 (ce (c2 (ce (c2 (ce (c2 (ce (c2 (swC))))))))))) seq_sw7 (test7 w wr p tg tn n T cT x4 j (fun a v => a.eval (.tmp 351) = .bool ((7 : Int) == 7) ∧ (∃ y, a = ⟨(T33 p tg tn w.heap.size n T cT y (j) 7).toArray, []⟩) ∧ wr = v) 7 fun a h1 h2 => ⟨h1, h2, rfl⟩) ?_
  rintro _ _ ⟨he5, ⟨x5, rfl⟩, rfl⟩
  refine gluet (.tmp 351) cond_sw7 he5 ?_
  exact h _ (back_E33 (by kernel_rfl))
set_option maxRecDepth 1000000 in
theorem to_arm8 (w wr : World) (p tg tn n : Nat) (T : Option Addr) (cT : Nat) (x : Nat → Value) (j : Nat) (K : Act → World → Prop) (h : ∀ a, (∃ y, a = ⟨(E33 p tg tn w.heap.size n T cT y (j) ).toArray, []⟩) → arm8C.wp Tryd.prog (Ends K) a wr) :
    swC.wp Tryd.prog (Ends K) ⟨(T33 p tg tn w.heap.size n T cT x j 8).toArray, []⟩ wr := by
  refine glue (c := swC) seq_sw2 (test2 w wr p tg tn n T cT x j (fun a v => a.eval (.tmp 97) = .bool ((8 : Int) == 2) ∧ (∃ y, a = ⟨(T33 p tg tn w.heap.size n T cT y (j) 8).toArray, []⟩) ∧ wr = v) 8 fun a h1 h2 => ⟨h1, h2, rfl⟩) ?_
  rintro _ _ ⟨he0, ⟨x0, rfl⟩, rfl⟩
  refine gluee (.tmp 97) cond_sw2 he0 ?_
  refine glue (c := ce (c2 (swC))) seq_sw3 (test3 w wr p tg tn n T cT x0 j (fun a v => a.eval (.tmp 145) = .bool ((8 : Int) == 3) ∧ (∃ y, a = ⟨(T33 p tg tn w.heap.size n T cT y (j) 8).toArray, []⟩) ∧ wr = v) 8 fun a h1 h2 => ⟨h1, h2, rfl⟩) ?_
  rintro _ _ ⟨he1, ⟨x1, rfl⟩, rfl⟩
  refine gluee (.tmp 145) cond_sw3 he1 ?_
  refine glue (c := ce (c2 (ce (c2 (swC))))) seq_sw4 (test4 w wr p tg tn n T cT x1 j (fun a v => a.eval (.tmp 191) = .bool ((8 : Int) == 4) ∧ (∃ y, a = ⟨(T33 p tg tn w.heap.size n T cT y (j) 8).toArray, []⟩) ∧ wr = v) 8 fun a h1 h2 => ⟨h1, h2, rfl⟩) ?_
  rintro _ _ ⟨he2, ⟨x2, rfl⟩, rfl⟩
  refine gluee (.tmp 191) cond_sw4 he2 ?_
  refine glue (c := ce (c2 (ce (c2 (ce (c2 (swC))))))) seq_sw5 (test5 w wr p tg tn n T cT x2 j (fun a v => a.eval (.tmp 233) = .bool ((8 : Int) == 5) ∧ (∃ y, a = ⟨(T33 p tg tn w.heap.size n T cT y (j) 8).toArray, []⟩) ∧ wr = v) 8 fun a h1 h2 => ⟨h1, h2, rfl⟩) ?_
  rintro _ _ ⟨he3, ⟨x3, rfl⟩, rfl⟩
  refine gluee (.tmp 233) cond_sw5 he3 ?_
  refine glue (c := ce (c2 (ce (c2 (ce (c2 (ce (c2 (swC))))))))) seq_sw6 (test6 w wr p tg tn n T cT x3 j (fun a v => a.eval (.tmp 279) = .bool ((8 : Int) == 6) ∧ (∃ y, a = ⟨(T33 p tg tn w.heap.size n T cT y (j) 8).toArray, []⟩) ∧ wr = v) 8 fun a h1 h2 => ⟨h1, h2, rfl⟩) ?_
  rintro _ _ ⟨he4, ⟨x4, rfl⟩, rfl⟩
  refine gluee (.tmp 279) cond_sw6 he4 ?_
  refine glue (c := ce (c2 (ce (c2 (ce (c2 (ce (c2 (ce (c2 (swC))))))))))) seq_sw7 (test7 w wr p tg tn n T cT x4 j (fun a v => a.eval (.tmp 351) = .bool ((8 : Int) == 7) ∧ (∃ y, a = ⟨(T33 p tg tn w.heap.size n T cT y (j) 8).toArray, []⟩) ∧ wr = v) 8 fun a h1 h2 => ⟨h1, h2, rfl⟩) ?_
  rintro _ _ ⟨he5, ⟨x5, rfl⟩, rfl⟩
  refine gluee (.tmp 351) cond_sw7 he5 ?_
  refine glue (c := ce (c2 (ce (c2 (ce (c2 (ce (c2 (ce (c2 (ce (c2 (swC))))))))))))) seq_sw8 (test8 w wr p tg tn n T cT x5 j (fun a v => a.eval (.tmp 416) = .bool ((8 : Int) == 8) ∧ (∃ y, a = ⟨(T33 p tg tn w.heap.size n T cT y (j) 8).toArray, []⟩) ∧ wr = v) 8 fun a h1 h2 => ⟨h1, h2, rfl⟩) ?_
  rintro _ _ ⟨he6, ⟨x6, rfl⟩, rfl⟩
  refine gluet (.tmp 416) cond_sw8 he6 ?_
  exact h _ (back_E33 (by kernel_rfl))
set_option maxRecDepth 1000000 in
theorem to_arm9 (w wr : World) (p tg tn n : Nat) (T : Option Addr) (cT : Nat) (x : Nat → Value) (j : Nat) (K : Act → World → Prop) (h : ∀ a, (∃ y, a = ⟨(E33 p tg tn w.heap.size n T cT y (j) ).toArray, []⟩) → arm9C.wp Tryd.prog (Ends K) a wr) :
    swC.wp Tryd.prog (Ends K) ⟨(T33 p tg tn w.heap.size n T cT x j 9).toArray, []⟩ wr := by
  refine glue (c := swC) seq_sw2 (test2 w wr p tg tn n T cT x j (fun a v => a.eval (.tmp 97) = .bool ((9 : Int) == 2) ∧ (∃ y, a = ⟨(T33 p tg tn w.heap.size n T cT y (j) 9).toArray, []⟩) ∧ wr = v) 9 fun a h1 h2 => ⟨h1, h2, rfl⟩) ?_
  rintro _ _ ⟨he0, ⟨x0, rfl⟩, rfl⟩
  refine gluee (.tmp 97) cond_sw2 he0 ?_
  refine glue (c := ce (c2 (swC))) seq_sw3 (test3 w wr p tg tn n T cT x0 j (fun a v => a.eval (.tmp 145) = .bool ((9 : Int) == 3) ∧ (∃ y, a = ⟨(T33 p tg tn w.heap.size n T cT y (j) 9).toArray, []⟩) ∧ wr = v) 9 fun a h1 h2 => ⟨h1, h2, rfl⟩) ?_
  rintro _ _ ⟨he1, ⟨x1, rfl⟩, rfl⟩
  refine gluee (.tmp 145) cond_sw3 he1 ?_
  refine glue (c := ce (c2 (ce (c2 (swC))))) seq_sw4 (test4 w wr p tg tn n T cT x1 j (fun a v => a.eval (.tmp 191) = .bool ((9 : Int) == 4) ∧ (∃ y, a = ⟨(T33 p tg tn w.heap.size n T cT y (j) 9).toArray, []⟩) ∧ wr = v) 9 fun a h1 h2 => ⟨h1, h2, rfl⟩) ?_
  rintro _ _ ⟨he2, ⟨x2, rfl⟩, rfl⟩
  refine gluee (.tmp 191) cond_sw4 he2 ?_
  refine glue (c := ce (c2 (ce (c2 (ce (c2 (swC))))))) seq_sw5 (test5 w wr p tg tn n T cT x2 j (fun a v => a.eval (.tmp 233) = .bool ((9 : Int) == 5) ∧ (∃ y, a = ⟨(T33 p tg tn w.heap.size n T cT y (j) 9).toArray, []⟩) ∧ wr = v) 9 fun a h1 h2 => ⟨h1, h2, rfl⟩) ?_
  rintro _ _ ⟨he3, ⟨x3, rfl⟩, rfl⟩
  refine gluee (.tmp 233) cond_sw5 he3 ?_
  refine glue (c := ce (c2 (ce (c2 (ce (c2 (ce (c2 (swC))))))))) seq_sw6 (test6 w wr p tg tn n T cT x3 j (fun a v => a.eval (.tmp 279) = .bool ((9 : Int) == 6) ∧ (∃ y, a = ⟨(T33 p tg tn w.heap.size n T cT y (j) 9).toArray, []⟩) ∧ wr = v) 9 fun a h1 h2 => ⟨h1, h2, rfl⟩) ?_
  rintro _ _ ⟨he4, ⟨x4, rfl⟩, rfl⟩
  refine gluee (.tmp 279) cond_sw6 he4 ?_
  refine glue (c := ce (c2 (ce (c2 (ce (c2 (ce (c2 (ce (c2 (swC))))))))))) seq_sw7 (test7 w wr p tg tn n T cT x4 j (fun a v => a.eval (.tmp 351) = .bool ((9 : Int) == 7) ∧ (∃ y, a = ⟨(T33 p tg tn w.heap.size n T cT y (j) 9).toArray, []⟩) ∧ wr = v) 9 fun a h1 h2 => ⟨h1, h2, rfl⟩) ?_
  rintro _ _ ⟨he5, ⟨x5, rfl⟩, rfl⟩
  refine gluee (.tmp 351) cond_sw7 he5 ?_
  refine glue (c := ce (c2 (ce (c2 (ce (c2 (ce (c2 (ce (c2 (ce (c2 (swC))))))))))))) seq_sw8 (test8 w wr p tg tn n T cT x5 j (fun a v => a.eval (.tmp 416) = .bool ((9 : Int) == 8) ∧ (∃ y, a = ⟨(T33 p tg tn w.heap.size n T cT y (j) 9).toArray, []⟩) ∧ wr = v) 9 fun a h1 h2 => ⟨h1, h2, rfl⟩) ?_
  rintro _ _ ⟨he6, ⟨x6, rfl⟩, rfl⟩
  refine gluee (.tmp 416) cond_sw8 he6 ?_
  refine glue (c := ce (c2 (ce (c2 (ce (c2 (ce (c2 (ce (c2 (ce (c2 (ce (c2 (swC))))))))))))))) seq_sw9 (test9 w wr p tg tn n T cT x6 j (fun a v => a.eval (.tmp 474) = .bool ((9 : Int) == 9) ∧ (∃ y, a = ⟨(T33 p tg tn w.heap.size n T cT y (j) 9).toArray, []⟩) ∧ wr = v) 9 fun a h1 h2 => ⟨h1, h2, rfl⟩) ?_
  rintro _ _ ⟨he7, ⟨x7, rfl⟩, rfl⟩
  refine gluet (.tmp 474) cond_sw9 he7 ?_
  exact h _ (back_E33 (by kernel_rfl))
set_option maxRecDepth 1000000 in
theorem to_arm10 (w wr : World) (p tg tn n : Nat) (T : Option Addr) (cT : Nat) (x : Nat → Value) (j : Nat) (K : Act → World → Prop) (h : ∀ a, (∃ y, a = ⟨(E33 p tg tn w.heap.size n T cT y (j) ).toArray, []⟩) → arm10C.wp Tryd.prog (Ends K) a wr) :
    swC.wp Tryd.prog (Ends K) ⟨(T33 p tg tn w.heap.size n T cT x j 10).toArray, []⟩ wr := by
  refine glue (c := swC) seq_sw2 (test2 w wr p tg tn n T cT x j (fun a v => a.eval (.tmp 97) = .bool ((10 : Int) == 2) ∧ (∃ y, a = ⟨(T33 p tg tn w.heap.size n T cT y (j) 10).toArray, []⟩) ∧ wr = v) 10 fun a h1 h2 => ⟨h1, h2, rfl⟩) ?_
  rintro _ _ ⟨he0, ⟨x0, rfl⟩, rfl⟩
  refine gluee (.tmp 97) cond_sw2 he0 ?_
  refine glue (c := ce (c2 (swC))) seq_sw3 (test3 w wr p tg tn n T cT x0 j (fun a v => a.eval (.tmp 145) = .bool ((10 : Int) == 3) ∧ (∃ y, a = ⟨(T33 p tg tn w.heap.size n T cT y (j) 10).toArray, []⟩) ∧ wr = v) 10 fun a h1 h2 => ⟨h1, h2, rfl⟩) ?_
  rintro _ _ ⟨he1, ⟨x1, rfl⟩, rfl⟩
  refine gluee (.tmp 145) cond_sw3 he1 ?_
  refine glue (c := ce (c2 (ce (c2 (swC))))) seq_sw4 (test4 w wr p tg tn n T cT x1 j (fun a v => a.eval (.tmp 191) = .bool ((10 : Int) == 4) ∧ (∃ y, a = ⟨(T33 p tg tn w.heap.size n T cT y (j) 10).toArray, []⟩) ∧ wr = v) 10 fun a h1 h2 => ⟨h1, h2, rfl⟩) ?_
  rintro _ _ ⟨he2, ⟨x2, rfl⟩, rfl⟩
  refine gluee (.tmp 191) cond_sw4 he2 ?_
  refine glue (c := ce (c2 (ce (c2 (ce (c2 (swC))))))) seq_sw5 (test5 w wr p tg tn n T cT x2 j (fun a v => a.eval (.tmp 233) = .bool ((10 : Int) == 5) ∧ (∃ y, a = ⟨(T33 p tg tn w.heap.size n T cT y (j) 10).toArray, []⟩) ∧ wr = v) 10 fun a h1 h2 => ⟨h1, h2, rfl⟩) ?_
  rintro _ _ ⟨he3, ⟨x3, rfl⟩, rfl⟩
  refine gluee (.tmp 233) cond_sw5 he3 ?_
  refine glue (c := ce (c2 (ce (c2 (ce (c2 (ce (c2 (swC))))))))) seq_sw6 (test6 w wr p tg tn n T cT x3 j (fun a v => a.eval (.tmp 279) = .bool ((10 : Int) == 6) ∧ (∃ y, a = ⟨(T33 p tg tn w.heap.size n T cT y (j) 10).toArray, []⟩) ∧ wr = v) 10 fun a h1 h2 => ⟨h1, h2, rfl⟩) ?_
  rintro _ _ ⟨he4, ⟨x4, rfl⟩, rfl⟩
  refine gluee (.tmp 279) cond_sw6 he4 ?_
  refine glue (c := ce (c2 (ce (c2 (ce (c2 (ce (c2 (ce (c2 (swC))))))))))) seq_sw7 (test7 w wr p tg tn n T cT x4 j (fun a v => a.eval (.tmp 351) = .bool ((10 : Int) == 7) ∧ (∃ y, a = ⟨(T33 p tg tn w.heap.size n T cT y (j) 10).toArray, []⟩) ∧ wr = v) 10 fun a h1 h2 => ⟨h1, h2, rfl⟩) ?_
  rintro _ _ ⟨he5, ⟨x5, rfl⟩, rfl⟩
  refine gluee (.tmp 351) cond_sw7 he5 ?_
  refine glue (c := ce (c2 (ce (c2 (ce (c2 (ce (c2 (ce (c2 (ce (c2 (swC))))))))))))) seq_sw8 (test8 w wr p tg tn n T cT x5 j (fun a v => a.eval (.tmp 416) = .bool ((10 : Int) == 8) ∧ (∃ y, a = ⟨(T33 p tg tn w.heap.size n T cT y (j) 10).toArray, []⟩) ∧ wr = v) 10 fun a h1 h2 => ⟨h1, h2, rfl⟩) ?_
  rintro _ _ ⟨he6, ⟨x6, rfl⟩, rfl⟩
  refine gluee (.tmp 416) cond_sw8 he6 ?_
  refine glue (c := ce (c2 (ce (c2 (ce (c2 (ce (c2 (ce (c2 (ce (c2 (ce (c2 (swC))))))))))))))) seq_sw9 (test9 w wr p tg tn n T cT x6 j (fun a v => a.eval (.tmp 474) = .bool ((10 : Int) == 9) ∧ (∃ y, a = ⟨(T33 p tg tn w.heap.size n T cT y (j) 10).toArray, []⟩) ∧ wr = v) 10 fun a h1 h2 => ⟨h1, h2, rfl⟩) ?_
  rintro _ _ ⟨he7, ⟨x7, rfl⟩, rfl⟩
  refine gluee (.tmp 474) cond_sw9 he7 ?_
  refine glue (c := ce (c2 (ce (c2 (ce (c2 (ce (c2 (ce (c2 (ce (c2 (ce (c2 (ce (c2 (swC))))))))))))))))) seq_sw10 (test10 w wr p tg tn n T cT x7 j (fun a v => a.eval (.tmp 511) = .bool ((10 : Int) == 10) ∧ (∃ y, a = ⟨(T33 p tg tn w.heap.size n T cT y (j) 10).toArray, []⟩) ∧ wr = v) 10 fun a h1 h2 => ⟨h1, h2, rfl⟩) ?_
  rintro _ _ ⟨he8, ⟨x8, rfl⟩, rfl⟩
  refine gluet (.tmp 511) cond_sw10 he8 ?_
  exact h _ (back_E33 (by kernel_rfl))
end Go.Proofs.YtocfcajafkkhdaaDoor
