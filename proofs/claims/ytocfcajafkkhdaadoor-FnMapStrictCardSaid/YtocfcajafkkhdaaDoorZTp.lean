/-
  TransformTokenizedSubject in pieces: its codes, its frames, what stands behind each token. Printed by wip/py/gen_tp.py.
-/
import Derived.Test.YtocfcajafkkhdaaDoorZG7
import Derived.Test.YtocfcajafkkhdaaDoorZG6
import Derived.Test.YtocfcajafkkhdaaDoorZG5
import Derived.Test.YtocfcajafkkhdaaDoorZG1
namespace Go.Proofs.YtocfcajafkkhdaaDoor
open Go.RowKit

def c1 : Code → Code
  | .seq a _ => a
  | c => c
def c2 : Code → Code
  | .seq _ b => b
  | c => c
def cb : Code → Code
  | .block _ c => c
  | c => c
def ct : Code → Code
  | .cond _ a _ => a
  | c => c
def ce : Code → Code
  | .cond _ _ a => a
  | c => c
def cl : Code → Code
  | .loop c => c
  | c => c
/-- the great loop's round -/
noncomputable def bodyL : Code := cl (cb (c2 (c1 (c2 (c2 (c2 (c2 (Tryd.f33.body.getD .skip))))))))
/-- what stands behind a token -/
noncomputable def tailC : Code := c2 (c2 (cb (c1 (c2 (c2 (bodyL))))))
/-- the switch -/
noncomputable def swC : Code := cb (c2 (ce (c2 (c1 (c2 (cb (c1 (c2 (c2 (bodyL))))))))))
noncomputable def arm2C : Code := ct (c2 (swC))
noncomputable def arm3C : Code := ct (c2 (ce (c2 (swC))))
noncomputable def arm4C : Code := ct (c2 (ce (c2 (ce (c2 (swC))))))
noncomputable def arm5C : Code := ct (c2 (ce (c2 (ce (c2 (ce (c2 (swC))))))))
noncomputable def arm6C : Code := ct (c2 (ce (c2 (ce (c2 (ce (c2 (ce (c2 (swC))))))))))
noncomputable def arm7C : Code := ct (c2 (ce (c2 (ce (c2 (ce (c2 (ce (c2 (ce (c2 (swC))))))))))))
noncomputable def arm8C : Code := ct (c2 (ce (c2 (ce (c2 (ce (c2 (ce (c2 (ce (c2 (ce (c2 (swC))))))))))))))
noncomputable def arm9C : Code := ct (c2 (ce (c2 (ce (c2 (ce (c2 (ce (c2 (ce (c2 (ce (c2 (ce (c2 (swC))))))))))))))))
noncomputable def arm10C : Code := ct (c2 (ce (c2 (ce (c2 (ce (c2 (ce (c2 (ce (c2 (ce (c2 (ce (c2 (ce (c2 (swC))))))))))))))))))
noncomputable def loop6C : Code := cb (c2 (ct (c2 (c2 (c2 (c2 (arm6C)))))))
noncomputable def loop7C : Code := cb (c2 (c2 (c2 (ct (c2 (c2 (c2 (c2 (arm7C)))))))))
noncomputable def loop8C : Code := cb (c2 (c2 (c2 (arm8C))))
noncomputable def loop2C : Code := cb (c2 (ct (c2 (c1 (c2 (c2 (arm2C)))))))
set_option maxRecDepth 1000000 in
/-- the frame at an arm -/
def E33 (p tg tn b n : Nat) (T : Option Addr) (cT : Nat) (x : Nat → Value) (j : Nat)  : List Value := [.pointer (some ⟨p, 0, none⟩), .slice (some ⟨tg, 0, none⟩) tn 32, undef, undef, .string ⟨#[]⟩, .pointer (some ⟨b, 0, none⟩), .int .i64 ((n : Int) - 1), .int .i64 j, x 8, x 9, x 10, x 11, x 12, x 13, x 14, x 15, x 16, x 17, x 18, x 19, x 20, x 21, x 22, x 23, x 24, x 25, x 26, x 27, x 28, x 29, x 30, x 31, x 32, x 33, x 34, x 35, x 36, x 37, x 38, x 39, .pointer (some ⟨p, 0, none⟩), .pointer (some ⟨p, 0, none⟩), .pointer (some ⟨p, 4, none⟩), .slice T n cT, .int .i64 n, .bool false, undef, undef, undef, undef, .pointer (some ⟨p, 0, none⟩), .pointer (some ⟨p, 0, none⟩), .pointer (some ⟨p, 4, none⟩), .slice T n cT, .int .i64 n, .int .i64 ((n : Int) - 1), .pointer (some ⟨p, 0, none⟩), .pointer (some ⟨p, 0, none⟩), .pointer (some ⟨p, 4, none⟩), .slice T n cT, .int .i64 n, .int .i64 j, x 62, x 63, x 64, x 65, x 66, x 67, x 68, x 69, x 70, x 71, x 72, x 73, x 74, x 75, x 76, x 77, x 78, x 79, x 80, x 81, x 82, x 83, x 84, x 85, x 86, x 87, x 88, x 89, x 90, x 91, x 92, x 93, x 94, x 95, x 96, x 97, x 98, x 99, x 100, x 101, x 102, x 103, x 104, x 105, x 106, x 107, x 108, x 109, x 110, x 111, x 112, x 113, x 114, x 115, x 116, x 117, x 118, x 119, x 120, x 121, x 122, x 123, x 124, x 125, x 126, x 127, x 128, x 129, x 130, x 131, x 132, x 133, x 134, x 135, x 136, x 137, x 138, x 139, x 140, x 141, x 142, x 143, x 144, x 145, x 146, x 147, x 148, x 149, x 150, x 151, x 152, x 153, x 154, x 155, x 156, x 157, x 158, x 159, x 160, x 161, x 162, x 163, x 164, x 165, x 166, x 167, x 168, x 169, x 170, x 171, x 172, x 173, x 174, x 175, x 176, x 177, x 178, x 179, x 180, x 181, x 182, x 183, x 184, x 185, x 186, x 187, x 188, x 189, x 190, x 191, x 192, x 193, x 194, x 195, x 196, x 197, x 198, x 199, x 200, x 201, x 202, x 203, x 204, x 205, x 206, x 207, x 208, x 209, x 210, x 211, x 212, x 213, x 214, x 215, x 216, x 217, x 218, x 219, x 220, x 221, x 222, x 223, x 224, x 225, x 226, x 227, x 228, x 229, x 230, x 231, x 232, x 233, x 234, x 235, x 236, x 237, x 238, x 239, x 240, x 241, x 242, x 243, x 244, x 245, x 246, x 247, x 248, x 249, x 250, x 251, x 252, x 253, x 254, x 255, x 256, x 257, x 258, x 259, x 260, x 261, x 262, x 263, x 264, x 265, x 266, x 267, x 268, x 269, x 270, x 271, x 272, x 273, x 274, x 275, x 276, x 277, x 278, x 279, x 280, x 281, x 282, x 283, x 284, x 285, x 286, x 287, x 288, x 289, x 290, x 291, x 292, x 293, x 294, x 295, x 296, x 297, x 298, x 299, x 300, x 301, x 302, x 303, x 304, x 305, x 306, x 307, x 308, x 309, x 310, x 311, x 312, x 313, x 314, x 315, x 316, x 317, x 318, x 319, x 320, x 321, x 322, x 323, x 324, x 325, x 326, x 327, x 328, x 329, x 330, x 331, x 332, x 333, x 334, x 335, x 336, x 337, x 338, x 339, x 340, x 341, x 342, x 343, x 344, x 345, x 346, x 347, x 348, x 349, x 350, x 351, x 352, x 353, x 354, x 355, x 356, x 357, x 358, x 359, x 360, x 361, x 362, x 363, x 364, x 365, x 366, x 367, x 368, x 369, x 370, x 371, x 372, x 373, x 374, x 375, x 376, x 377, x 378, x 379, x 380, x 381, x 382, x 383, x 384, x 385, x 386, x 387, x 388, x 389, x 390, x 391, x 392, x 393, x 394, x 395, x 396, x 397, x 398, x 399, x 400, x 401, x 402, x 403, x 404, x 405, x 406, x 407, x 408, x 409, x 410, x 411, x 412, x 413, x 414, x 415, x 416, x 417, x 418, x 419, x 420, x 421, x 422, x 423, x 424, x 425, x 426, x 427, x 428, x 429, x 430, x 431, x 432, x 433, x 434, x 435, x 436, x 437, x 438, x 439, x 440, x 441, x 442, x 443, x 444, x 445, x 446, x 447, x 448, x 449, x 450, x 451, x 452, x 453, x 454, x 455, x 456, x 457, x 458, x 459, x 460, x 461, x 462, x 463, x 464, x 465, x 466, x 467, x 468, x 469, x 470, x 471, x 472, x 473, x 474, x 475, x 476, x 477, x 478, x 479, x 480, x 481, x 482, x 483, x 484, x 485, x 486, x 487, x 488, x 489, x 490, x 491, x 492, x 493, x 494, x 495, x 496, x 497, x 498, x 499, x 500, x 501, x 502, x 503, x 504, x 505, x 506, x 507, x 508, x 509, x 510, x 511, x 512, x 513, x 514, x 515, x 516, x 517, x 518, x 519, x 520, x 521, x 522, x 523, x 524, x 525, x 526, x 527, x 528, x 529, x 530, x 531, x 532, x 533, x 534, x 535, x 536, x 537, x 538, x 539, x 540, x 541, x 542, x 543, x 544, x 545, x 546, x 547, x 548, x 549, x 550, x 551, x 552, x 553, x 554, x 555, x 556, x 557, x 558, x 559, x 560, x 561, x 562, x 563, x 564, x 565, x 566, x 567, x 568, x 569, x 570, x 571, x 572, x 573, x 574, x 575, x 576, x 577, x 578, x 579, x 580, x 581, x 582, x 583, x 584, x 585, x 586, x 587, x 588, x 589, x 590, x 591, x 592, x 593]
theorem back_E33 {p tg tn b n : Nat} {T : Option Addr} {cT j : Nat}  {l : List Value} (h : E33 p tg tn b n T cT (fun i => l.getD i undef) j  = l) : ∃ x, (⟨l.toArray, []⟩ : Act) = ⟨(E33 p tg tn b n T cT x j ).toArray, []⟩ := ⟨_, by rw [h]⟩
/-- what ends a piece: nothing else than this -/
abbrev Ends (K : Act → World → Prop) : Exit → Act → World → Prop := Exit.then K (bodyPost Tryd.prog Tryd.f33 (fun _ _ => False))
theorem no_ends {e : Exit} {a : Act} {w : World} (h : bodyPost Tryd.prog Tryd.f33 (fun _ _ => False) e a w) : False := by
  unfold bodyPost at h
  revert h
  split <;> simp
theorem ends_normal {K : Act → World → Prop} {e : Exit} {a : Act} {w : World} (h : Ends K e a w) : e = .normal ∧ K a w := by
  cases e with
  | normal => exact ⟨rfl, h⟩
  | exit i => exact (no_ends (e := .exit i) (a := a) (w := w) h).elim
  | goto i => exact (no_ends (e := .goto i) (a := a) (w := w) h).elim
  | ret => exact (no_ends (e := .ret) (a := a) (w := w) h).elim
  | panic i => exact (no_ends (e := .panic i) (a := a) (w := w) h).elim
  | outgrown => exact (no_ends (e := .outgrown) (a := a) (w := w) h).elim
theorem wp_code {c c' : Code} {Q : Exit → Act → World → Prop} {a : Act} {w : World} (e : c = c') (h : c.wp Tryd.prog Q a w) : c'.wp Tryd.prog Q a w := e ▸ h
theorem wp_ends {c : Code} {K : Act → World → Prop} {Q : Exit → Act → World → Prop} {a : Act} {w : World} (h : c.wp Tryd.prog (Ends K) a w) (hq : ∀ a w, K a w → Q .normal a w) : c.wp Tryd.prog Q a w := by
  refine wp_mono h fun e a w k => ?_
  obtain ⟨rfl, k⟩ := ends_normal k
  exact hq a w k
theorem wp_out {c : Code} {id : Nat} {K : Act → World → Prop} {Q : Exit → Act → World → Prop} {a : Act} {w : World} (h : c.wp Tryd.prog (Exit.inBlock id (Ends K)) a w) (hq : ∀ e a w, e = .normal ∨ e = .exit id → K a w → Q e a w) : c.wp Tryd.prog Q a w := by
  refine wp_mono h fun e a w k => ?_
  by_cases h2 : e = .exit id
  · subst h2
    simp only [Exit.inBlock, if_true] at k
    exact hq _ a w (.inr rfl) k
  · cases e with
    | exit i =>
      simp only [Exit.inBlock] at k
      rw [if_neg (by rintro rfl; exact h2 rfl)] at k
      exact absurd (ends_normal k).1 (by simp)
    | normal => exact hq _ a w (.inl rfl) k
    | goto i => exact absurd (ends_normal (K := K) (e := .goto i) (a := a) (w := w) k).1 (by simp)
    | ret => exact absurd (ends_normal (K := K) (e := .ret) (a := a) (w := w) k).1 (by simp)
    | panic i => exact absurd (ends_normal (K := K) (e := .panic i) (a := a) (w := w) k).1 (by simp)
    | outgrown => exact absurd (ends_normal (K := K) (e := .outgrown) (a := a) (w := w) k).1 (by simp)
theorem TrRel.dot {w wr : World} {l : List UInt8} (h : TrRel w l wr) (h1 : l.length ≤ 100000000) :
    Calls Tryd.prog 43 #[.pointer (some ⟨w.heap.size, 0, none⟩), .string ⟨#[46]⟩] wr (fun e w' => e = .returned (.tuple #[.int .i64 1, .nilIface]) ∧ TrRel w (l ++ [46]) w') := h.str ⟨#[46]⟩ h1 (by decide)
set_option maxHeartbeats 4000000 in
set_option maxRecDepth 1000000 in
theorem tail33 (w wr : World) (p tg tn n : Nat) (T : Option Addr) (cT : Nat) (x : Nat → Value) (j : Nat) (acc : List UInt8) (hR : TrRel w acc wr) (hacc : acc.length ≤ 90000000)
    (K : Act → World → Prop) (hK : ∀ a wv, (∃ y, a = ⟨(E33 p tg tn w.heap.size n T cT y j ).toArray, []⟩) → TrRel w (acc ++ if j + 1 < n then [46] else []) wv → K a wv) :
    tailC.wp Tryd.prog (Ends K) ⟨(E33 p tg tn w.heap.size n T cT x j ).toArray, []⟩ wr := by
  have HK := Lib.hid hK
  have HR := Lib.hid hR
  clear hK hR
  conv => arg 2; whnf
  unfold E33
  by_cases hj1 : j + 1 < n
  · have hj2 : (j : Int) < (n : Int) - 1 := by omega
    have hw := HR.out.byte (by omega)
    go_wp2_with fail
    with_reducible refine hw.mono ?_
    rintro e wz ⟨rfl, hr2⟩
    clear hw
    have HR2 := Lib.hid hr2
    clear hr2
    go_wp2_with fail
    refine HK.out _ _ (back_E33 ?_) (by rw [if_pos hj1]; exact HR2.out)
    kernel_rfl
  · have hj2 : ¬ (j : Int) < (n : Int) - 1 := by omega
    go_wp2_with fail
    refine HK.out _ _ (back_E33 ?_) (by rw [if_neg hj1, List.append_nil]; exact HR.out)
    kernel_rfl
end Go.Proofs.YtocfcajafkkhdaaDoor
