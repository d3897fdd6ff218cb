/-
  TransformTokenizedSubject's frame at its great loop's head: what the loop does not write, and a letter for the rest.
  FNV-1a of 32 bits: hash/fnv's New32a, Write, Sum32.
  The reference's mapHash; hash/fnv's Sum32.
  TransformTokenizedSubject's frames at its inner loops' heads. Printed by wip/py/gen_fh.py.
-/
import Derived.Test.YtocfcajafkkhdaaDoorZG4
import Derived.Test.YtocfcajafkkhdaaDoorZG5
/- Fr -/
section
namespace Go.Proofs.YtocfcajafkkhdaaDoor
open Go.RowKit
set_option maxRecDepth 1000000 in
def F33 (p tg tn b n : Nat) (T : Option Addr) (cT : Nat) (x : Nat → Value) (j : Nat) : List Value := [.pointer (some ⟨p, 0, none⟩), .slice (some ⟨tg, 0, none⟩) tn 32, undef, undef, .string ⟨#[]⟩, .pointer (some ⟨b, 0, none⟩), .int .i64 ((n : Int) - 1), x 7, x 8, x 9, x 10, x 11, x 12, x 13, x 14, x 15, x 16, x 17, x 18, x 19, x 20, x 21, x 22, x 23, x 24, x 25, x 26, x 27, x 28, x 29, x 30, x 31, x 32, x 33, x 34, x 35, x 36, x 37, x 38, x 39, .pointer (some ⟨p, 0, none⟩), .pointer (some ⟨p, 0, none⟩), .pointer (some ⟨p, 4, none⟩), .slice T n cT, .int .i64 n, .bool false, undef, undef, undef, undef, .pointer (some ⟨p, 0, none⟩), .pointer (some ⟨p, 0, none⟩), .pointer (some ⟨p, 4, none⟩), .slice T n cT, .int .i64 n, .int .i64 ((n : Int) - 1), .pointer (some ⟨p, 0, none⟩), .pointer (some ⟨p, 0, none⟩), .pointer (some ⟨p, 4, none⟩), .slice T n cT, .int .i64 n, .int .i64 j, x 62, x 63, x 64, x 65, x 66, x 67, x 68, x 69, x 70, x 71, x 72, x 73, x 74, x 75, x 76, x 77, x 78, x 79, x 80, x 81, x 82, x 83, x 84, x 85, x 86, x 87, x 88, x 89, x 90, x 91, x 92, x 93, x 94, x 95, x 96, x 97, x 98, x 99, x 100, x 101, x 102, x 103, x 104, x 105, x 106, x 107, x 108, x 109, x 110, x 111, x 112, x 113, x 114, x 115, x 116, x 117, x 118, x 119, x 120, x 121, x 122, x 123, x 124, x 125, x 126, x 127, x 128, x 129, x 130, x 131, x 132, x 133, x 134, x 135, x 136, x 137, x 138, x 139, x 140, x 141, x 142, x 143, x 144, x 145, x 146, x 147, x 148, x 149, x 150, x 151, x 152, x 153, x 154, x 155, x 156, x 157, x 158, x 159, x 160, x 161, x 162, x 163, x 164, x 165, x 166, x 167, x 168, x 169, x 170, x 171, x 172, x 173, x 174, x 175, x 176, x 177, x 178, x 179, x 180, x 181, x 182, x 183, x 184, x 185, x 186, x 187, x 188, x 189, x 190, x 191, x 192, x 193, x 194, x 195, x 196, x 197, x 198, x 199, x 200, x 201, x 202, x 203, x 204, x 205, x 206, x 207, x 208, x 209, x 210, x 211, x 212, x 213, x 214, x 215, x 216, x 217, x 218, x 219, x 220, x 221, x 222, x 223, x 224, x 225, x 226, x 227, x 228, x 229, x 230, x 231, x 232, x 233, x 234, x 235, x 236, x 237, x 238, x 239, x 240, x 241, x 242, x 243, x 244, x 245, x 246, x 247, x 248, x 249, x 250, x 251, x 252, x 253, x 254, x 255, x 256, x 257, x 258, x 259, x 260, x 261, x 262, x 263, x 264, x 265, x 266, x 267, x 268, x 269, x 270, x 271, x 272, x 273, x 274, x 275, x 276, x 277, x 278, x 279, x 280, x 281, x 282, x 283, x 284, x 285, x 286, x 287, x 288, x 289, x 290, x 291, x 292, x 293, x 294, x 295, x 296, x 297, x 298, x 299, x 300, x 301, x 302, x 303, x 304, x 305, x 306, x 307, x 308, x 309, x 310, x 311, x 312, x 313, x 314, x 315, x 316, x 317, x 318, x 319, x 320, x 321, x 322, x 323, x 324, x 325, x 326, x 327, x 328, x 329, x 330, x 331, x 332, x 333, x 334, x 335, x 336, x 337, x 338, x 339, x 340, x 341, x 342, x 343, x 344, x 345, x 346, x 347, x 348, x 349, x 350, x 351, x 352, x 353, x 354, x 355, x 356, x 357, x 358, x 359, x 360, x 361, x 362, x 363, x 364, x 365, x 366, x 367, x 368, x 369, x 370, x 371, x 372, x 373, x 374, x 375, x 376, x 377, x 378, x 379, x 380, x 381, x 382, x 383, x 384, x 385, x 386, x 387, x 388, x 389, x 390, x 391, x 392, x 393, x 394, x 395, x 396, x 397, x 398, x 399, x 400, x 401, x 402, x 403, x 404, x 405, x 406, x 407, x 408, x 409, x 410, x 411, x 412, x 413, x 414, x 415, x 416, x 417, x 418, x 419, x 420, x 421, x 422, x 423, x 424, x 425, x 426, x 427, x 428, x 429, x 430, x 431, x 432, x 433, x 434, x 435, x 436, x 437, x 438, x 439, x 440, x 441, x 442, x 443, x 444, x 445, x 446, x 447, x 448, x 449, x 450, x 451, x 452, x 453, x 454, x 455, x 456, x 457, x 458, x 459, x 460, x 461, x 462, x 463, x 464, x 465, x 466, x 467, x 468, x 469, x 470, x 471, x 472, x 473, x 474, x 475, x 476, x 477, x 478, x 479, x 480, x 481, x 482, x 483, x 484, x 485, x 486, x 487, x 488, x 489, x 490, x 491, x 492, x 493, x 494, x 495, x 496, x 497, x 498, x 499, x 500, x 501, x 502, x 503, x 504, x 505, x 506, x 507, x 508, x 509, x 510, x 511, x 512, x 513, x 514, x 515, x 516, x 517, x 518, x 519, x 520, x 521, x 522, x 523, x 524, x 525, x 526, x 527, x 528, x 529, x 530, x 531, x 532, x 533, x 534, x 535, x 536, x 537, x 538, x 539, x 540, x 541, x 542, x 543, x 544, x 545, x 546, x 547, x 548, x 549, x 550, x 551, x 552, x 553, x 554, x 555, x 556, x 557, x 558, x 559, x 560, x 561, x 562, x 563, x 564, x 565, x 566, x 567, x 568, x 569, x 570, x 571, x 572, x 573, x 574, x 575, x 576, x 577, x 578, x 579, x 580, x 581, x 582, x 583, x 584, x 585, x 586, x 587, x 588, x 589, x 590, x 591, x 592, x 593]
theorem back33 {p tg tn b n : Nat} {T : Option Addr} {cT j : Nat} {l : List Value} (h : F33 p tg tn b n T cT (fun i => l.getD i undef) j = l) : ∃ x, (⟨l.toArray, []⟩ : Act) = ⟨(F33 p tg tn b n T cT x j).toArray, []⟩ := ⟨_, by rw [h]⟩
set_option maxRecDepth 1000000 in
/-- the frame at the last loop's head -/
def G33 (p tg tn b : Nat) (x : Nat → Value) (i : Nat) : List Value := [.pointer (some ⟨p, 0, none⟩), .slice (some ⟨tg, 0, none⟩) tn 32, undef, undef, .string ⟨#[]⟩, .pointer (some ⟨b, 0, none⟩), x 6, x 7, x 8, x 9, x 10, x 11, x 12, x 13, x 14, x 15, x 16, x 17, x 18, x 19, x 20, x 21, x 22, x 23, x 24, x 25, x 26, x 27, x 28, x 29, x 30, x 31, x 32, x 33, x 34, x 35, x 36, x 37, .int .i64 ((tn : Int) - 1), .int .i64 i, x 40, x 41, x 42, x 43, x 44, x 45, x 46, x 47, x 48, x 49, x 50, x 51, x 52, x 53, x 54, x 55, x 56, x 57, x 58, x 59, x 60, x 61, x 62, x 63, x 64, x 65, x 66, x 67, x 68, x 69, x 70, x 71, x 72, x 73, x 74, x 75, x 76, x 77, x 78, x 79, x 80, x 81, x 82, x 83, x 84, x 85, x 86, x 87, x 88, x 89, x 90, x 91, x 92, x 93, x 94, x 95, x 96, x 97, x 98, x 99, x 100, x 101, x 102, x 103, x 104, x 105, x 106, x 107, x 108, x 109, x 110, x 111, x 112, x 113, x 114, x 115, x 116, x 117, x 118, x 119, x 120, x 121, x 122, x 123, x 124, x 125, x 126, x 127, x 128, x 129, x 130, x 131, x 132, x 133, x 134, x 135, x 136, x 137, x 138, x 139, x 140, x 141, x 142, x 143, x 144, x 145, x 146, x 147, x 148, x 149, x 150, x 151, x 152, x 153, x 154, x 155, x 156, x 157, x 158, x 159, x 160, x 161, x 162, x 163, x 164, x 165, x 166, x 167, x 168, x 169, x 170, x 171, x 172, x 173, x 174, x 175, x 176, x 177, x 178, x 179, x 180, x 181, x 182, x 183, x 184, x 185, x 186, x 187, x 188, x 189, x 190, x 191, x 192, x 193, x 194, x 195, x 196, x 197, x 198, x 199, x 200, x 201, x 202, x 203, x 204, x 205, x 206, x 207, x 208, x 209, x 210, x 211, x 212, x 213, x 214, x 215, x 216, x 217, x 218, x 219, x 220, x 221, x 222, x 223, x 224, x 225, x 226, x 227, x 228, x 229, x 230, x 231, x 232, x 233, x 234, x 235, x 236, x 237, x 238, x 239, x 240, x 241, x 242, x 243, x 244, x 245, x 246, x 247, x 248, x 249, x 250, x 251, x 252, x 253, x 254, x 255, x 256, x 257, x 258, x 259, x 260, x 261, x 262, x 263, x 264, x 265, x 266, x 267, x 268, x 269, x 270, x 271, x 272, x 273, x 274, x 275, x 276, x 277, x 278, x 279, x 280, x 281, x 282, x 283, x 284, x 285, x 286, x 287, x 288, x 289, x 290, x 291, x 292, x 293, x 294, x 295, x 296, x 297, x 298, x 299, x 300, x 301, x 302, x 303, x 304, x 305, x 306, x 307, x 308, x 309, x 310, x 311, x 312, x 313, x 314, x 315, x 316, x 317, x 318, x 319, x 320, x 321, x 322, x 323, x 324, x 325, x 326, x 327, x 328, x 329, x 330, x 331, x 332, x 333, x 334, x 335, x 336, x 337, x 338, x 339, x 340, x 341, x 342, x 343, x 344, x 345, x 346, x 347, x 348, x 349, x 350, x 351, x 352, x 353, x 354, x 355, x 356, x 357, x 358, x 359, x 360, x 361, x 362, x 363, x 364, x 365, x 366, x 367, x 368, x 369, x 370, x 371, x 372, x 373, x 374, x 375, x 376, x 377, x 378, x 379, x 380, x 381, x 382, x 383, x 384, x 385, x 386, x 387, x 388, x 389, x 390, x 391, x 392, x 393, x 394, x 395, x 396, x 397, x 398, x 399, x 400, x 401, x 402, x 403, x 404, x 405, x 406, x 407, x 408, x 409, x 410, x 411, x 412, x 413, x 414, x 415, x 416, x 417, x 418, x 419, x 420, x 421, x 422, x 423, x 424, x 425, x 426, x 427, x 428, x 429, x 430, x 431, x 432, x 433, x 434, x 435, x 436, x 437, x 438, x 439, x 440, x 441, x 442, x 443, x 444, x 445, x 446, x 447, x 448, x 449, x 450, x 451, x 452, x 453, x 454, x 455, x 456, x 457, x 458, x 459, x 460, x 461, x 462, x 463, x 464, x 465, x 466, x 467, x 468, x 469, x 470, x 471, x 472, x 473, x 474, x 475, x 476, x 477, x 478, x 479, x 480, x 481, x 482, x 483, x 484, x 485, x 486, x 487, x 488, x 489, x 490, x 491, x 492, x 493, x 494, x 495, x 496, x 497, x 498, x 499, x 500, x 501, x 502, x 503, x 504, x 505, x 506, x 507, x 508, x 509, x 510, x 511, x 512, x 513, x 514, x 515, x 516, x 517, x 518, x 519, x 520, x 521, x 522, x 523, x 524, x 525, x 526, x 527, x 528, x 529, x 530, x 531, x 532, x 533, x 534, x 535, x 536, x 537, x 538, x 539, x 540, x 541, x 542, x 543, x 544, x 545, x 546, x 547, x 548, x 549, x 550, x 551, x 552, x 553, x 554, x 555, x 556, x 557, x 558, x 559, x 560, x 561, x 562, x 563, x 564, x 565, x 566, x 567, x 568, x 569, x 570, x 571, x 572, x 573, x 574, x 575, x 576, x 577, x 578, x 579, x 580, x 581, x 582, x 583, x 584, x 585, x 586, x 587, x 588, x 589, x 590, x 591, x 592, x 593]
theorem backG {p tg tn b i : Nat} {l : List Value} (h : G33 p tg tn b (fun i => l.getD i undef) i = l) : ∃ x, (⟨l.toArray, []⟩ : Act) = ⟨(G33 p tg tn b x i).toArray, []⟩ := ⟨_, by rw [h]⟩
end Go.Proofs.YtocfcajafkkhdaaDoor
end
/- Hs -/
section
namespace Go.Proofs.YtocfcajafkkhdaaDoor
open Go.RowKit

/-- the hash, a byte further -/
def fnv1 (h : Nat) (c : UInt8) : Nat := ((h ^^^ c.toNat) * 16777619) % 4294967296
def fnvs (h : Nat) (l : List UInt8) : Nat := l.foldl fnv1 h
theorem foldl_snoc {α β : Type} (f : β → α → β) (b : β) (l : List α) (c : α) : (l ++ [c]).foldl f b = f (l.foldl f b) c := by simp
theorem fnvs_snoc (h : Nat) (l : List UInt8) (c : UInt8) : fnvs h (l ++ [c]) = fnv1 (fnvs h l) c := foldl_snoc fnv1 h l c
theorem fnv1_lt (h : Nat) (c : UInt8) : fnv1 h c < 4294967296 := Nat.mod_lt _ (by decide)
theorem fnv1_int (h : Nat) (c : UInt8) : ((h ^^^ c.toNat : Nat) : Int) * 16777619 % 4294967296 = ((fnv1 h c : Nat) : Int) := by unfold fnv1; omega
def u8s (l : List UInt8) : List Value := l.map fun c => .int .u8 c.toNat
theorem under116 : Tryd.prog.underlying 116 = some (.int .u32) := by kernel_rfl
theorem under59 : Tryd.prog.underlying 59 = some (.int .u32) := by kernel_rfl
theorem kind116 : Tryd.prog.intKind 116 = .u32 := by kernel_rfl
theorem conv116 (c : UInt8) (w : World) : (convert 5 116 (.int .u8 c.toNat)).run Tryd.prog w = .ok (.int .u32 c.toNat) w := by
  have h1 := run_convert_int (P := Tryd.prog) w 5 116 .u8 c.toNat (by rw [Tryd.underlying5]; rfl) (by rw [kind116]; exact under116)
  have hc := c.toNat_lt
  rw [h1, kind116, IntWalk.u32_in _ (by omega)]
def VIs (v : Value) (P : World → Prop) (e : Ending) (w' : World) : Prop := e = .returned v ∧ P w'
set_option maxRecDepth 100000 in
theorem hnew (w : World) : Calls Tryd.prog 59 #[] w (VIs (.iface 117 (.pointer (some ⟨w.heap.size, 0, none⟩))) fun w' => w' = w.alloc (.cells #[.int .u32 2166136261] 116)) := by
  go_enter Tryd.func59, Tryd.ntmps59
  go_wp2_with fail
  go_ret
  exact ⟨rfl, rfl⟩
set_option maxRecDepth 100000 in
theorem hwrite (b : Nat) (h : Nat) (A : Option Addr) (c : Nat) (l : List UInt8) (w : World) (hl : l.length ≤ 100000) (hh : h < 4294967296) (hb : w.heap[b]? = some (.cells #[.int .u32 h] 116 (0, 0))) (hL : K.Lies w A l.length (fun j => (u8s l).getD j undef)) :
    Calls Tryd.prog 105 #[.pointer (some ⟨b, 0, none⟩), .slice A l.length c] w (VIs (.tuple #[.int .i64 l.length, .nilIface]) fun w' => w' = w.setCell ⟨b, 0, none⟩ (.int .u32 (fnvs h l))) := by
  have c0 : w.cell? ⟨b, 0, none⟩ = some (.int .u32 h) := by rw [Lib.cell_of_heap hb]; rfl
  have hz : w.frozen? ⟨b, 0, none⟩ = false := by simp [World.frozen?, hb]
  have hu := under116
  go_enter Tryd.func105, Tryd.ntmps105
  go_wp2_with fail
  go_loop [6, 14] (fun v i => ∃ (k x : Nat), k ≤ l.length ∧ i = .int .i64 k ∧ v = .int .u32 x ∧ x < 4294967296 ∧ x = fnvs h (l.take k)) (fun _ i => l.length - (intOf i).toNat)
  case atStart => exact ⟨0, h, by omega, rfl, rfl, hh, rfl⟩
  case round =>
    obtain ⟨k, x, hk, rfl, rfl, hx, hxe⟩ := hrel
    by_cases hlt : k < l.length
    · obtain ⟨ab, ao, rfl, hab, hcs⟩ := hL (by omega)
      have c1 : w.cell? ⟨ab, ao + k, none⟩ = some (.int .u8 l[k].toNat) := by rw [hcs k hlt]; simp [u8s, List.getD, hlt]
      have hxe2 : fnv1 x l[k] = fnvs h (l.take (k + 1)) := by rw [List.take_succ_eq_append_getElem hlt, fnvs_snoc, hxe]
      generalize l[k] = c at c1 hxe2
      have hlt8 := c.toNat_lt
      have hxor := u32_xor_nat x c.toNat hx (by omega)
      have hcv := conv116 c w
      clear hxe hu hL hcs
      go_wp2_with fail
      rw [fnv1_int]
      go_round
      case rel => exact ⟨k + 1, fnv1 x c, by omega, by go_num, rfl, fnv1_lt x c, hxe2⟩
      case measure => simp [intOf]; omega
    · obtain rfl : k = l.length := by omega
      rw [List.take_length] at hxe
      subst hxe
      go_wp2_with fail
      refine bodyPost_ret (v := .tuple #[.int .i64 l.length, .nilIface]) (by simp [results, Tryd.results105, go_sem]) rfl ?_
      exact ⟨rfl, rfl⟩
end Go.Proofs.YtocfcajafkkhdaaDoor
end
/- Mh -/
section
namespace Go.Proofs.YtocfcajafkkhdaaDoor
open Go.RowKit

theorem kind59 : Tryd.prog.intKind 59 = .u32 := by kernel_rfl
theorem conv59 (c : UInt8) (w : World) : (convert 5 59 (.int .u8 c.toNat)).run Tryd.prog w = .ok (.int .u32 c.toNat) w := by
  have h1 := run_convert_int (P := Tryd.prog) w 5 59 .u8 c.toNat (by rw [Tryd.underlying5]; rfl) (by rw [kind59]; exact under59)
  have hc := c.toNat_lt
  rw [h1, kind59, IntWalk.u32_in _ (by omega)]
set_option maxRecDepth 100000 in
theorem hsum (b : Nat) (x : Nat) (w : World) (hb : w.cell? ⟨b, 0, none⟩ = some (.int .u32 x)) : Calls Tryd.prog 104 #[.pointer (some ⟨b, 0, none⟩)] w (VIs (.int .u32 x) fun w' => w' = w) := by
  go_enter Tryd.func104, Tryd.ntmps104
  go_wp2_with fail
  go_ret
  exact ⟨rfl, rfl⟩
set_option maxRecDepth 100000 in
theorem maphash_any (s : ByteArray) (w : World) (hs : s.size ≤ 100000) : Calls Tryd.prog 26 #[.string s] w (VIs (.int .u32 (fnvs 2166136261 s.data.toList)) fun w' => w' = w) := by
  obtain ⟨h, hh⟩ : ∃ h : Nat, h = 2166136261 := ⟨_, rfl⟩
  rw [← hh]
  have hlt : h < 4294967296 := by omega
  go_enter Tryd.func26, Tryd.ntmps26
  go_wp2_with fail
  go_loop [3, 4] (fun v i => ∃ (k x : Nat), k ≤ s.size ∧ i = .int .i64 k ∧ v = .int .u32 x ∧ x < 4294967296 ∧ Hid (x = fnvs h (s.data.toList.take k))) (fun _ i => s.size - (intOf i).toNat)
  case atStart => exact ⟨0, h, by omega, rfl, by rw [hh]; rfl, hlt, Lib.hid rfl⟩
  case round =>
    obtain ⟨k, x, hk, rfl, rfl, hx, HX⟩ := hrel
    by_cases hlt : k < s.size
    · have hlt2 : k < s.data.toList.length := by rw [K.bsize]; exact hlt
      have hxe2 : fnv1 x s[k] = fnvs h (s.data.toList.take (k + 1)) := by
        rw [List.take_succ_eq_append_getElem hlt2, fnvs_snoc, ← HX.out]; rfl
      have hc : ∃ c, s[k] = c := ⟨_, rfl⟩
      obtain ⟨c, hc⟩ := hc
      rw [hc] at hxe2
      have hlt8 := c.toNat_lt
      have hxor := u32_xor_nat x c.toNat hx (by omega)
      have hcv := conv59 c w
      clear HX
      go_wp2_with fail
      rw [fnv1_int]
      go_round
      case rel => exact ⟨k + 1, fnv1 x c, by omega, by go_num, rfl, fnv1_lt x c, Lib.hid hxe2⟩
      case measure => simp [intOf]; omega
    · obtain rfl : k = s.size := by omega
      have HX2 := HX.out
      rw [List.take_of_length_le (by rw [K.bsize]; exact Nat.le_refl _)] at HX2
      subst HX2
      go_wp2_with fail
      go_ret
      exact ⟨rfl, rfl⟩
end Go.Proofs.YtocfcajafkkhdaaDoor
end
/- Fh -/
section
namespace Go.Proofs.YtocfcajafkkhdaaDoor
open Go.RowKit
set_option maxRecDepth 1000000 in
/-- the frame at the loop of slices from the left -/
def I33 (p tg tn b n : Nat) (T : Option Addr) (cT : Nat) (x : Nat → Value) (j : Nat) (s : ByteArray) (m i : Nat) : List Value := [.pointer (some ⟨p, 0, none⟩), .slice (some ⟨tg, 0, none⟩) tn 32, undef, undef, .string ⟨#[]⟩, .pointer (some ⟨b, 0, none⟩), .int .i64 ((n : Int) - 1), .int .i64 j, x 8, x 9, x 10, x 11, x 12, x 13, x 14, x 15, x 16, x 17, x 18, .string s, .int .i64 s.size, .int .i64 m, .int .i64 i, x 23, x 24, x 25, x 26, x 27, x 28, x 29, x 30, x 31, x 32, x 33, x 34, x 35, x 36, x 37, x 38, x 39, .pointer (some ⟨p, 0, none⟩), .pointer (some ⟨p, 0, none⟩), .pointer (some ⟨p, 4, none⟩), .slice T n cT, .int .i64 n, .bool false, undef, undef, undef, undef, .pointer (some ⟨p, 0, none⟩), .pointer (some ⟨p, 0, none⟩), .pointer (some ⟨p, 4, none⟩), .slice T n cT, .int .i64 n, .int .i64 ((n : Int) - 1), .pointer (some ⟨p, 0, none⟩), .pointer (some ⟨p, 0, none⟩), .pointer (some ⟨p, 4, none⟩), .slice T n cT, .int .i64 n, .int .i64 j, x 62, x 63, x 64, x 65, x 66, x 67, x 68, x 69, x 70, x 71, x 72, x 73, x 74, x 75, x 76, x 77, x 78, x 79, x 80, x 81, x 82, x 83, x 84, x 85, x 86, x 87, x 88, x 89, x 90, x 91, x 92, x 93, x 94, x 95, x 96, x 97, x 98, x 99, x 100, x 101, x 102, x 103, x 104, x 105, x 106, x 107, x 108, x 109, x 110, x 111, x 112, x 113, x 114, x 115, x 116, x 117, x 118, x 119, x 120, x 121, x 122, x 123, x 124, x 125, x 126, x 127, x 128, x 129, x 130, x 131, x 132, x 133, x 134, x 135, x 136, x 137, x 138, x 139, x 140, x 141, x 142, x 143, x 144, x 145, x 146, x 147, x 148, x 149, x 150, x 151, x 152, x 153, x 154, x 155, x 156, x 157, x 158, x 159, x 160, x 161, x 162, x 163, x 164, x 165, x 166, x 167, x 168, x 169, x 170, x 171, x 172, x 173, x 174, x 175, x 176, x 177, x 178, x 179, x 180, x 181, x 182, x 183, x 184, x 185, x 186, x 187, x 188, x 189, x 190, x 191, x 192, x 193, x 194, x 195, x 196, x 197, x 198, x 199, x 200, x 201, x 202, x 203, x 204, x 205, x 206, x 207, x 208, x 209, x 210, x 211, x 212, x 213, x 214, x 215, x 216, x 217, x 218, x 219, x 220, x 221, x 222, x 223, x 224, x 225, x 226, x 227, x 228, x 229, x 230, x 231, x 232, x 233, x 234, x 235, x 236, x 237, x 238, x 239, x 240, x 241, x 242, x 243, x 244, x 245, x 246, x 247, x 248, x 249, x 250, x 251, x 252, x 253, x 254, x 255, x 256, x 257, x 258, x 259, x 260, x 261, x 262, x 263, x 264, x 265, x 266, x 267, x 268, x 269, x 270, x 271, x 272, x 273, x 274, x 275, x 276, x 277, x 278, x 279, x 280, x 281, x 282, x 283, x 284, x 285, x 286, x 287, x 288, x 289, x 290, x 291, x 292, x 293, x 294, x 295, x 296, x 297, x 298, x 299, x 300, x 301, x 302, x 303, x 304, x 305, x 306, x 307, x 308, x 309, x 310, x 311, x 312, x 313, x 314, x 315, x 316, x 317, x 318, x 319, x 320, x 321, x 322, x 323, x 324, x 325, x 326, x 327, x 328, x 329, x 330, x 331, x 332, x 333, x 334, x 335, x 336, x 337, x 338, x 339, x 340, x 341, x 342, x 343, x 344, x 345, x 346, x 347, x 348, x 349, x 350, x 351, x 352, x 353, x 354, x 355, x 356, x 357, x 358, x 359, x 360, x 361, x 362, x 363, x 364, x 365, x 366, x 367, x 368, x 369, x 370, x 371, x 372, x 373, x 374, x 375, x 376, x 377, x 378, x 379, x 380, x 381, x 382, x 383, x 384, x 385, x 386, x 387, x 388, x 389, x 390, x 391, x 392, x 393, x 394, x 395, x 396, x 397, x 398, x 399, x 400, x 401, x 402, x 403, x 404, x 405, x 406, x 407, x 408, x 409, x 410, x 411, x 412, x 413, x 414, x 415, x 416, x 417, x 418, x 419, x 420, x 421, x 422, x 423, x 424, x 425, x 426, x 427, x 428, x 429, x 430, x 431, x 432, x 433, x 434, x 435, x 436, x 437, x 438, x 439, x 440, x 441, x 442, x 443, x 444, x 445, x 446, x 447, x 448, x 449, x 450, x 451, x 452, x 453, x 454, x 455, x 456, x 457, x 458, x 459, x 460, x 461, x 462, x 463, x 464, x 465, x 466, x 467, x 468, x 469, x 470, x 471, x 472, x 473, x 474, x 475, x 476, x 477, x 478, x 479, x 480, x 481, x 482, x 483, x 484, x 485, x 486, x 487, x 488, x 489, x 490, x 491, x 492, x 493, x 494, x 495, x 496, x 497, x 498, x 499, x 500, x 501, x 502, x 503, x 504, x 505, x 506, x 507, x 508, x 509, x 510, x 511, x 512, x 513, x 514, x 515, x 516, x 517, x 518, x 519, x 520, x 521, x 522, x 523, x 524, x 525, x 526, x 527, x 528, x 529, x 530, x 531, x 532, x 533, x 534, x 535, x 536, x 537, x 538, x 539, x 540, x 541, x 542, x 543, x 544, x 545, x 546, x 547, x 548, x 549, x 550, x 551, x 552, x 553, x 554, x 555, x 556, x 557, x 558, x 559, x 560, x 561, x 562, x 563, x 564, x 565, x 566, x 567, x 568, x 569, x 570, x 571, x 572, x 573, x 574, x 575, x 576, x 577, x 578, x 579, x 580, x 581, x 582, x 583, x 584, x 585, x 586, x 587, x 588, x 589, x 590, x 591, x 592, x 593]
theorem back_I33 {p tg tn b n : Nat} {T : Option Addr} {cT j : Nat} {s : ByteArray} {m i : Nat} {l : List Value} (h : I33 p tg tn b n T cT (fun i => l.getD i undef) j s m i = l) : ∃ x, (⟨l.toArray, []⟩ : Act) = ⟨(I33 p tg tn b n T cT x j s m i).toArray, []⟩ := ⟨_, by rw [h]⟩
set_option maxRecDepth 1000000 in
/-- the frame at the loop of slices from the right -/
def J33 (p tg tn b n : Nat) (T : Option Addr) (cT : Nat) (x : Nat → Value) (j : Nat) (s : ByteArray) (m i : Nat) : List Value := [.pointer (some ⟨p, 0, none⟩), .slice (some ⟨tg, 0, none⟩) tn 32, undef, undef, .string ⟨#[]⟩, .pointer (some ⟨b, 0, none⟩), .int .i64 ((n : Int) - 1), .int .i64 j, x 8, x 9, x 10, x 11, x 12, x 13, x 14, x 15, x 16, x 17, x 18, x 19, x 20, x 21, x 22, .string s, .int .i64 s.size, .int .i64 m, x 26, .int .i64 i, x 28, x 29, x 30, x 31, x 32, x 33, x 34, x 35, x 36, x 37, x 38, x 39, .pointer (some ⟨p, 0, none⟩), .pointer (some ⟨p, 0, none⟩), .pointer (some ⟨p, 4, none⟩), .slice T n cT, .int .i64 n, .bool false, undef, undef, undef, undef, .pointer (some ⟨p, 0, none⟩), .pointer (some ⟨p, 0, none⟩), .pointer (some ⟨p, 4, none⟩), .slice T n cT, .int .i64 n, .int .i64 ((n : Int) - 1), .pointer (some ⟨p, 0, none⟩), .pointer (some ⟨p, 0, none⟩), .pointer (some ⟨p, 4, none⟩), .slice T n cT, .int .i64 n, .int .i64 j, x 62, x 63, x 64, x 65, x 66, x 67, x 68, x 69, x 70, x 71, x 72, x 73, x 74, x 75, x 76, x 77, x 78, x 79, x 80, x 81, x 82, x 83, x 84, x 85, x 86, x 87, x 88, x 89, x 90, x 91, x 92, x 93, x 94, x 95, x 96, x 97, x 98, x 99, x 100, x 101, x 102, x 103, x 104, x 105, x 106, x 107, x 108, x 109, x 110, x 111, x 112, x 113, x 114, x 115, x 116, x 117, x 118, x 119, x 120, x 121, x 122, x 123, x 124, x 125, x 126, x 127, x 128, x 129, x 130, x 131, x 132, x 133, x 134, x 135, x 136, x 137, x 138, x 139, x 140, x 141, x 142, x 143, x 144, x 145, x 146, x 147, x 148, x 149, x 150, x 151, x 152, x 153, x 154, x 155, x 156, x 157, x 158, x 159, x 160, x 161, x 162, x 163, x 164, x 165, x 166, x 167, x 168, x 169, x 170, x 171, x 172, x 173, x 174, x 175, x 176, x 177, x 178, x 179, x 180, x 181, x 182, x 183, x 184, x 185, x 186, x 187, x 188, x 189, x 190, x 191, x 192, x 193, x 194, x 195, x 196, x 197, x 198, x 199, x 200, x 201, x 202, x 203, x 204, x 205, x 206, x 207, x 208, x 209, x 210, x 211, x 212, x 213, x 214, x 215, x 216, x 217, x 218, x 219, x 220, x 221, x 222, x 223, x 224, x 225, x 226, x 227, x 228, x 229, x 230, x 231, x 232, x 233, x 234, x 235, x 236, x 237, x 238, x 239, x 240, x 241, x 242, x 243, x 244, x 245, x 246, x 247, x 248, x 249, x 250, x 251, x 252, x 253, x 254, x 255, x 256, x 257, x 258, x 259, x 260, x 261, x 262, x 263, x 264, x 265, x 266, x 267, x 268, x 269, x 270, x 271, x 272, x 273, x 274, x 275, x 276, x 277, x 278, x 279, x 280, x 281, x 282, x 283, x 284, x 285, x 286, x 287, x 288, x 289, x 290, x 291, x 292, x 293, x 294, x 295, x 296, x 297, x 298, x 299, x 300, x 301, x 302, x 303, x 304, x 305, x 306, x 307, x 308, x 309, x 310, x 311, x 312, x 313, x 314, x 315, x 316, x 317, x 318, x 319, x 320, x 321, x 322, x 323, x 324, x 325, x 326, x 327, x 328, x 329, x 330, x 331, x 332, x 333, x 334, x 335, x 336, x 337, x 338, x 339, x 340, x 341, x 342, x 343, x 344, x 345, x 346, x 347, x 348, x 349, x 350, x 351, x 352, x 353, x 354, x 355, x 356, x 357, x 358, x 359, x 360, x 361, x 362, x 363, x 364, x 365, x 366, x 367, x 368, x 369, x 370, x 371, x 372, x 373, x 374, x 375, x 376, x 377, x 378, x 379, x 380, x 381, x 382, x 383, x 384, x 385, x 386, x 387, x 388, x 389, x 390, x 391, x 392, x 393, x 394, x 395, x 396, x 397, x 398, x 399, x 400, x 401, x 402, x 403, x 404, x 405, x 406, x 407, x 408, x 409, x 410, x 411, x 412, x 413, x 414, x 415, x 416, x 417, x 418, x 419, x 420, x 421, x 422, x 423, x 424, x 425, x 426, x 427, x 428, x 429, x 430, x 431, x 432, x 433, x 434, x 435, x 436, x 437, x 438, x 439, x 440, x 441, x 442, x 443, x 444, x 445, x 446, x 447, x 448, x 449, x 450, x 451, x 452, x 453, x 454, x 455, x 456, x 457, x 458, x 459, x 460, x 461, x 462, x 463, x 464, x 465, x 466, x 467, x 468, x 469, x 470, x 471, x 472, x 473, x 474, x 475, x 476, x 477, x 478, x 479, x 480, x 481, x 482, x 483, x 484, x 485, x 486, x 487, x 488, x 489, x 490, x 491, x 492, x 493, x 494, x 495, x 496, x 497, x 498, x 499, x 500, x 501, x 502, x 503, x 504, x 505, x 506, x 507, x 508, x 509, x 510, x 511, x 512, x 513, x 514, x 515, x 516, x 517, x 518, x 519, x 520, x 521, x 522, x 523, x 524, x 525, x 526, x 527, x 528, x 529, x 530, x 531, x 532, x 533, x 534, x 535, x 536, x 537, x 538, x 539, x 540, x 541, x 542, x 543, x 544, x 545, x 546, x 547, x 548, x 549, x 550, x 551, x 552, x 553, x 554, x 555, x 556, x 557, x 558, x 559, x 560, x 561, x 562, x 563, x 564, x 565, x 566, x 567, x 568, x 569, x 570, x 571, x 572, x 573, x 574, x 575, x 576, x 577, x 578, x 579, x 580, x 581, x 582, x 583, x 584, x 585, x 586, x 587, x 588, x 589, x 590, x 591, x 592, x 593]
theorem back_J33 {p tg tn b n : Nat} {T : Option Addr} {cT j : Nat} {s : ByteArray} {m i : Nat} {l : List Value} (h : J33 p tg tn b n T cT (fun i => l.getD i undef) j s m i = l) : ∃ x, (⟨l.toArray, []⟩ : Act) = ⟨(J33 p tg tn b n T cT x j s m i).toArray, []⟩ := ⟨_, by rw [h]⟩
end Go.Proofs.YtocfcajafkkhdaaDoor
end
