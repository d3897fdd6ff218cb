/-
  The reference's Written. Printed by wip/py/gen_wn.py.
-/
import Derived.Test.YtocfcajafkkhdaaDoorZMr
import Derived.Lib.MinMax
import Derived.Deep.RegionHeld3
import Derived.Deep.DrawnRows
import Derived.BigQuiet
import Derived.IntWalk
namespace Go.Proofs.YtocfcajafkkhdaaDoor
open Go.RowKit

def nat (z : Int) : Nat := (max 0 z).toNat
theorem nat_eq (z : Int) : max 0 z = (nat z : Int) := by unfold nat; omega
/-- a piece in text -/
def written (p : Pi) : List UInt8 :=
  if p.fn = 1 then 36 :: decs (nat p.at_)
  else if p.fn = 2 then [123, 123, 119, 105, 108, 100, 99, 97, 114, 100, 40] ++ decs (nat p.at_) ++ [41, 125, 125]
  else if p.fn = 3 then [123, 123, 112, 97, 114, 116, 105, 116, 105, 111, 110, 40] ++ decs (nat p.n) ++ (p.all.map fun k => 44 :: decs (nat k)).flatten ++ [41, 125, 125]
  else if p.fn = 4 then [123, 123, 115, 112, 108, 105, 116, 40] ++ decs (nat p.at_) ++ [44] ++ p.word.data.toList ++ [41, 125, 125]
  else if p.fn = 5 then [123, 123, 115, 112, 108, 105, 116, 70, 114, 111, 109, 76, 101, 102, 116, 40] ++ decs (nat p.at_) ++ [44] ++ decs (nat p.n) ++ [41, 125, 125]
  else if p.fn = 6 then [123, 123, 115, 112, 108, 105, 116, 70, 114, 111, 109, 82, 105, 103, 104, 116, 40] ++ decs (nat p.at_) ++ [44] ++ decs (nat p.n) ++ [41, 125, 125]
  else if p.fn = 7 then [123, 123, 115, 108, 105, 99, 101, 70, 114, 111, 109, 76, 101, 102, 116, 40] ++ decs (nat p.at_) ++ [44] ++ decs (nat p.n) ++ [41, 125, 125]
  else if p.fn = 8 then [123, 123, 115, 108, 105, 99, 101, 70, 114, 111, 109, 82, 105, 103, 104, 116, 40] ++ decs (nat p.at_) ++ [44] ++ decs (nat p.n) ++ [41, 125, 125]
  else if p.fn = 9 then [123, 123, 108, 101, 102, 116, 40] ++ decs (nat p.at_) ++ [44] ++ decs (nat p.n) ++ [41, 125, 125]
  else if p.fn = 10 then [123, 123, 114, 105, 103, 104, 116, 40] ++ decs (nat p.at_) ++ [44] ++ decs (nat p.n) ++ [41, 125, 125]
  else p.word.data.toList
theorem decs_len : ∀ (k n : Nat), n < 10 ^ (k + 1) → (decs n).length ≤ k + 1
  | 0, n, h => by rw [decs_lt (by simpa using h)]; simp
  | k + 1, n, h => by
    by_cases h10 : n < 10
    · rw [decs_lt h10]; simp
    · have ih := decs_len k (n / 10) (by rw [Nat.div_lt_iff_lt_mul (by omega), ← Nat.pow_succ]; exact h)
      rw [decs_ge h10, List.length_append, List.length_singleton]
      omega
theorem decs_20 {n : Nat} (h : n ≤ 9223372036854775807) : (decs n).length ≤ 20 := decs_len 19 n (Nat.lt_of_le_of_lt h (by decide))
theorem comma44 (l : List UInt8) : (⟨#[44]⟩ : ByteArray).data.toList ++ l = 44 :: l := rfl
def I64 (z : Int) : Prop := -9223372036854775808 ≤ z ∧ z ≤ 9223372036854775807
theorem nat_le {z : Int} (h : I64 z) : nat z ≤ 9223372036854775807 := by unfold nat; unfold I64 at h; omega
theorem quiet_of_none {f : FuncId} {args : Array Value} {v : Value} {W w : World} (hw : K.Grew W w) (h : Calls Tryd.prog f args w (NonePost v w)) : Calls Tryd.prog f args w (fun e w' => e = .returned v ∧ K.Grew W w') :=
  h.mono fun _ _ ⟨he, hb⟩ => ⟨he, hw.then hb⟩
theorem dec_call (z : Int) (h : I64 z) (w : World) : Calls Tryd.prog 25 #[.int .i64 (max 0 z)] w (NonePost (.string ⟨(decs (nat z)).toArray⟩) w) := by
  rw [nat_eq]
  exact decimal_any (nat z) w (nat_le h)
theorem mk_len (l : List UInt8) : (⟨l.toArray⟩ : ByteArray).size = l.length := rfl
theorem str_eq {a : ByteArray} {l : List UInt8} (h : a.data.toList = l) : a = ⟨l.toArray⟩ := by
  rw [← h, K.bmk]
set_option maxHeartbeats 8000000 in
set_option maxRecDepth 100000 in
theorem written_0 (at_ n : Int) (word : ByteArray) (all : List Int) (A : Option Addr) (c : Nat) (w : World) (ia : I64 at_) (inn : I64 n) (_hw : word.size ≤ 20) : Calls Tryd.prog 21 #[(⟨0, at_, n, word, all⟩ : Pi).v A c] w (NonePost (.string ⟨(written ⟨0, at_, n, word, all⟩).toArray⟩) w) := by
  unfold Pi.v
  have hwr : ∀ z : ByteArray, z.data.toList = written ⟨0, at_, n, word, all⟩ → (Value.string z) = .string ⟨(written ⟨0, at_, n, word, all⟩).toArray⟩ := fun z h => congrArg _ (str_eq h)
  have HWR := Lib.hid hwr
  clear hwr
  have hbk := K.heap_alloc_at w (.cells #[.int .i64 0, .int .i64 at_, .int .i64 n, .string word, .slice A all.length c] 41)
  have hb : Below w.heap.size w (w.alloc (.cells #[.int .i64 0, .int .i64 at_, .int .i64 n, .string word, .slice A all.length c] 41)) := (Below.refl _ w).alloc (Nat.le_refl _) _
  have h25a := dec_call at_ ia
  have h25n := dec_call n inn
  have la : (⟨(decs (nat at_)).toArray⟩ : ByteArray).size ≤ 20 := decs_20 (nat_le ia)
  have ln : (⟨(decs (nat n)).toArray⟩ : ByteArray).size ≤ 20 := decs_20 (nat_le inn)
  obtain ⟨sa, hsa⟩ : ∃ sa : ByteArray, (⟨(decs (nat at_)).toArray⟩ : ByteArray) = sa := ⟨_, rfl⟩
  obtain ⟨sn, hsn⟩ : ∃ sn : ByteArray, (⟨(decs (nat n)).toArray⟩ : ByteArray) = sn := ⟨_, rfl⟩
  rw [hsa] at h25a la
  rw [hsn] at h25n ln
  have HS := Lib.hid (show sa.data.toList = decs (nat at_) ∧ sn.data.toList = decs (nat n) from ⟨by rw [← hsa], by rw [← hsn]⟩)
  obtain ⟨wb, hwb⟩ : ∃ wb, w.alloc (.cells #[.int .i64 0, .int .i64 at_, .int .i64 n, .string word, .slice A all.length c] 41) = wb := ⟨_, rfl⟩
  rw [hwb] at hbk hb
  have c0 : wb.cell? ⟨w.heap.size, 0, none⟩ = some (.int .i64 0) := by rw [Lib.cell_of_heap hbk]; rfl
  have c1 : wb.cell? ⟨w.heap.size, 1, none⟩ = some (.int .i64 at_) := by rw [Lib.cell_of_heap hbk]; rfl
  have c2 : wb.cell? ⟨w.heap.size, 2, none⟩ = some (.int .i64 n) := by rw [Lib.cell_of_heap hbk]; rfl
  have c3 : wb.cell? ⟨w.heap.size, 3, none⟩ = some (.string word) := by rw [Lib.cell_of_heap hbk]; rfl
  have c4 : wb.cell? ⟨w.heap.size, 4, none⟩ = some (.slice A all.length c) := by rw [Lib.cell_of_heap hbk]; rfl
  have HB := Lib.hid hb
  have H25 := Lib.hid (And.intro h25a h25n)
  clear hsa hsn hb hbk h25a h25n ia inn
  go_enter Tryd.func21, Tryd.ntmps21
  go_upto_region 1 with (fail)
  try rw [hwb]
  clear hwb
  refine K.wp_region_grew (by kernel_rfl) (by kernel_rfl) ?_
  repeat (first
    | go_big_quiet_skip
    | (go_big_quiet_want; go_big_quiet_op; go_big_quiet_on)
    | (go_big_quiet_want; go_big_quiet_op; refine ⟨_, fun _ _ => rfl, ?_⟩; go_big_quiet_on)
    | (go_big_quiet_want; refine K.quiet_cell (v := ?_) ?_ _ _ rfl rfl ?_ ?_
       rotate_left
       · assumption
       · (intro w hw; go_simp)
       simp only [Act.put, List.setIfInBounds_toArray, List.set_cons_zero, List.set_cons_succ]
       go_big_quiet_on)
    | (go_big_quiet_want; refine K.quiet_load _ _ rfl _ rfl ?_ ?_ ?_
       rotate_left
       · assumption
       simp only [Act.put, List.setIfInBounds_toArray, List.set_cons_zero, List.set_cons_succ]
       go_big_quiet_on)
    | (go_big_quiet_want; go_big_quiet_op; apply Exists.intro
       refine ⟨fun w hw => ?_, ?_⟩
       · first | with_reducible exact quiet_of_none hw (H25.out.1 _) | with_reducible exact quiet_of_none hw (H25.out.2 _)
       go_big_quiet_on))
  refine wpQuiet_nil ?_
  intro w2 hw2
  have HW2 := Lib.hid hw2
  have z0 := hw2.cell c0
  have z3 := hw2.cell c3
  have z4 := hw2.cell c4
  clear hw2 c0 c1 c2 c3 c4
  go_wp2_with fail
  go_ret
  refine ⟨congrArg _ (HWR.out _ ?_), HB.out.trans (HW2.out.mono HB.out.size)⟩
  simp [written]
set_option maxHeartbeats 8000000 in
set_option maxRecDepth 100000 in
theorem written_1 (at_ n : Int) (word : ByteArray) (all : List Int) (A : Option Addr) (c : Nat) (w : World) (ia : I64 at_) (inn : I64 n) (_hw : word.size ≤ 20) : Calls Tryd.prog 21 #[(⟨1, at_, n, word, all⟩ : Pi).v A c] w (NonePost (.string ⟨(written ⟨1, at_, n, word, all⟩).toArray⟩) w) := by
  unfold Pi.v
  have hwr : ∀ z : ByteArray, z.data.toList = written ⟨1, at_, n, word, all⟩ → (Value.string z) = .string ⟨(written ⟨1, at_, n, word, all⟩).toArray⟩ := fun z h => congrArg _ (str_eq h)
  have HWR := Lib.hid hwr
  clear hwr
  have hbk := K.heap_alloc_at w (.cells #[.int .i64 1, .int .i64 at_, .int .i64 n, .string word, .slice A all.length c] 41)
  have hb : Below w.heap.size w (w.alloc (.cells #[.int .i64 1, .int .i64 at_, .int .i64 n, .string word, .slice A all.length c] 41)) := (Below.refl _ w).alloc (Nat.le_refl _) _
  have h25a := dec_call at_ ia
  have h25n := dec_call n inn
  have la : (⟨(decs (nat at_)).toArray⟩ : ByteArray).size ≤ 20 := decs_20 (nat_le ia)
  have ln : (⟨(decs (nat n)).toArray⟩ : ByteArray).size ≤ 20 := decs_20 (nat_le inn)
  obtain ⟨sa, hsa⟩ : ∃ sa : ByteArray, (⟨(decs (nat at_)).toArray⟩ : ByteArray) = sa := ⟨_, rfl⟩
  obtain ⟨sn, hsn⟩ : ∃ sn : ByteArray, (⟨(decs (nat n)).toArray⟩ : ByteArray) = sn := ⟨_, rfl⟩
  rw [hsa] at h25a la
  rw [hsn] at h25n ln
  have HS := Lib.hid (show sa.data.toList = decs (nat at_) ∧ sn.data.toList = decs (nat n) from ⟨by rw [← hsa], by rw [← hsn]⟩)
  obtain ⟨wb, hwb⟩ : ∃ wb, w.alloc (.cells #[.int .i64 1, .int .i64 at_, .int .i64 n, .string word, .slice A all.length c] 41) = wb := ⟨_, rfl⟩
  rw [hwb] at hbk hb
  have c0 : wb.cell? ⟨w.heap.size, 0, none⟩ = some (.int .i64 1) := by rw [Lib.cell_of_heap hbk]; rfl
  have c1 : wb.cell? ⟨w.heap.size, 1, none⟩ = some (.int .i64 at_) := by rw [Lib.cell_of_heap hbk]; rfl
  have c2 : wb.cell? ⟨w.heap.size, 2, none⟩ = some (.int .i64 n) := by rw [Lib.cell_of_heap hbk]; rfl
  have c3 : wb.cell? ⟨w.heap.size, 3, none⟩ = some (.string word) := by rw [Lib.cell_of_heap hbk]; rfl
  have c4 : wb.cell? ⟨w.heap.size, 4, none⟩ = some (.slice A all.length c) := by rw [Lib.cell_of_heap hbk]; rfl
  have HB := Lib.hid hb
  have H25 := Lib.hid (And.intro h25a h25n)
  clear hsa hsn hb hbk h25a h25n ia inn
  go_enter Tryd.func21, Tryd.ntmps21
  go_upto_region 1 with (fail)
  try rw [hwb]
  clear hwb
  refine K.wp_region_grew (by kernel_rfl) (by kernel_rfl) ?_
  repeat (first
    | go_big_quiet_skip
    | (go_big_quiet_want; go_big_quiet_op; go_big_quiet_on)
    | (go_big_quiet_want; go_big_quiet_op; refine ⟨_, fun _ _ => rfl, ?_⟩; go_big_quiet_on)
    | (go_big_quiet_want; refine K.quiet_cell (v := ?_) ?_ _ _ rfl rfl ?_ ?_
       rotate_left
       · assumption
       · (intro w hw; go_simp)
       simp only [Act.put, List.setIfInBounds_toArray, List.set_cons_zero, List.set_cons_succ]
       go_big_quiet_on)
    | (go_big_quiet_want; refine K.quiet_load _ _ rfl _ rfl ?_ ?_ ?_
       rotate_left
       · assumption
       simp only [Act.put, List.setIfInBounds_toArray, List.set_cons_zero, List.set_cons_succ]
       go_big_quiet_on)
    | (go_big_quiet_want; go_big_quiet_op; apply Exists.intro
       refine ⟨fun w hw => ?_, ?_⟩
       · first | with_reducible exact quiet_of_none hw (H25.out.1 _) | with_reducible exact quiet_of_none hw (H25.out.2 _)
       go_big_quiet_on))
  refine wpQuiet_nil ?_
  intro w2 hw2
  have HW2 := Lib.hid hw2
  have z0 := hw2.cell c0
  have z3 := hw2.cell c3
  have z4 := hw2.cell c4
  clear hw2 c0 c1 c2 c3 c4
  go_wp2_with fail
  go_ret
  refine ⟨congrArg _ (HWR.out _ ?_), HB.out.trans (HW2.out.mono HB.out.size)⟩
  simp [written, HS.out.1]
set_option maxHeartbeats 8000000 in
set_option maxRecDepth 100000 in
theorem written_2 (at_ n : Int) (word : ByteArray) (all : List Int) (A : Option Addr) (c : Nat) (w : World) (ia : I64 at_) (inn : I64 n) (_hw : word.size ≤ 20) : Calls Tryd.prog 21 #[(⟨2, at_, n, word, all⟩ : Pi).v A c] w (NonePost (.string ⟨(written ⟨2, at_, n, word, all⟩).toArray⟩) w) := by
  unfold Pi.v
  have hwr : ∀ z : ByteArray, z.data.toList = written ⟨2, at_, n, word, all⟩ → (Value.string z) = .string ⟨(written ⟨2, at_, n, word, all⟩).toArray⟩ := fun z h => congrArg _ (str_eq h)
  have HWR := Lib.hid hwr
  clear hwr
  have hbk := K.heap_alloc_at w (.cells #[.int .i64 2, .int .i64 at_, .int .i64 n, .string word, .slice A all.length c] 41)
  have hb : Below w.heap.size w (w.alloc (.cells #[.int .i64 2, .int .i64 at_, .int .i64 n, .string word, .slice A all.length c] 41)) := (Below.refl _ w).alloc (Nat.le_refl _) _
  have h25a := dec_call at_ ia
  have h25n := dec_call n inn
  have la : (⟨(decs (nat at_)).toArray⟩ : ByteArray).size ≤ 20 := decs_20 (nat_le ia)
  have ln : (⟨(decs (nat n)).toArray⟩ : ByteArray).size ≤ 20 := decs_20 (nat_le inn)
  obtain ⟨sa, hsa⟩ : ∃ sa : ByteArray, (⟨(decs (nat at_)).toArray⟩ : ByteArray) = sa := ⟨_, rfl⟩
  obtain ⟨sn, hsn⟩ : ∃ sn : ByteArray, (⟨(decs (nat n)).toArray⟩ : ByteArray) = sn := ⟨_, rfl⟩
  rw [hsa] at h25a la
  rw [hsn] at h25n ln
  have HS := Lib.hid (show sa.data.toList = decs (nat at_) ∧ sn.data.toList = decs (nat n) from ⟨by rw [← hsa], by rw [← hsn]⟩)
  obtain ⟨wb, hwb⟩ : ∃ wb, w.alloc (.cells #[.int .i64 2, .int .i64 at_, .int .i64 n, .string word, .slice A all.length c] 41) = wb := ⟨_, rfl⟩
  rw [hwb] at hbk hb
  have c0 : wb.cell? ⟨w.heap.size, 0, none⟩ = some (.int .i64 2) := by rw [Lib.cell_of_heap hbk]; rfl
  have c1 : wb.cell? ⟨w.heap.size, 1, none⟩ = some (.int .i64 at_) := by rw [Lib.cell_of_heap hbk]; rfl
  have c2 : wb.cell? ⟨w.heap.size, 2, none⟩ = some (.int .i64 n) := by rw [Lib.cell_of_heap hbk]; rfl
  have c3 : wb.cell? ⟨w.heap.size, 3, none⟩ = some (.string word) := by rw [Lib.cell_of_heap hbk]; rfl
  have c4 : wb.cell? ⟨w.heap.size, 4, none⟩ = some (.slice A all.length c) := by rw [Lib.cell_of_heap hbk]; rfl
  have HB := Lib.hid hb
  have H25 := Lib.hid (And.intro h25a h25n)
  clear hsa hsn hb hbk h25a h25n ia inn
  go_enter Tryd.func21, Tryd.ntmps21
  go_upto_region 1 with (fail)
  try rw [hwb]
  clear hwb
  refine K.wp_region_grew (by kernel_rfl) (by kernel_rfl) ?_
  repeat (first
    | go_big_quiet_skip
    | (go_big_quiet_want; go_big_quiet_op; go_big_quiet_on)
    | (go_big_quiet_want; go_big_quiet_op; refine ⟨_, fun _ _ => rfl, ?_⟩; go_big_quiet_on)
    | (go_big_quiet_want; refine K.quiet_cell (v := ?_) ?_ _ _ rfl rfl ?_ ?_
       rotate_left
       · assumption
       · (intro w hw; go_simp)
       simp only [Act.put, List.setIfInBounds_toArray, List.set_cons_zero, List.set_cons_succ]
       go_big_quiet_on)
    | (go_big_quiet_want; refine K.quiet_load _ _ rfl _ rfl ?_ ?_ ?_
       rotate_left
       · assumption
       simp only [Act.put, List.setIfInBounds_toArray, List.set_cons_zero, List.set_cons_succ]
       go_big_quiet_on)
    | (go_big_quiet_want; go_big_quiet_op; apply Exists.intro
       refine ⟨fun w hw => ?_, ?_⟩
       · first | with_reducible exact quiet_of_none hw (H25.out.1 _) | with_reducible exact quiet_of_none hw (H25.out.2 _)
       go_big_quiet_on))
  refine wpQuiet_nil ?_
  intro w2 hw2
  have HW2 := Lib.hid hw2
  have z0 := hw2.cell c0
  have z3 := hw2.cell c3
  have z4 := hw2.cell c4
  clear hw2 c0 c1 c2 c3 c4
  go_wp2_with fail
  go_ret
  refine ⟨congrArg _ (HWR.out _ ?_), HB.out.trans (HW2.out.mono HB.out.size)⟩
  simp [written, HS.out.1]
set_option maxHeartbeats 8000000 in
set_option maxRecDepth 100000 in
theorem written_4 (at_ n : Int) (word : ByteArray) (all : List Int) (A : Option Addr) (c : Nat) (w : World) (ia : I64 at_) (inn : I64 n) (hw : word.size ≤ 20) : Calls Tryd.prog 21 #[(⟨4, at_, n, word, all⟩ : Pi).v A c] w (NonePost (.string ⟨(written ⟨4, at_, n, word, all⟩).toArray⟩) w) := by
  unfold Pi.v
  have hwr : ∀ z : ByteArray, z.data.toList = written ⟨4, at_, n, word, all⟩ → (Value.string z) = .string ⟨(written ⟨4, at_, n, word, all⟩).toArray⟩ := fun z h => congrArg _ (str_eq h)
  have HWR := Lib.hid hwr
  clear hwr
  have hbk := K.heap_alloc_at w (.cells #[.int .i64 4, .int .i64 at_, .int .i64 n, .string word, .slice A all.length c] 41)
  have hb : Below w.heap.size w (w.alloc (.cells #[.int .i64 4, .int .i64 at_, .int .i64 n, .string word, .slice A all.length c] 41)) := (Below.refl _ w).alloc (Nat.le_refl _) _
  have h25a := dec_call at_ ia
  have h25n := dec_call n inn
  have la : (⟨(decs (nat at_)).toArray⟩ : ByteArray).size ≤ 20 := decs_20 (nat_le ia)
  have ln : (⟨(decs (nat n)).toArray⟩ : ByteArray).size ≤ 20 := decs_20 (nat_le inn)
  obtain ⟨sa, hsa⟩ : ∃ sa : ByteArray, (⟨(decs (nat at_)).toArray⟩ : ByteArray) = sa := ⟨_, rfl⟩
  obtain ⟨sn, hsn⟩ : ∃ sn : ByteArray, (⟨(decs (nat n)).toArray⟩ : ByteArray) = sn := ⟨_, rfl⟩
  rw [hsa] at h25a la
  rw [hsn] at h25n ln
  have HS := Lib.hid (show sa.data.toList = decs (nat at_) ∧ sn.data.toList = decs (nat n) from ⟨by rw [← hsa], by rw [← hsn]⟩)
  obtain ⟨wb, hwb⟩ : ∃ wb, w.alloc (.cells #[.int .i64 4, .int .i64 at_, .int .i64 n, .string word, .slice A all.length c] 41) = wb := ⟨_, rfl⟩
  rw [hwb] at hbk hb
  have c0 : wb.cell? ⟨w.heap.size, 0, none⟩ = some (.int .i64 4) := by rw [Lib.cell_of_heap hbk]; rfl
  have c1 : wb.cell? ⟨w.heap.size, 1, none⟩ = some (.int .i64 at_) := by rw [Lib.cell_of_heap hbk]; rfl
  have c2 : wb.cell? ⟨w.heap.size, 2, none⟩ = some (.int .i64 n) := by rw [Lib.cell_of_heap hbk]; rfl
  have c3 : wb.cell? ⟨w.heap.size, 3, none⟩ = some (.string word) := by rw [Lib.cell_of_heap hbk]; rfl
  have c4 : wb.cell? ⟨w.heap.size, 4, none⟩ = some (.slice A all.length c) := by rw [Lib.cell_of_heap hbk]; rfl
  have HB := Lib.hid hb
  have H25 := Lib.hid (And.intro h25a h25n)
  clear hsa hsn hb hbk h25a h25n ia inn
  go_enter Tryd.func21, Tryd.ntmps21
  go_upto_region 1 with (fail)
  try rw [hwb]
  clear hwb
  refine K.wp_region_grew (by kernel_rfl) (by kernel_rfl) ?_
  repeat (first
    | go_big_quiet_skip
    | (go_big_quiet_want; go_big_quiet_op; go_big_quiet_on)
    | (go_big_quiet_want; go_big_quiet_op; refine ⟨_, fun _ _ => rfl, ?_⟩; go_big_quiet_on)
    | (go_big_quiet_want; refine K.quiet_cell (v := ?_) ?_ _ _ rfl rfl ?_ ?_
       rotate_left
       · assumption
       · (intro w hw; go_simp)
       simp only [Act.put, List.setIfInBounds_toArray, List.set_cons_zero, List.set_cons_succ]
       go_big_quiet_on)
    | (go_big_quiet_want; refine K.quiet_load _ _ rfl _ rfl ?_ ?_ ?_
       rotate_left
       · assumption
       simp only [Act.put, List.setIfInBounds_toArray, List.set_cons_zero, List.set_cons_succ]
       go_big_quiet_on)
    | (go_big_quiet_want; go_big_quiet_op; apply Exists.intro
       refine ⟨fun w hw => ?_, ?_⟩
       · first | with_reducible exact quiet_of_none hw (H25.out.1 _) | with_reducible exact quiet_of_none hw (H25.out.2 _)
       go_big_quiet_on))
  refine wpQuiet_nil ?_
  intro w2 hw2
  have HW2 := Lib.hid hw2
  have z0 := hw2.cell c0
  have z3 := hw2.cell c3
  have z4 := hw2.cell c4
  clear hw2 c0 c1 c2 c3 c4
  go_wp2_with fail
  go_ret
  refine ⟨congrArg _ (HWR.out _ ?_), HB.out.trans (HW2.out.mono HB.out.size)⟩
  simp [written, HS.out.1, List.append_assoc]
set_option maxHeartbeats 8000000 in
set_option maxRecDepth 100000 in
theorem written_5 (at_ n : Int) (word : ByteArray) (all : List Int) (A : Option Addr) (c : Nat) (w : World) (ia : I64 at_) (inn : I64 n) (_hw : word.size ≤ 20) : Calls Tryd.prog 21 #[(⟨5, at_, n, word, all⟩ : Pi).v A c] w (NonePost (.string ⟨(written ⟨5, at_, n, word, all⟩).toArray⟩) w) := by
  unfold Pi.v
  have hwr : ∀ z : ByteArray, z.data.toList = written ⟨5, at_, n, word, all⟩ → (Value.string z) = .string ⟨(written ⟨5, at_, n, word, all⟩).toArray⟩ := fun z h => congrArg _ (str_eq h)
  have HWR := Lib.hid hwr
  clear hwr
  have hbk := K.heap_alloc_at w (.cells #[.int .i64 5, .int .i64 at_, .int .i64 n, .string word, .slice A all.length c] 41)
  have hb : Below w.heap.size w (w.alloc (.cells #[.int .i64 5, .int .i64 at_, .int .i64 n, .string word, .slice A all.length c] 41)) := (Below.refl _ w).alloc (Nat.le_refl _) _
  have h25a := dec_call at_ ia
  have h25n := dec_call n inn
  have la : (⟨(decs (nat at_)).toArray⟩ : ByteArray).size ≤ 20 := decs_20 (nat_le ia)
  have ln : (⟨(decs (nat n)).toArray⟩ : ByteArray).size ≤ 20 := decs_20 (nat_le inn)
  obtain ⟨sa, hsa⟩ : ∃ sa : ByteArray, (⟨(decs (nat at_)).toArray⟩ : ByteArray) = sa := ⟨_, rfl⟩
  obtain ⟨sn, hsn⟩ : ∃ sn : ByteArray, (⟨(decs (nat n)).toArray⟩ : ByteArray) = sn := ⟨_, rfl⟩
  rw [hsa] at h25a la
  rw [hsn] at h25n ln
  have HS := Lib.hid (show sa.data.toList = decs (nat at_) ∧ sn.data.toList = decs (nat n) from ⟨by rw [← hsa], by rw [← hsn]⟩)
  obtain ⟨wb, hwb⟩ : ∃ wb, w.alloc (.cells #[.int .i64 5, .int .i64 at_, .int .i64 n, .string word, .slice A all.length c] 41) = wb := ⟨_, rfl⟩
  rw [hwb] at hbk hb
  have c0 : wb.cell? ⟨w.heap.size, 0, none⟩ = some (.int .i64 5) := by rw [Lib.cell_of_heap hbk]; rfl
  have c1 : wb.cell? ⟨w.heap.size, 1, none⟩ = some (.int .i64 at_) := by rw [Lib.cell_of_heap hbk]; rfl
  have c2 : wb.cell? ⟨w.heap.size, 2, none⟩ = some (.int .i64 n) := by rw [Lib.cell_of_heap hbk]; rfl
  have c3 : wb.cell? ⟨w.heap.size, 3, none⟩ = some (.string word) := by rw [Lib.cell_of_heap hbk]; rfl
  have c4 : wb.cell? ⟨w.heap.size, 4, none⟩ = some (.slice A all.length c) := by rw [Lib.cell_of_heap hbk]; rfl
  have HB := Lib.hid hb
  have H25 := Lib.hid (And.intro h25a h25n)
  clear hsa hsn hb hbk h25a h25n ia inn
  go_enter Tryd.func21, Tryd.ntmps21
  go_upto_region 1 with (fail)
  try rw [hwb]
  clear hwb
  refine K.wp_region_grew (by kernel_rfl) (by kernel_rfl) ?_
  repeat (first
    | go_big_quiet_skip
    | (go_big_quiet_want; go_big_quiet_op; go_big_quiet_on)
    | (go_big_quiet_want; go_big_quiet_op; refine ⟨_, fun _ _ => rfl, ?_⟩; go_big_quiet_on)
    | (go_big_quiet_want; refine K.quiet_cell (v := ?_) ?_ _ _ rfl rfl ?_ ?_
       rotate_left
       · assumption
       · (intro w hw; go_simp)
       simp only [Act.put, List.setIfInBounds_toArray, List.set_cons_zero, List.set_cons_succ]
       go_big_quiet_on)
    | (go_big_quiet_want; refine K.quiet_load _ _ rfl _ rfl ?_ ?_ ?_
       rotate_left
       · assumption
       simp only [Act.put, List.setIfInBounds_toArray, List.set_cons_zero, List.set_cons_succ]
       go_big_quiet_on)
    | (go_big_quiet_want; go_big_quiet_op; apply Exists.intro
       refine ⟨fun w hw => ?_, ?_⟩
       · first | with_reducible exact quiet_of_none hw (H25.out.1 _) | with_reducible exact quiet_of_none hw (H25.out.2 _)
       go_big_quiet_on))
  refine wpQuiet_nil ?_
  intro w2 hw2
  have HW2 := Lib.hid hw2
  have z0 := hw2.cell c0
  have z3 := hw2.cell c3
  have z4 := hw2.cell c4
  clear hw2 c0 c1 c2 c3 c4
  go_wp2_with fail
  go_ret
  refine ⟨congrArg _ (HWR.out _ ?_), HB.out.trans (HW2.out.mono HB.out.size)⟩
  simp [written, HS.out.1, HS.out.2, List.append_assoc]
set_option maxHeartbeats 8000000 in
set_option maxRecDepth 100000 in
theorem written_6 (at_ n : Int) (word : ByteArray) (all : List Int) (A : Option Addr) (c : Nat) (w : World) (ia : I64 at_) (inn : I64 n) (_hw : word.size ≤ 20) : Calls Tryd.prog 21 #[(⟨6, at_, n, word, all⟩ : Pi).v A c] w (NonePost (.string ⟨(written ⟨6, at_, n, word, all⟩).toArray⟩) w) := by
  unfold Pi.v
  have hwr : ∀ z : ByteArray, z.data.toList = written ⟨6, at_, n, word, all⟩ → (Value.string z) = .string ⟨(written ⟨6, at_, n, word, all⟩).toArray⟩ := fun z h => congrArg _ (str_eq h)
  have HWR := Lib.hid hwr
  clear hwr
  have hbk := K.heap_alloc_at w (.cells #[.int .i64 6, .int .i64 at_, .int .i64 n, .string word, .slice A all.length c] 41)
  have hb : Below w.heap.size w (w.alloc (.cells #[.int .i64 6, .int .i64 at_, .int .i64 n, .string word, .slice A all.length c] 41)) := (Below.refl _ w).alloc (Nat.le_refl _) _
  have h25a := dec_call at_ ia
  have h25n := dec_call n inn
  have la : (⟨(decs (nat at_)).toArray⟩ : ByteArray).size ≤ 20 := decs_20 (nat_le ia)
  have ln : (⟨(decs (nat n)).toArray⟩ : ByteArray).size ≤ 20 := decs_20 (nat_le inn)
  obtain ⟨sa, hsa⟩ : ∃ sa : ByteArray, (⟨(decs (nat at_)).toArray⟩ : ByteArray) = sa := ⟨_, rfl⟩
  obtain ⟨sn, hsn⟩ : ∃ sn : ByteArray, (⟨(decs (nat n)).toArray⟩ : ByteArray) = sn := ⟨_, rfl⟩
  rw [hsa] at h25a la
  rw [hsn] at h25n ln
  have HS := Lib.hid (show sa.data.toList = decs (nat at_) ∧ sn.data.toList = decs (nat n) from ⟨by rw [← hsa], by rw [← hsn]⟩)
  obtain ⟨wb, hwb⟩ : ∃ wb, w.alloc (.cells #[.int .i64 6, .int .i64 at_, .int .i64 n, .string word, .slice A all.length c] 41) = wb := ⟨_, rfl⟩
  rw [hwb] at hbk hb
  have c0 : wb.cell? ⟨w.heap.size, 0, none⟩ = some (.int .i64 6) := by rw [Lib.cell_of_heap hbk]; rfl
  have c1 : wb.cell? ⟨w.heap.size, 1, none⟩ = some (.int .i64 at_) := by rw [Lib.cell_of_heap hbk]; rfl
  have c2 : wb.cell? ⟨w.heap.size, 2, none⟩ = some (.int .i64 n) := by rw [Lib.cell_of_heap hbk]; rfl
  have c3 : wb.cell? ⟨w.heap.size, 3, none⟩ = some (.string word) := by rw [Lib.cell_of_heap hbk]; rfl
  have c4 : wb.cell? ⟨w.heap.size, 4, none⟩ = some (.slice A all.length c) := by rw [Lib.cell_of_heap hbk]; rfl
  have HB := Lib.hid hb
  have H25 := Lib.hid (And.intro h25a h25n)
  clear hsa hsn hb hbk h25a h25n ia inn
  go_enter Tryd.func21, Tryd.ntmps21
  go_upto_region 1 with (fail)
  try rw [hwb]
  clear hwb
  refine K.wp_region_grew (by kernel_rfl) (by kernel_rfl) ?_
  repeat (first
    | go_big_quiet_skip
    | (go_big_quiet_want; go_big_quiet_op; go_big_quiet_on)
    | (go_big_quiet_want; go_big_quiet_op; refine ⟨_, fun _ _ => rfl, ?_⟩; go_big_quiet_on)
    | (go_big_quiet_want; refine K.quiet_cell (v := ?_) ?_ _ _ rfl rfl ?_ ?_
       rotate_left
       · assumption
       · (intro w hw; go_simp)
       simp only [Act.put, List.setIfInBounds_toArray, List.set_cons_zero, List.set_cons_succ]
       go_big_quiet_on)
    | (go_big_quiet_want; refine K.quiet_load _ _ rfl _ rfl ?_ ?_ ?_
       rotate_left
       · assumption
       simp only [Act.put, List.setIfInBounds_toArray, List.set_cons_zero, List.set_cons_succ]
       go_big_quiet_on)
    | (go_big_quiet_want; go_big_quiet_op; apply Exists.intro
       refine ⟨fun w hw => ?_, ?_⟩
       · first | with_reducible exact quiet_of_none hw (H25.out.1 _) | with_reducible exact quiet_of_none hw (H25.out.2 _)
       go_big_quiet_on))
  refine wpQuiet_nil ?_
  intro w2 hw2
  have HW2 := Lib.hid hw2
  have z0 := hw2.cell c0
  have z3 := hw2.cell c3
  have z4 := hw2.cell c4
  clear hw2 c0 c1 c2 c3 c4
  go_wp2_with fail
  go_ret
  refine ⟨congrArg _ (HWR.out _ ?_), HB.out.trans (HW2.out.mono HB.out.size)⟩
  simp [written, HS.out.1, HS.out.2, List.append_assoc]
set_option maxHeartbeats 8000000 in
set_option maxRecDepth 100000 in
theorem written_7 (at_ n : Int) (word : ByteArray) (all : List Int) (A : Option Addr) (c : Nat) (w : World) (ia : I64 at_) (inn : I64 n) (_hw : word.size ≤ 20) : Calls Tryd.prog 21 #[(⟨7, at_, n, word, all⟩ : Pi).v A c] w (NonePost (.string ⟨(written ⟨7, at_, n, word, all⟩).toArray⟩) w) := by
  unfold Pi.v
  have hwr : ∀ z : ByteArray, z.data.toList = written ⟨7, at_, n, word, all⟩ → (Value.string z) = .string ⟨(written ⟨7, at_, n, word, all⟩).toArray⟩ := fun z h => congrArg _ (str_eq h)
  have HWR := Lib.hid hwr
  clear hwr
  have hbk := K.heap_alloc_at w (.cells #[.int .i64 7, .int .i64 at_, .int .i64 n, .string word, .slice A all.length c] 41)
  have hb : Below w.heap.size w (w.alloc (.cells #[.int .i64 7, .int .i64 at_, .int .i64 n, .string word, .slice A all.length c] 41)) := (Below.refl _ w).alloc (Nat.le_refl _) _
  have h25a := dec_call at_ ia
  have h25n := dec_call n inn
  have la : (⟨(decs (nat at_)).toArray⟩ : ByteArray).size ≤ 20 := decs_20 (nat_le ia)
  have ln : (⟨(decs (nat n)).toArray⟩ : ByteArray).size ≤ 20 := decs_20 (nat_le inn)
  obtain ⟨sa, hsa⟩ : ∃ sa : ByteArray, (⟨(decs (nat at_)).toArray⟩ : ByteArray) = sa := ⟨_, rfl⟩
  obtain ⟨sn, hsn⟩ : ∃ sn : ByteArray, (⟨(decs (nat n)).toArray⟩ : ByteArray) = sn := ⟨_, rfl⟩
  rw [hsa] at h25a la
  rw [hsn] at h25n ln
  have HS := Lib.hid (show sa.data.toList = decs (nat at_) ∧ sn.data.toList = decs (nat n) from ⟨by rw [← hsa], by rw [← hsn]⟩)
  obtain ⟨wb, hwb⟩ : ∃ wb, w.alloc (.cells #[.int .i64 7, .int .i64 at_, .int .i64 n, .string word, .slice A all.length c] 41) = wb := ⟨_, rfl⟩
  rw [hwb] at hbk hb
  have c0 : wb.cell? ⟨w.heap.size, 0, none⟩ = some (.int .i64 7) := by rw [Lib.cell_of_heap hbk]; rfl
  have c1 : wb.cell? ⟨w.heap.size, 1, none⟩ = some (.int .i64 at_) := by rw [Lib.cell_of_heap hbk]; rfl
  have c2 : wb.cell? ⟨w.heap.size, 2, none⟩ = some (.int .i64 n) := by rw [Lib.cell_of_heap hbk]; rfl
  have c3 : wb.cell? ⟨w.heap.size, 3, none⟩ = some (.string word) := by rw [Lib.cell_of_heap hbk]; rfl
  have c4 : wb.cell? ⟨w.heap.size, 4, none⟩ = some (.slice A all.length c) := by rw [Lib.cell_of_heap hbk]; rfl
  have HB := Lib.hid hb
  have H25 := Lib.hid (And.intro h25a h25n)
  clear hsa hsn hb hbk h25a h25n ia inn
  go_enter Tryd.func21, Tryd.ntmps21
  go_upto_region 1 with (fail)
  try rw [hwb]
  clear hwb
  refine K.wp_region_grew (by kernel_rfl) (by kernel_rfl) ?_
  repeat (first
    | go_big_quiet_skip
    | (go_big_quiet_want; go_big_quiet_op; go_big_quiet_on)
    | (go_big_quiet_want; go_big_quiet_op; refine ⟨_, fun _ _ => rfl, ?_⟩; go_big_quiet_on)
    | (go_big_quiet_want; refine K.quiet_cell (v := ?_) ?_ _ _ rfl rfl ?_ ?_
       rotate_left
       · assumption
       · (intro w hw; go_simp)
       simp only [Act.put, List.setIfInBounds_toArray, List.set_cons_zero, List.set_cons_succ]
       go_big_quiet_on)
    | (go_big_quiet_want; refine K.quiet_load _ _ rfl _ rfl ?_ ?_ ?_
       rotate_left
       · assumption
       simp only [Act.put, List.setIfInBounds_toArray, List.set_cons_zero, List.set_cons_succ]
       go_big_quiet_on)
    | (go_big_quiet_want; go_big_quiet_op; apply Exists.intro
       refine ⟨fun w hw => ?_, ?_⟩
       · first | with_reducible exact quiet_of_none hw (H25.out.1 _) | with_reducible exact quiet_of_none hw (H25.out.2 _)
       go_big_quiet_on))
  refine wpQuiet_nil ?_
  intro w2 hw2
  have HW2 := Lib.hid hw2
  have z0 := hw2.cell c0
  have z3 := hw2.cell c3
  have z4 := hw2.cell c4
  clear hw2 c0 c1 c2 c3 c4
  go_wp2_with fail
  go_ret
  refine ⟨congrArg _ (HWR.out _ ?_), HB.out.trans (HW2.out.mono HB.out.size)⟩
  simp [written, HS.out.1, HS.out.2, List.append_assoc]
set_option maxHeartbeats 8000000 in
set_option maxRecDepth 100000 in
theorem written_8 (at_ n : Int) (word : ByteArray) (all : List Int) (A : Option Addr) (c : Nat) (w : World) (ia : I64 at_) (inn : I64 n) (_hw : word.size ≤ 20) : Calls Tryd.prog 21 #[(⟨8, at_, n, word, all⟩ : Pi).v A c] w (NonePost (.string ⟨(written ⟨8, at_, n, word, all⟩).toArray⟩) w) := by
  unfold Pi.v
  have hwr : ∀ z : ByteArray, z.data.toList = written ⟨8, at_, n, word, all⟩ → (Value.string z) = .string ⟨(written ⟨8, at_, n, word, all⟩).toArray⟩ := fun z h => congrArg _ (str_eq h)
  have HWR := Lib.hid hwr
  clear hwr
  have hbk := K.heap_alloc_at w (.cells #[.int .i64 8, .int .i64 at_, .int .i64 n, .string word, .slice A all.length c] 41)
  have hb : Below w.heap.size w (w.alloc (.cells #[.int .i64 8, .int .i64 at_, .int .i64 n, .string word, .slice A all.length c] 41)) := (Below.refl _ w).alloc (Nat.le_refl _) _
  have h25a := dec_call at_ ia
  have h25n := dec_call n inn
  have la : (⟨(decs (nat at_)).toArray⟩ : ByteArray).size ≤ 20 := decs_20 (nat_le ia)
  have ln : (⟨(decs (nat n)).toArray⟩ : ByteArray).size ≤ 20 := decs_20 (nat_le inn)
  obtain ⟨sa, hsa⟩ : ∃ sa : ByteArray, (⟨(decs (nat at_)).toArray⟩ : ByteArray) = sa := ⟨_, rfl⟩
  obtain ⟨sn, hsn⟩ : ∃ sn : ByteArray, (⟨(decs (nat n)).toArray⟩ : ByteArray) = sn := ⟨_, rfl⟩
  rw [hsa] at h25a la
  rw [hsn] at h25n ln
  have HS := Lib.hid (show sa.data.toList = decs (nat at_) ∧ sn.data.toList = decs (nat n) from ⟨by rw [← hsa], by rw [← hsn]⟩)
  obtain ⟨wb, hwb⟩ : ∃ wb, w.alloc (.cells #[.int .i64 8, .int .i64 at_, .int .i64 n, .string word, .slice A all.length c] 41) = wb := ⟨_, rfl⟩
  rw [hwb] at hbk hb
  have c0 : wb.cell? ⟨w.heap.size, 0, none⟩ = some (.int .i64 8) := by rw [Lib.cell_of_heap hbk]; rfl
  have c1 : wb.cell? ⟨w.heap.size, 1, none⟩ = some (.int .i64 at_) := by rw [Lib.cell_of_heap hbk]; rfl
  have c2 : wb.cell? ⟨w.heap.size, 2, none⟩ = some (.int .i64 n) := by rw [Lib.cell_of_heap hbk]; rfl
  have c3 : wb.cell? ⟨w.heap.size, 3, none⟩ = some (.string word) := by rw [Lib.cell_of_heap hbk]; rfl
  have c4 : wb.cell? ⟨w.heap.size, 4, none⟩ = some (.slice A all.length c) := by rw [Lib.cell_of_heap hbk]; rfl
  have HB := Lib.hid hb
  have H25 := Lib.hid (And.intro h25a h25n)
  clear hsa hsn hb hbk h25a h25n ia inn
  go_enter Tryd.func21, Tryd.ntmps21
  go_upto_region 1 with (fail)
  try rw [hwb]
  clear hwb
  refine K.wp_region_grew (by kernel_rfl) (by kernel_rfl) ?_
  repeat (first
    | go_big_quiet_skip
    | (go_big_quiet_want; go_big_quiet_op; go_big_quiet_on)
    | (go_big_quiet_want; go_big_quiet_op; refine ⟨_, fun _ _ => rfl, ?_⟩; go_big_quiet_on)
    | (go_big_quiet_want; refine K.quiet_cell (v := ?_) ?_ _ _ rfl rfl ?_ ?_
       rotate_left
       · assumption
       · (intro w hw; go_simp)
       simp only [Act.put, List.setIfInBounds_toArray, List.set_cons_zero, List.set_cons_succ]
       go_big_quiet_on)
    | (go_big_quiet_want; refine K.quiet_load _ _ rfl _ rfl ?_ ?_ ?_
       rotate_left
       · assumption
       simp only [Act.put, List.setIfInBounds_toArray, List.set_cons_zero, List.set_cons_succ]
       go_big_quiet_on)
    | (go_big_quiet_want; go_big_quiet_op; apply Exists.intro
       refine ⟨fun w hw => ?_, ?_⟩
       · first | with_reducible exact quiet_of_none hw (H25.out.1 _) | with_reducible exact quiet_of_none hw (H25.out.2 _)
       go_big_quiet_on))
  refine wpQuiet_nil ?_
  intro w2 hw2
  have HW2 := Lib.hid hw2
  have z0 := hw2.cell c0
  have z3 := hw2.cell c3
  have z4 := hw2.cell c4
  clear hw2 c0 c1 c2 c3 c4
  go_wp2_with fail
  go_ret
  refine ⟨congrArg _ (HWR.out _ ?_), HB.out.trans (HW2.out.mono HB.out.size)⟩
  simp [written, HS.out.1, HS.out.2, List.append_assoc]
set_option maxHeartbeats 8000000 in
set_option maxRecDepth 100000 in
theorem written_9 (at_ n : Int) (word : ByteArray) (all : List Int) (A : Option Addr) (c : Nat) (w : World) (ia : I64 at_) (inn : I64 n) (_hw : word.size ≤ 20) : Calls Tryd.prog 21 #[(⟨9, at_, n, word, all⟩ : Pi).v A c] w (NonePost (.string ⟨(written ⟨9, at_, n, word, all⟩).toArray⟩) w) := by
  unfold Pi.v
  have hwr : ∀ z : ByteArray, z.data.toList = written ⟨9, at_, n, word, all⟩ → (Value.string z) = .string ⟨(written ⟨9, at_, n, word, all⟩).toArray⟩ := fun z h => congrArg _ (str_eq h)
  have HWR := Lib.hid hwr
  clear hwr
  have hbk := K.heap_alloc_at w (.cells #[.int .i64 9, .int .i64 at_, .int .i64 n, .string word, .slice A all.length c] 41)
  have hb : Below w.heap.size w (w.alloc (.cells #[.int .i64 9, .int .i64 at_, .int .i64 n, .string word, .slice A all.length c] 41)) := (Below.refl _ w).alloc (Nat.le_refl _) _
  have h25a := dec_call at_ ia
  have h25n := dec_call n inn
  have la : (⟨(decs (nat at_)).toArray⟩ : ByteArray).size ≤ 20 := decs_20 (nat_le ia)
  have ln : (⟨(decs (nat n)).toArray⟩ : ByteArray).size ≤ 20 := decs_20 (nat_le inn)
  obtain ⟨sa, hsa⟩ : ∃ sa : ByteArray, (⟨(decs (nat at_)).toArray⟩ : ByteArray) = sa := ⟨_, rfl⟩
  obtain ⟨sn, hsn⟩ : ∃ sn : ByteArray, (⟨(decs (nat n)).toArray⟩ : ByteArray) = sn := ⟨_, rfl⟩
  rw [hsa] at h25a la
  rw [hsn] at h25n ln
  have HS := Lib.hid (show sa.data.toList = decs (nat at_) ∧ sn.data.toList = decs (nat n) from ⟨by rw [← hsa], by rw [← hsn]⟩)
  obtain ⟨wb, hwb⟩ : ∃ wb, w.alloc (.cells #[.int .i64 9, .int .i64 at_, .int .i64 n, .string word, .slice A all.length c] 41) = wb := ⟨_, rfl⟩
  rw [hwb] at hbk hb
  have c0 : wb.cell? ⟨w.heap.size, 0, none⟩ = some (.int .i64 9) := by rw [Lib.cell_of_heap hbk]; rfl
  have c1 : wb.cell? ⟨w.heap.size, 1, none⟩ = some (.int .i64 at_) := by rw [Lib.cell_of_heap hbk]; rfl
  have c2 : wb.cell? ⟨w.heap.size, 2, none⟩ = some (.int .i64 n) := by rw [Lib.cell_of_heap hbk]; rfl
  have c3 : wb.cell? ⟨w.heap.size, 3, none⟩ = some (.string word) := by rw [Lib.cell_of_heap hbk]; rfl
  have c4 : wb.cell? ⟨w.heap.size, 4, none⟩ = some (.slice A all.length c) := by rw [Lib.cell_of_heap hbk]; rfl
  have HB := Lib.hid hb
  have H25 := Lib.hid (And.intro h25a h25n)
  clear hsa hsn hb hbk h25a h25n ia inn
  go_enter Tryd.func21, Tryd.ntmps21
  go_upto_region 1 with (fail)
  try rw [hwb]
  clear hwb
  refine K.wp_region_grew (by kernel_rfl) (by kernel_rfl) ?_
  repeat (first
    | go_big_quiet_skip
    | (go_big_quiet_want; go_big_quiet_op; go_big_quiet_on)
    | (go_big_quiet_want; go_big_quiet_op; refine ⟨_, fun _ _ => rfl, ?_⟩; go_big_quiet_on)
    | (go_big_quiet_want; refine K.quiet_cell (v := ?_) ?_ _ _ rfl rfl ?_ ?_
       rotate_left
       · assumption
       · (intro w hw; go_simp)
       simp only [Act.put, List.setIfInBounds_toArray, List.set_cons_zero, List.set_cons_succ]
       go_big_quiet_on)
    | (go_big_quiet_want; refine K.quiet_load _ _ rfl _ rfl ?_ ?_ ?_
       rotate_left
       · assumption
       simp only [Act.put, List.setIfInBounds_toArray, List.set_cons_zero, List.set_cons_succ]
       go_big_quiet_on)
    | (go_big_quiet_want; go_big_quiet_op; apply Exists.intro
       refine ⟨fun w hw => ?_, ?_⟩
       · first | with_reducible exact quiet_of_none hw (H25.out.1 _) | with_reducible exact quiet_of_none hw (H25.out.2 _)
       go_big_quiet_on))
  refine wpQuiet_nil ?_
  intro w2 hw2
  have HW2 := Lib.hid hw2
  have z0 := hw2.cell c0
  have z3 := hw2.cell c3
  have z4 := hw2.cell c4
  clear hw2 c0 c1 c2 c3 c4
  go_wp2_with fail
  go_ret
  refine ⟨congrArg _ (HWR.out _ ?_), HB.out.trans (HW2.out.mono HB.out.size)⟩
  simp [written, HS.out.1, HS.out.2, List.append_assoc]
set_option maxHeartbeats 8000000 in
set_option maxRecDepth 100000 in
theorem written_10 (at_ n : Int) (word : ByteArray) (all : List Int) (A : Option Addr) (c : Nat) (w : World) (ia : I64 at_) (inn : I64 n) (_hw : word.size ≤ 20) : Calls Tryd.prog 21 #[(⟨10, at_, n, word, all⟩ : Pi).v A c] w (NonePost (.string ⟨(written ⟨10, at_, n, word, all⟩).toArray⟩) w) := by
  unfold Pi.v
  have hwr : ∀ z : ByteArray, z.data.toList = written ⟨10, at_, n, word, all⟩ → (Value.string z) = .string ⟨(written ⟨10, at_, n, word, all⟩).toArray⟩ := fun z h => congrArg _ (str_eq h)
  have HWR := Lib.hid hwr
  clear hwr
  have hbk := K.heap_alloc_at w (.cells #[.int .i64 10, .int .i64 at_, .int .i64 n, .string word, .slice A all.length c] 41)
  have hb : Below w.heap.size w (w.alloc (.cells #[.int .i64 10, .int .i64 at_, .int .i64 n, .string word, .slice A all.length c] 41)) := (Below.refl _ w).alloc (Nat.le_refl _) _
  have h25a := dec_call at_ ia
  have h25n := dec_call n inn
  have la : (⟨(decs (nat at_)).toArray⟩ : ByteArray).size ≤ 20 := decs_20 (nat_le ia)
  have ln : (⟨(decs (nat n)).toArray⟩ : ByteArray).size ≤ 20 := decs_20 (nat_le inn)
  obtain ⟨sa, hsa⟩ : ∃ sa : ByteArray, (⟨(decs (nat at_)).toArray⟩ : ByteArray) = sa := ⟨_, rfl⟩
  obtain ⟨sn, hsn⟩ : ∃ sn : ByteArray, (⟨(decs (nat n)).toArray⟩ : ByteArray) = sn := ⟨_, rfl⟩
  rw [hsa] at h25a la
  rw [hsn] at h25n ln
  have HS := Lib.hid (show sa.data.toList = decs (nat at_) ∧ sn.data.toList = decs (nat n) from ⟨by rw [← hsa], by rw [← hsn]⟩)
  obtain ⟨wb, hwb⟩ : ∃ wb, w.alloc (.cells #[.int .i64 10, .int .i64 at_, .int .i64 n, .string word, .slice A all.length c] 41) = wb := ⟨_, rfl⟩
  rw [hwb] at hbk hb
  have c0 : wb.cell? ⟨w.heap.size, 0, none⟩ = some (.int .i64 10) := by rw [Lib.cell_of_heap hbk]; rfl
  have c1 : wb.cell? ⟨w.heap.size, 1, none⟩ = some (.int .i64 at_) := by rw [Lib.cell_of_heap hbk]; rfl
  have c2 : wb.cell? ⟨w.heap.size, 2, none⟩ = some (.int .i64 n) := by rw [Lib.cell_of_heap hbk]; rfl
  have c3 : wb.cell? ⟨w.heap.size, 3, none⟩ = some (.string word) := by rw [Lib.cell_of_heap hbk]; rfl
  have c4 : wb.cell? ⟨w.heap.size, 4, none⟩ = some (.slice A all.length c) := by rw [Lib.cell_of_heap hbk]; rfl
  have HB := Lib.hid hb
  have H25 := Lib.hid (And.intro h25a h25n)
  clear hsa hsn hb hbk h25a h25n ia inn
  go_enter Tryd.func21, Tryd.ntmps21
  go_upto_region 1 with (fail)
  try rw [hwb]
  clear hwb
  refine K.wp_region_grew (by kernel_rfl) (by kernel_rfl) ?_
  repeat (first
    | go_big_quiet_skip
    | (go_big_quiet_want; go_big_quiet_op; go_big_quiet_on)
    | (go_big_quiet_want; go_big_quiet_op; refine ⟨_, fun _ _ => rfl, ?_⟩; go_big_quiet_on)
    | (go_big_quiet_want; refine K.quiet_cell (v := ?_) ?_ _ _ rfl rfl ?_ ?_
       rotate_left
       · assumption
       · (intro w hw; go_simp)
       simp only [Act.put, List.setIfInBounds_toArray, List.set_cons_zero, List.set_cons_succ]
       go_big_quiet_on)
    | (go_big_quiet_want; refine K.quiet_load _ _ rfl _ rfl ?_ ?_ ?_
       rotate_left
       · assumption
       simp only [Act.put, List.setIfInBounds_toArray, List.set_cons_zero, List.set_cons_succ]
       go_big_quiet_on)
    | (go_big_quiet_want; go_big_quiet_op; apply Exists.intro
       refine ⟨fun w hw => ?_, ?_⟩
       · first | with_reducible exact quiet_of_none hw (H25.out.1 _) | with_reducible exact quiet_of_none hw (H25.out.2 _)
       go_big_quiet_on))
  refine wpQuiet_nil ?_
  intro w2 hw2
  have HW2 := Lib.hid hw2
  have z0 := hw2.cell c0
  have z3 := hw2.cell c3
  have z4 := hw2.cell c4
  clear hw2 c0 c1 c2 c3 c4
  go_wp2_with fail
  go_ret
  refine ⟨congrArg _ (HWR.out _ ?_), HB.out.trans (HW2.out.mono HB.out.size)⟩
  simp [written, HS.out.1, HS.out.2, List.append_assoc]
set_option maxHeartbeats 8000000 in
set_option maxRecDepth 100000 in
theorem written_3 (at_ n : Int) (word : ByteArray) (all : List Int) (A : Option Addr) (c : Nat) (w : World) (ia : I64 at_) (inn : I64 n) (_hw : word.size ≤ 20) (hl : all.length ≤ 5) (hz : ∀ k ∈ all, I64 k) (hL : K.Lies w A all.length (K.nums .i64 all)) : Calls Tryd.prog 21 #[(⟨3, at_, n, word, all⟩ : Pi).v A c] w (NonePost (.string ⟨(written ⟨3, at_, n, word, all⟩).toArray⟩) w) := by
  unfold Pi.v
  have hwr : ∀ z : ByteArray, z.data.toList = written ⟨3, at_, n, word, all⟩ → (Value.string z) = .string ⟨(written ⟨3, at_, n, word, all⟩).toArray⟩ := fun z h => congrArg _ (str_eq h)
  have HWR := Lib.hid hwr
  clear hwr
  have hbk := K.heap_alloc_at w (.cells #[.int .i64 3, .int .i64 at_, .int .i64 n, .string word, .slice A all.length c] 41)
  have hb : Below w.heap.size w (w.alloc (.cells #[.int .i64 3, .int .i64 at_, .int .i64 n, .string word, .slice A all.length c] 41)) := (Below.refl _ w).alloc (Nat.le_refl _) _
  have h25a := dec_call at_ ia
  have h25n := dec_call n inn
  have la : (⟨(decs (nat at_)).toArray⟩ : ByteArray).size ≤ 20 := decs_20 (nat_le ia)
  have ln : (⟨(decs (nat n)).toArray⟩ : ByteArray).size ≤ 20 := decs_20 (nat_le inn)
  obtain ⟨sa, hsa⟩ : ∃ sa : ByteArray, (⟨(decs (nat at_)).toArray⟩ : ByteArray) = sa := ⟨_, rfl⟩
  obtain ⟨sn, hsn⟩ : ∃ sn : ByteArray, (⟨(decs (nat n)).toArray⟩ : ByteArray) = sn := ⟨_, rfl⟩
  rw [hsa] at h25a la
  rw [hsn] at h25n ln
  have HS := Lib.hid (show sa.data.toList = decs (nat at_) ∧ sn.data.toList = decs (nat n) from ⟨by rw [← hsa], by rw [← hsn]⟩)
  obtain ⟨wb, hwb⟩ : ∃ wb, w.alloc (.cells #[.int .i64 3, .int .i64 at_, .int .i64 n, .string word, .slice A all.length c] 41) = wb := ⟨_, rfl⟩
  rw [hwb] at hbk hb
  have c0 : wb.cell? ⟨w.heap.size, 0, none⟩ = some (.int .i64 3) := by rw [Lib.cell_of_heap hbk]; rfl
  have c1 : wb.cell? ⟨w.heap.size, 1, none⟩ = some (.int .i64 at_) := by rw [Lib.cell_of_heap hbk]; rfl
  have c2 : wb.cell? ⟨w.heap.size, 2, none⟩ = some (.int .i64 n) := by rw [Lib.cell_of_heap hbk]; rfl
  have c3 : wb.cell? ⟨w.heap.size, 3, none⟩ = some (.string word) := by rw [Lib.cell_of_heap hbk]; rfl
  have c4 : wb.cell? ⟨w.heap.size, 4, none⟩ = some (.slice A all.length c) := by rw [Lib.cell_of_heap hbk]; rfl
  have HB := Lib.hid hb
  have H25 := Lib.hid (And.intro h25a h25n)
  clear hsa hsn hb hbk h25a h25n ia inn
  have HL := Lib.hid (And.intro (hL.below HB.out (Nat.le_refl _)) hz)
  clear hL hz
  go_enter Tryd.func21, Tryd.ntmps21
  go_upto_region 1 with (fail)
  try rw [hwb]
  clear hwb
  refine K.wp_region_grew (by kernel_rfl) (by kernel_rfl) ?_
  repeat (first
    | go_big_quiet_skip
    | (go_big_quiet_want; go_big_quiet_op; go_big_quiet_on)
    | (go_big_quiet_want; go_big_quiet_op; refine ⟨_, fun _ _ => rfl, ?_⟩; go_big_quiet_on)
    | (go_big_quiet_want; refine K.quiet_cell (v := ?_) ?_ _ _ rfl rfl ?_ ?_
       rotate_left
       · assumption
       · (intro w hw; go_simp)
       simp only [Act.put, List.setIfInBounds_toArray, List.set_cons_zero, List.set_cons_succ]
       go_big_quiet_on)
    | (go_big_quiet_want; refine K.quiet_load _ _ rfl _ rfl ?_ ?_ ?_
       rotate_left
       · assumption
       simp only [Act.put, List.setIfInBounds_toArray, List.set_cons_zero, List.set_cons_succ]
       go_big_quiet_on)
    | (go_big_quiet_want; go_big_quiet_op; apply Exists.intro
       refine ⟨fun w hw => ?_, ?_⟩
       · first | with_reducible exact quiet_of_none hw (H25.out.1 _) | with_reducible exact quiet_of_none hw (H25.out.2 _)
       go_big_quiet_on))
  refine wpQuiet_nil ?_
  intro w2 hw2
  have HW2 := Lib.hid hw2
  have z0 := hw2.cell c0
  have z3 := hw2.cell c3
  have z4 := hw2.cell c4
  clear hw2 c0 c1 c2 c3 c4
  have s12 : (⟨#[123, 123, 112, 97, 114, 116, 105, 116, 105, 111, 110, 40]⟩ : ByteArray).size = 12 := rfl
  have HP := Lib.hid s12
  clear s12
  go_upto_region 10 with (fail)
  go_loopg [5, 34] all.length (fun gk tv i wr => ∃ (k : Nat) (t : ByteArray), gk + k = all.length ∧ i = .int .i64 k ∧ tv = .string t ∧ t.size ≤ 40 + 30 * k ∧ Hid (Below w2.heap.size w2 wr ∧ t.data.toList = [123, 123, 112, 97, 114, 116, 105, 116, 105, 111, 110, 40] ++ decs (nat n) ++ ((all.take k).map fun k => 44 :: decs (nat k)).flatten))
  case atStart => exact ⟨0, ⟨#[123, 123, 112, 97, 114, 116, 105, 116, 105, 111, 110, 40]⟩ ++ sn, by omega, rfl, rfl, by rw [ByteArray.size_append, HP.out]; omega, Lib.hid ⟨Below.refl _ _, by rw [K.bapp, HS.out.2]; simp⟩⟩
  case round =>
    obtain ⟨k, t, hgk, rfl, rfl, hts, HR⟩ := hrel
    by_cases hlt : k < all.length
    · obtain ⟨ab, ao, rfl, hab, hcs⟩ := HL.out.1 (by omega)
      have cz : wr.cell? ⟨ab, ao + k, none⟩ = some (.int .i64 (all.getD k 0)) := by
        have h1 := ((show Below wb.heap.size wb w2 from HW2.out).cell (p := ⟨ab, ao + k, none⟩) hab).trans (hcs k hlt)
        exact (HR.out.1.cell (p := ⟨ab, ao + k, none⟩) (Nat.lt_of_lt_of_le hab HW2.out.size)).trans h1
      have htk : all.take (k + 1) = all.take k ++ [all.getD k 0] := by
        rw [List.take_succ_eq_append_getElem hlt]
        simp [List.getD, hlt]
      have hzk := HL.out.2 (all.getD k 0) (by rw [List.getD, List.getElem?_eq_getElem hlt]; exact List.getElem_mem hlt)
      have HT := Lib.hid htk
      clear hcs htk
      generalize all.getD k 0 = z at cz HT hzk
      have h25 := dec_call z hzk wr
      have lz : (⟨(decs (nat z)).toArray⟩ : ByteArray).size ≤ 20 := decs_20 (nat_le hzk)
      obtain ⟨sz, hsz⟩ : ∃ sz : ByteArray, (⟨(decs (nat z)).toArray⟩ : ByteArray) = sz := ⟨_, rfl⟩
      rw [hsz] at h25 lz
      have HZ := Lib.hid (show sz.data.toList = decs (nat z) from by rw [← hsz])
      have s1 : (⟨#[44]⟩ : ByteArray).size = 1 := rfl
      have HS1 := Lib.hid s1
      have HGK := Lib.hid hgk
      have hk5 : k ≤ 5 := by omega
      clear hsz hzk s1 hgk
      go_wp2_with fail
      refine h25.mono ?_
      rintro e w3 ⟨rfl, hb3⟩
      have HB3 := Lib.hid (HR.out.1.trans (hb3.mono HR.out.1.size))
      clear h25 hb3
      go_wp2_with fail
      go_roundg (gk - 1)
      case measure => have := HGK.out; omega
      case rel =>
        refine ⟨k + 1, t ++ (⟨#[44]⟩ ++ sz), by have := HGK.out; omega, by go_num, rfl, by rw [ByteArray.size_append, ByteArray.size_append, HS1.out]; omega, Lib.hid ⟨HB3.out, ?_⟩⟩
        rw [K.bapp, K.bapp, HR.out.2, HT.out, comma44, HZ.out, List.map_append, List.flatten_append]
        simp
    · obtain rfl : k = all.length := by omega
      have htk : all.take all.length = all := List.take_length
      have h9 := HR.out.2
      rw [htk] at h9
      have H9 := Lib.hid h9
      clear h9 htk
      go_wp2_with fail
      go_ret
      refine ⟨congrArg _ (HWR.out _ ?_), HB.out.trans ((HW2.out.trans (HR.out.1.mono HW2.out.size)).mono HB.out.size)⟩
      rw [K.bapp, H9.out]
      simp [written, List.append_assoc]
/-- a piece's numbers are whole numbers of 64 bits -/
structure Pi.Wf (p : Pi) : Prop where
  a : I64 p.at_
  n : I64 p.n
  l : ∀ k ∈ p.all, I64 k
theorem written_any (p : Pi) (A : Option Addr) (c : Nat) (w : World) (hp : p.Sm) (hf : p.Wf) (hL : K.Lies w A p.all.length (K.nums .i64 p.all)) : Calls Tryd.prog 21 #[p.v A c] w (NonePost (.string ⟨(written p).toArray⟩) w) := by
  obtain ⟨fn, at_, n, word, all⟩ := p
  obtain ⟨f0, f1, al, wl⟩ := hp
  obtain ⟨g1, g2, g3⟩ := hf
  simp only at f0 f1 al wl hL g1 g2 g3
  have hf : fn = 0 ∨ fn = 1 ∨ fn = 2 ∨ fn = 3 ∨ fn = 4 ∨ fn = 5 ∨ fn = 6 ∨ fn = 7 ∨ fn = 8 ∨ fn = 9 ∨ fn = 10 := by omega
  rcases hf with rfl | rfl | rfl | rfl | rfl | rfl | rfl | rfl | rfl | rfl | rfl
  · exact written_0 at_ n word all A c w g1 g2 wl
  · exact written_1 at_ n word all A c w g1 g2 wl
  · exact written_2 at_ n word all A c w g1 g2 wl
  · exact written_3 at_ n word all A c w g1 g2 wl al g3 hL
  · exact written_4 at_ n word all A c w g1 g2 wl
  · exact written_5 at_ n word all A c w g1 g2 wl
  · exact written_6 at_ n word all A c w g1 g2 wl
  · exact written_7 at_ n word all A c w g1 g2 wl
  · exact written_8 at_ n word all A c w g1 g2 wl
  · exact written_9 at_ n word all A c w g1 g2 wl
  · exact written_10 at_ n word all A c w g1 g2 wl
end Go.Proofs.YtocfcajafkkhdaaDoor
