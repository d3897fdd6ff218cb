/-
  Small functions of the reader: an error, a status, a close message, what is kept.
-/
import Derived.Test.YtkkedekgniffoaaDoorGt
namespace Go.Proofs.YtkkedekgniffoaaDoor
open Go.RowKit

def ErrPost (w : World) (e : Ending) (w' : World) : Prop := ∃ te ve, e = .returned (.iface te ve) ∧ Below w.heap.size w w'

set_option maxRecDepth 100000 in
theorem new_any (s : ByteArray) (w : World) : Calls Tryd.prog 30 #[.string s] w (ErrPost w) := by
  go_enter Tryd.func30, Tryd.ntmps30
  go_wp2_with fail
  go_ret
  exact ⟨_, _, rfl, Below.alloc (Below.refl _ w) (Nat.le_refl _) _⟩

set_option maxRecDepth 100000 in
theorem perr_any (C : Value) (s : ByteArray) (w : World) : Calls Tryd.prog 23 #[C, .string s] w (ErrPost w) := by
  go_enter Tryd.func23, Tryd.ntmps23
  go_wp2_with fail
  refine (new_any s w).mono ?_
  rintro e w' ⟨te, ve, rfl, hb⟩
  have HB := Lib.hid hb
  clear hb
  go_wp2_with fail
  go_ret
  exact ⟨te, ve, rfl, HB.out⟩

set_option maxRecDepth 100000 in
theorem isctl_any (op : Nat) (w : World) : Calls Tryd.prog 27 #[.int .i64 op] w (fun e w' => e = .returned (.bool (decide (8 ≤ op))) ∧ w' = w) := by
  by_cases h : 8 ≤ op
  · have h1 : (8 : Int) ≤ (op : Int) := by omega
    go_enter Tryd.func27, Tryd.ntmps27
    go_wp2_with fail
    go_ret
    exact ⟨by simp [h], rfl⟩
  · have h1 : ¬ (8 : Int) ≤ (op : Int) := by omega
    go_enter Tryd.func27, Tryd.ntmps27
    go_wp2_with fail
    go_ret
    exact ⟨rfl, rfl⟩

set_option maxHeartbeats 1000000 in
set_option maxRecDepth 100000 in
theorem valid_any (n : Nat) (w : World) : Calls Tryd.prog 31 #[.int .i64 n] w (fun e w' => e = .returned (.bool (Fr.okStatus n)) ∧ w' = w) := by
  have hv : ∀ b : Bool, (Fr.okStatus n = b) → (Calls Tryd.prog 31 #[.int .i64 n] w (fun e w' => e = .returned (.bool b) ∧ w' = w)) → Calls Tryd.prog 31 #[.int .i64 n] w (fun e w' => e = .returned (.bool (Fr.okStatus n)) ∧ w' = w) := fun b h1 h2 => by rw [h1]; exact h2
  by_cases h1 : n = 1005 ∨ n = 1004 ∨ n = 1006 ∨ n = 1015
  · refine hv false (by unfold Fr.okStatus; simp; omega) ?_
    rcases h1 with rfl | rfl | rfl | rfl
    all_goals
      go_enter Tryd.func31, Tryd.ntmps31
      go_wp2_with fail
      go_ret
      exact ⟨rfl, rfl⟩
  · have a1 : ¬ ((n : Int) = 1005) := by omega
    have a2 : ¬ ((n : Int) = 1004) := by omega
    have a3 : ¬ ((n : Int) = 1006) := by omega
    have a4 : ¬ ((n : Int) = 1015) := by omega
    by_cases h2 : n < 1000
    · refine hv false (by unfold Fr.okStatus; simp; omega) ?_
      have b1 : (n : Int) < 1000 := by omega
      go_enter Tryd.func31, Tryd.ntmps31
      go_wp2_with fail
      go_ret
      exact ⟨rfl, rfl⟩
    · have b1 : ¬ ((n : Int) < 1000) := by omega
      by_cases h3 : 5000 ≤ n
      · refine hv false (by unfold Fr.okStatus; simp; omega) ?_
        have b2 : (5000 : Int) ≤ (n : Int) := by omega
        go_enter Tryd.func31, Tryd.ntmps31
        go_wp2_with fail
        go_ret
        exact ⟨rfl, rfl⟩
      · have b2 : ¬ ((5000 : Int) ≤ (n : Int)) := by omega
        by_cases h4 : 1016 ≤ n
        · have b3 : (1016 : Int) ≤ (n : Int) := by omega
          by_cases h5 : n ≤ 2999
          · refine hv false (by unfold Fr.okStatus; simp; omega) ?_
            have b4 : (n : Int) ≤ 2999 := by omega
            go_enter Tryd.func31, Tryd.ntmps31
            go_wp2_with fail
            go_ret
            exact ⟨rfl, rfl⟩
          · refine hv true (by unfold Fr.okStatus; simp; omega) ?_
            have b4 : ¬ ((n : Int) ≤ 2999) := by omega
            go_enter Tryd.func31, Tryd.ntmps31
            go_wp2_with fail
            go_ret
            exact ⟨rfl, rfl⟩
        · refine hv true (by unfold Fr.okStatus; simp; omega) ?_
          have b3 : ¬ ((1016 : Int) ≤ (n : Int)) := by omega
          go_enter Tryd.func31, Tryd.ntmps31
          go_wp2_with fail
          go_ret
          exact ⟨rfl, rfl⟩

theorem FRow.set {w : World} {g : Nat} {l : List UInt8} (h : FRow w g l) (j : Nat) (c : UInt8) : FRow (w.setCell ⟨g, j, none⟩ (.int .u8 c.toNat)) g (l.set j c) := by
  unfold FRow at *
  rw [K.heap_setCell_at h]
  simp [bv, List.map_set]
theorem FRow.sets {g : Nat} : ∀ (r : List UInt8) (w : World) (l : List UInt8) (o : Nat), FRow w g l → FRow (w.setCells g o (Lib.byteCells r)) g (sets l o r)
  | [], _, _, _, h => h
  | c :: r, _, _, o, h => FRow.sets r _ _ (o + 1) (h.set o c)
theorem sets_length : ∀ (r : List UInt8) (l : List UInt8) (o : Nat), (sets l o r).length = l.length
  | [], _, _ => rfl
  | c :: r, l, o => by rw [sets, sets_length r]; simp
theorem conv50 (w : World) (s : ByteArray) : (convert 9 50 (.string s)).run Tryd.prog w = .ok (.slice (some ⟨w.heap.size, 0, none⟩) s.size (grownCap w s.size 0 5)) (Lib.bytesWorld w 5 s) :=
  Lib.run_convert_string_bytes w 9 50 5 s Tryd.underlying9 Tryd.underlying50 Tryd.underlying5
theorem below50 {B : Nat} (w : World) (h : B ≤ w.heap.size) (s : ByteArray) : Below B w (Lib.bytesWorld w 5 s) := Below.mono (Lib.bytesWorld_below w 5 s) h

set_option maxHeartbeats 2000000 in
set_option maxRecDepth 100000 in
/-- a close message: it is made and thrown away -/
theorem msg_any (st : Nat) (s : ByteArray) (w : World) (hs : s.size ≤ 123) (hst : st < 65536) : Calls Tryd.prog 33 #[.int .i64 st, .string s] w (fun e w' => (∃ v, e = .returned v ∧ ∃ a n c, v = .slice a n c) ∧ Below w.heap.size w w') := by
  obtain ⟨i0, hi0, hz0, hz1, hz2⟩ := info_parts info5
  have HI0 := Lib.hid hi0
  have HI1 := Lib.hid hz0
  have HI2 := Lib.hid hz1
  have HI3 := Lib.hid hz2
  clear hi0 hz0 hz1 hz2
  have hsz : ¬ ((123 : Int) < (s.size : Int)) := by omega
  go_enter Tryd.func33, Tryd.ntmps33
  go_wp2_with (at_make; refine wpList_make_full _ rfl _ _ 50 rfl w.heap.size 5 i0 (.int .u8 0) 1 Tryd.underlying50 HI0.out HI1.out HI2.out .i64 .i64 _ _ (2 + s.size) rfl rfl rfl rfl (by rw [HI3.out]; omega) (by unfold maxLen; omega) (Nat.le_refl _) ?_; intro w1 hown1 hgrow1; have HF1 := Lib.hid (frow_made hown1); have HG1 := Lib.hid hgrow1; clear hown1 hgrow1)
  have hw16 : IntKind.u16.wrap (st : Int) = (st : Int) := IntWalk.u16_in _ (by omega)
  have h2 : (2 : Int) ≤ 2 + (s.size : Int) := by omega
  have HC : Hid (∀ (w' : World), w'.heap = w1.heap → Calls Tryd.prog 37 #[.agg #[], .slice (some ⟨w.heap.size, 0, none⟩) 2 (2 + s.size), .int .u16 st] w' fun e w3 => e = .returned (.tuple #[]) ∧ w3 = (w'.alloc (.cells #[] 80)).setCells w.heap.size 0 (Lib.byteCells (Lib.beBytes 2 st))) := by
    refine Lib.hid fun w' hw => ?_
    have hf : FRow w' w.heap.size (List.replicate (2 + s.size) 0) := HF1.out.at (by rw [hw])
    exact Tryd.binary_BE_PutUint16 w.heap.size 0 2 (2 + s.size) st hst _ _ w' (Nat.le_refl _) (hf.row.cell (j := 0) (c := 0) (by rw [List.getElem?_replicate, if_pos (by omega)])) (hf.row.cell (j := 1) (c := 0) (by rw [List.getElem?_replicate, if_pos (by omega)])) (hf.row.fz (j := 0) (by rw [List.length_replicate]; omega)) (hf.row.fz (j := 1) (by rw [List.length_replicate]; omega))
  go_region_with (go_at_call 37; (with_reducible refine (HC.out _ ?hw).mono ?_); (case hw => rfl); rintro e w3 ⟨rfl, hw3⟩; (have HW3 := Lib.hid hw3); clear hw3)
  have HG3 := Lib.hid (show FRow w3 w.heap.size (sets (List.replicate (2 + s.size) 0) 0 (Lib.beBytes 2 st)) ∧ Below w.heap.size w w3 from by
    have hb1 : Below w.heap.size w w1 := ⟨HG1.out.os, HG1.out.tape, HG1.out.output, HG1.out.size, fun k hk => HG1.out.block k hk (by simp)⟩
    have hlt := HF1.out.row.lt
    rw [HW3.out]
    refine ⟨FRow.sets _ _ _ _ (HF1.out.at (Below.heap_alloc _ _ _ (by exact hlt))), ?_⟩
    exact (Below.alloc (Below.drew hb1) (by show w.heap.size ≤ w1.heap.size; omega) _).trans (Lib.below_setCells_w (Nat.le_refl _) _ _ _))
  clear HW3 HC
  have hcv := conv50 w3 s
  have HB4 := Lib.hid (show FRow (Lib.bytesWorld w3 5 s) w.heap.size (sets (List.replicate (2 + s.size) 0) 0 (Lib.beBytes 2 st)) ∧ Below w.heap.size w (Lib.bytesWorld w3 5 s) ∧ ByteRow (Lib.bytesWorld w3 5 s) w3.heap.size s.data.toList from
    ⟨HG3.out.1.at (Lib.bytesWorld_at_old w3 5 s _ HG3.out.1.row.lt), HG3.out.2.trans (below50 w3 HG3.out.2.size s), ByteRow.new w3 s⟩)
  generalize Lib.bytesWorld w3 5 s = w4 at hcv HB4
  generalize grownCap w3 s.size 0 5 = cc at hcv
  have HL := Lib.hid (show (sets (List.replicate (2 + s.size) 0) 0 (Lib.beBytes 2 st)).length = 2 + s.size from by rw [sets_length]; simp)
  rcases Nat.eq_zero_or_pos s.size with h0 | h0
  all_goals
    have hc0 : (2 + s.size = 2 ↔ s.size = 0) := by omega
    go_wp2_with (refine wpList_copy_b rfl (.tmp 24) (.tmp 26) rfl w.heap.size _ _ _ ⟨w3.heap.size, 0, none⟩ _ cc rfl rfl _ s.data.toList HB4.out.1 (by intro j c hj; rw [K.addr_add _ rfl]; show w4.cell? ⟨w3.heap.size, 0 + j, none⟩ = _; rw [Nat.zero_add]; exact HB4.out.2.2.cell hj) (by show _ = min _ _; rw [K.bsize]; omega) (by rw [K.bsize, HL.out]; omega) ?_; intro w5 hf5 hb5; have HB5 := Lib.hid (And.intro hf5 hb5); clear hf5 hb5)
    go_ret
    refine ⟨⟨_, rfl, _, _, _, rfl⟩, ?_⟩
    exact But.below HB4.out.2.1 HB5.out.2 (fun k hk => by rw [hk]; exact Nat.le_refl _) HB4.out.2.1.size
end Go.Proofs.YtkkedekgniffoaaDoor
