/-
  FnPublishBack: a PUBLISH that is written is read again.
-/
import Derived.Test.YtjaodjeommkjgaaDoorText
import Derived.Test.YtjaodjeommkjgaaDoorCards
import Derived.Test.YtjaodjeommkjgaaDoorTie
import Derived.Deep.DeepHandedRow
import Derived.Deep.DeepWitnessRowRef
import Derived.LaidMore
import Derived.LaidHandle
import Derived.Lay
namespace Go.Proofs.YtjaodjeommkjgaaDoor.publishBack
open Go.ChangeShapes Go.WideShapes Go.ChangeAt Go.RowKit
open Go.ChangeMaps (open_string)
open K (Lies Yes)

/-- the two bytes of an identifier -/
theorem id_bytes (id : Nat) (h : id < 65536) : ∃ a b : UInt8, (strOfNums [(id : Int) / 256, (id : Int) % 256]).data.toList = [a, b] ∧ a.toNat * 256 + b.toNat = id := by
  refine ⟨UInt8.ofNat ((id : Int) / 256).toNat, UInt8.ofNat ((id : Int) % 256).toNat, by rw [strOfNums_data]; rfl, ?_⟩
  rw [UInt8.toNat_ofNat', UInt8.toNat_ofNat']
  omega

set_option maxHeartbeats 4000000 in
set_option maxRecDepth 100000 in
theorem main00 (t p : ByteArray) (id : Nat) (w : World) (ht : t.size ≤ 60) (hp : p.size ≤ 100) (hid : 0 < id) (hid2 : id < 65536) : Calls Tryd.prog 5 #[.int .u8 0, .bool false, .string t, .int .u16 id, .string p] w (Yes w) := by
  have hidn : ((id : Int) == 0) = false := by simp; omega
  go_enter Tryd.func5, Tryd.ntmps5
  go_wp2_with fail
  refine (plain_any t false w (by omega)).mono ?_
  rintro e w1 ⟨b, rfl, rfl, hb⟩
  cases b with
  | false =>
    clear hb
    go_wp2_with fail
    refine (awake_any w).mono ?_
    rintro e w1 ⟨rfl, hb⟩
    have HB := Lib.hid hb
    clear hb
    go_wp2_with fail
    go_ret
    exact ⟨rfl, HB.out⟩
  | true =>
    have HP := Lib.hid (hb rfl)
    clear hb
    go_wp2_with fail
    refine (text_any t _ (by omega)).mono ?_
    rintro e w2 ⟨b1, rfl, hb1, hbb⟩
    have hW2 : Below w.heap.size w w2 := ((Below.refl _ w).alloc (Nat.le_refl _) _).trans (hbb.mono (by simp))
    have hX2 := (hbb.block w.heap.size (by simp)).trans (K.heap_alloc_at w (.cells #[.int .u8 0, .string t, .int .u16 0, .string p] 35))
    have hl2 : w.heap.size < w2.heap.size := (Array.getElem?_eq_some_iff.1 hX2).1
    have hs1 : b1.size = t.size + 2 := by rw [← K.bsize, hb1]; simp
    have hsz1 : b1.size ≤ 1000 := by omega
    have h17 := publish_any (b1 ++ p) t p 0 t.size.toUInt8 [] 0 0 w2 HP.out (by omega) (by omega) (by omega) (by rw [K.bapp, hb1]; simp) (size_byte t.size (by omega)) (Or.inl ⟨rfl, rfl, rfl⟩)
    have HW2 := Lib.hid hW2
    have HX2 := Lib.hid hX2
    clear hW2 hX2 hb1 hbb hs1
    go_wp2_with fail
    refine h17.mono ?_
    rintro e w3 ⟨rfl, hb3⟩
    have hX3 := (hb3.block w.heap.size hl2).trans HX2.out
    have hlt : w.heap.size < w3.heap.size := (Array.getElem?_eq_some_iff.1 hX3).1
    have HB3 := Lib.hid (HW2.out.trans (hb3.mono HW2.out.size))
    have x0 : w3.cell? ⟨w.heap.size, 0, none⟩ = some (.int .u8 0) := by simp only [World.cell?, hX3]; rfl
    have x1 : w3.cell? ⟨w.heap.size, 1, none⟩ = some (.string t) := by simp only [World.cell?, hX3]; rfl
    have x3' : w3.cell? ⟨w.heap.size, 2, none⟩ = some (.int .u16 0) := by simp only [World.cell?, hX3]; rfl
    have x4 : w3.cell? ⟨w.heap.size, 3, none⟩ = some (.string p) := by simp only [World.cell?, hX3]; rfl
    clear hX3 hb3 h17
    go_wp2_with fail
    refine (awake_any _).mono ?_
    rintro e w4 ⟨rfl, hb4⟩
    have HB4 := Lib.hid ((HB3.out.alloc (by omega) (.cells #[.int .u8 0, .string t, .int .u16 0, .string p] 35)).trans (hb4.mono (by simp; omega)))
    clear hb4
    go_wp2_with fail
    go_ret
    exact ⟨rfl, HB4.out⟩

set_option maxHeartbeats 4000000 in
set_option maxRecDepth 100000 in
theorem main01 (t p : ByteArray) (id : Nat) (w : World) (ht : t.size ≤ 60) (hp : p.size ≤ 100) (hid : 0 < id) (hid2 : id < 65536) : Calls Tryd.prog 5 #[.int .u8 0, .bool true, .string t, .int .u16 id, .string p] w (Yes w) := by
  have hidn : ((id : Int) == 0) = false := by simp; omega
  go_enter Tryd.func5, Tryd.ntmps5
  go_wp2_with fail
  refine (plain_any t false w (by omega)).mono ?_
  rintro e w1 ⟨b, rfl, rfl, hb⟩
  cases b with
  | false =>
    clear hb
    go_wp2_with fail
    refine (awake_any w).mono ?_
    rintro e w1 ⟨rfl, hb⟩
    have HB := Lib.hid hb
    clear hb
    go_wp2_with fail
    go_ret
    exact ⟨rfl, HB.out⟩
  | true =>
    have HP := Lib.hid (hb rfl)
    clear hb
    have hbt : bits .or .u8 0 1 = 1 := by decide
    go_wp2_with fail
    refine (text_any t _ (by omega)).mono ?_
    rintro e w2 ⟨b1, rfl, hb1, hbb⟩
    have hW2 : Below w.heap.size w w2 := ((Below.refl _ w).alloc (Nat.le_refl _) _).trans (hbb.mono (by simp))
    have hX2 := (hbb.block w.heap.size (by simp)).trans (K.heap_alloc_at w (.cells #[.int .u8 1, .string t, .int .u16 0, .string p] 35))
    have hl2 : w.heap.size < w2.heap.size := (Array.getElem?_eq_some_iff.1 hX2).1
    have hs1 : b1.size = t.size + 2 := by rw [← K.bsize, hb1]; simp
    have hsz1 : b1.size ≤ 1000 := by omega
    have h17 := publish_any (b1 ++ p) t p 0 t.size.toUInt8 [] 1 0 w2 HP.out (by omega) (by omega) (by omega) (by rw [K.bapp, hb1]; simp) (size_byte t.size (by omega)) (Or.inl ⟨rfl, rfl, rfl⟩)
    have HW2 := Lib.hid hW2
    have HX2 := Lib.hid hX2
    clear hW2 hX2 hb1 hbb hs1
    go_wp2_with fail
    refine h17.mono ?_
    rintro e w3 ⟨rfl, hb3⟩
    have hX3 := (hb3.block w.heap.size hl2).trans HX2.out
    have hlt : w.heap.size < w3.heap.size := (Array.getElem?_eq_some_iff.1 hX3).1
    have HB3 := Lib.hid (HW2.out.trans (hb3.mono HW2.out.size))
    have x0 : w3.cell? ⟨w.heap.size, 0, none⟩ = some (.int .u8 1) := by simp only [World.cell?, hX3]; rfl
    have x1 : w3.cell? ⟨w.heap.size, 1, none⟩ = some (.string t) := by simp only [World.cell?, hX3]; rfl
    have x3' : w3.cell? ⟨w.heap.size, 2, none⟩ = some (.int .u16 0) := by simp only [World.cell?, hX3]; rfl
    have x4 : w3.cell? ⟨w.heap.size, 3, none⟩ = some (.string p) := by simp only [World.cell?, hX3]; rfl
    clear hX3 hb3 h17
    go_wp2_with fail
    refine (awake_any _).mono ?_
    rintro e w4 ⟨rfl, hb4⟩
    have HB4 := Lib.hid ((HB3.out.alloc (by omega) (.cells #[.int .u8 1, .string t, .int .u16 0, .string p] 35)).trans (hb4.mono (by simp; omega)))
    clear hb4
    go_wp2_with fail
    go_ret
    exact ⟨rfl, HB4.out⟩

set_option maxHeartbeats 4000000 in
set_option maxRecDepth 100000 in
theorem main10 (t p : ByteArray) (id : Nat) (w : World) (ht : t.size ≤ 60) (hp : p.size ≤ 100) (hid : 0 < id) (hid2 : id < 65536) : Calls Tryd.prog 5 #[.int .u8 1, .bool false, .string t, .int .u16 id, .string p] w (Yes w) := by
  have hidn : ((id : Int) == 0) = false := by simp; omega
  go_enter Tryd.func5, Tryd.ntmps5
  go_wp2_with fail
  refine (plain_any t false w (by omega)).mono ?_
  rintro e w1 ⟨b, rfl, rfl, hb⟩
  cases b with
  | false =>
    clear hb
    go_wp2_with fail
    refine (awake_any w).mono ?_
    rintro e w1 ⟨rfl, hb⟩
    have HB := Lib.hid hb
    clear hb
    go_wp2_with fail
    go_ret
    exact ⟨rfl, HB.out⟩
  | true =>
    have HP := Lib.hid (hb rfl)
    clear hb
    go_wp2_with fail
    refine (text_any t _ (by omega)).mono ?_
    rintro e w2 ⟨b1, rfl, hb1, hbb⟩
    have hW2 : Below w.heap.size w w2 := ((Below.refl _ w).alloc (Nat.le_refl _) _).trans (hbb.mono (by simp))
    have hX2 := (hbb.block w.heap.size (by simp)).trans (K.heap_alloc_at w (.cells #[.int .u8 2, .string t, .int .u16 0, .string p] 35))
    have hl2 : w.heap.size < w2.heap.size := (Array.getElem?_eq_some_iff.1 hX2).1
    have hs1 : b1.size = t.size + 2 := by rw [← K.bsize, hb1]; simp
    have hsz1 : b1.size ≤ 1000 := by omega
    have x2 : w2.cell? ⟨w.heap.size, 2, none⟩ = some (.int .u16 0) := by simp only [World.cell?, hX2]; rfl
    have f2 : w2.frozen? ⟨w.heap.size, 2, none⟩ = false := by simp only [World.frozen?, hX2]; rfl
    have hst2 : ∀ x y : Int, (convert 37 9 (.slice (some ⟨w2.heap.size, 0, none⟩) 2 2)).run Tryd.prog ((w2.setCell ⟨w.heap.size, 2, none⟩ (.int .u16 id)).alloc (.cells #[.int .u8 x, .int .u8 y] 5)) = .ok (.string (strOfNums [x, y])) ((w2.setCell ⟨w.heap.size, 2, none⟩ (.int .u16 id)).alloc (.cells #[.int .u8 x, .int .u8 y] 5)) := fun x y => by
      have h := conv_two (w2.setCell ⟨w.heap.size, 2, none⟩ (.int .u16 id)) x y
      rw [show (w2.setCell ⟨w.heap.size, 2, none⟩ (.int .u16 id)).heap.size = w2.heap.size from by simp] at h
      exact h
    have h2 : ∀ x y : Int, (strOfNums [x, y]).size = 2 := fun x y => strOfNums_size [x, y]
    obtain ⟨ia, ib, hi1, hi2⟩ := id_bytes id hid2
    have h17 := publish_any (b1 ++ strOfNums [(id : Int) / 256, (id : Int) % 256] ++ p) t p 0 t.size.toUInt8 [ia, ib] 2 id ((w2.setCell ⟨w.heap.size, 2, none⟩ (.int .u16 id)).alloc (.cells #[.int .u8 ((id : Int) / 256), .int .u8 ((id : Int) % 256)] 5)) HP.out (by omega) (by omega) (by omega) (by rw [K.bapp, K.bapp, hb1, hi1]; simp) (size_byte t.size (by omega)) (Or.inr ⟨by omega, ia, ib, rfl, hid, hi2⟩)
    have hX2' := (Below.heap_alloc (w2.setCell ⟨w.heap.size, 2, none⟩ (.int .u16 id)) (.cells #[.int .u8 ((id : Int) / 256), .int .u8 ((id : Int) % 256)] 5) w.heap.size (by simpa using hl2)).trans (K.heap_setCell_at (i := 2) hX2 (.int .u16 id))
    have HW2 := Lib.hid ((hW2.setCell (p := ⟨w.heap.size, 2, none⟩) (Nat.le_refl _) (.int .u16 id)).alloc (show w.heap.size ≤ (w2.setCell ⟨w.heap.size, 2, none⟩ (.int .u16 id)).heap.size from by simp; omega) (.cells #[.int .u8 ((id : Int) / 256), .int .u8 ((id : Int) % 256)] 5))
    have HX2 := Lib.hid hX2'
    have HL := Lib.hid hl2
    clear hW2 hX2 hX2' hb1 hbb hs1 hi1 hi2 hl2
    go_wp2_with fail
    refine h17.mono ?_
    rintro e w3 ⟨rfl, hb3⟩
    have hX3 := (hb3.block w.heap.size (by have := HL.out; simp; omega)).trans HX2.out
    have hlt : w.heap.size < w3.heap.size := (Array.getElem?_eq_some_iff.1 hX3).1
    have HB3 := Lib.hid (HW2.out.trans (hb3.mono HW2.out.size))
    have x0 : w3.cell? ⟨w.heap.size, 0, none⟩ = some (.int .u8 2) := by simp only [World.cell?, hX3]; rfl
    have x1 : w3.cell? ⟨w.heap.size, 1, none⟩ = some (.string t) := by simp only [World.cell?, hX3]; rfl
    have x3' : w3.cell? ⟨w.heap.size, 2, none⟩ = some (.int .u16 id) := by simp only [World.cell?, hX3]; rfl
    have x4 : w3.cell? ⟨w.heap.size, 3, none⟩ = some (.string p) := by simp only [World.cell?, hX3]; rfl
    clear hX3 hb3 h17
    go_wp2_with fail
    refine (awake_any _).mono ?_
    rintro e w4 ⟨rfl, hb4⟩
    have HB4 := Lib.hid ((HB3.out.alloc (by omega) (.cells #[.int .u8 2, .string t, .int .u16 id, .string p] 35)).trans (hb4.mono (by simp; omega)))
    clear hb4
    go_wp2_with fail
    go_ret
    exact ⟨rfl, HB4.out⟩

set_option maxHeartbeats 4000000 in
set_option maxRecDepth 100000 in
theorem main11 (t p : ByteArray) (id : Nat) (w : World) (ht : t.size ≤ 60) (hp : p.size ≤ 100) (hid : 0 < id) (hid2 : id < 65536) : Calls Tryd.prog 5 #[.int .u8 1, .bool true, .string t, .int .u16 id, .string p] w (Yes w) := by
  have hidn : ((id : Int) == 0) = false := by simp; omega
  go_enter Tryd.func5, Tryd.ntmps5
  go_wp2_with fail
  refine (plain_any t false w (by omega)).mono ?_
  rintro e w1 ⟨b, rfl, rfl, hb⟩
  cases b with
  | false =>
    clear hb
    go_wp2_with fail
    refine (awake_any w).mono ?_
    rintro e w1 ⟨rfl, hb⟩
    have HB := Lib.hid hb
    clear hb
    go_wp2_with fail
    go_ret
    exact ⟨rfl, HB.out⟩
  | true =>
    have HP := Lib.hid (hb rfl)
    clear hb
    have hbt : bits .or .u8 2 1 = 3 := by decide
    go_wp2_with fail
    refine (text_any t _ (by omega)).mono ?_
    rintro e w2 ⟨b1, rfl, hb1, hbb⟩
    have hW2 : Below w.heap.size w w2 := ((Below.refl _ w).alloc (Nat.le_refl _) _).trans (hbb.mono (by simp))
    have hX2 := (hbb.block w.heap.size (by simp)).trans (K.heap_alloc_at w (.cells #[.int .u8 3, .string t, .int .u16 0, .string p] 35))
    have hl2 : w.heap.size < w2.heap.size := (Array.getElem?_eq_some_iff.1 hX2).1
    have hs1 : b1.size = t.size + 2 := by rw [← K.bsize, hb1]; simp
    have hsz1 : b1.size ≤ 1000 := by omega
    have x2 : w2.cell? ⟨w.heap.size, 2, none⟩ = some (.int .u16 0) := by simp only [World.cell?, hX2]; rfl
    have f2 : w2.frozen? ⟨w.heap.size, 2, none⟩ = false := by simp only [World.frozen?, hX2]; rfl
    have hst2 : ∀ x y : Int, (convert 37 9 (.slice (some ⟨w2.heap.size, 0, none⟩) 2 2)).run Tryd.prog ((w2.setCell ⟨w.heap.size, 2, none⟩ (.int .u16 id)).alloc (.cells #[.int .u8 x, .int .u8 y] 5)) = .ok (.string (strOfNums [x, y])) ((w2.setCell ⟨w.heap.size, 2, none⟩ (.int .u16 id)).alloc (.cells #[.int .u8 x, .int .u8 y] 5)) := fun x y => by
      have h := conv_two (w2.setCell ⟨w.heap.size, 2, none⟩ (.int .u16 id)) x y
      rw [show (w2.setCell ⟨w.heap.size, 2, none⟩ (.int .u16 id)).heap.size = w2.heap.size from by simp] at h
      exact h
    have h2 : ∀ x y : Int, (strOfNums [x, y]).size = 2 := fun x y => strOfNums_size [x, y]
    obtain ⟨ia, ib, hi1, hi2⟩ := id_bytes id hid2
    have h17 := publish_any (b1 ++ strOfNums [(id : Int) / 256, (id : Int) % 256] ++ p) t p 0 t.size.toUInt8 [ia, ib] 3 id ((w2.setCell ⟨w.heap.size, 2, none⟩ (.int .u16 id)).alloc (.cells #[.int .u8 ((id : Int) / 256), .int .u8 ((id : Int) % 256)] 5)) HP.out (by omega) (by omega) (by omega) (by rw [K.bapp, K.bapp, hb1, hi1]; simp) (size_byte t.size (by omega)) (Or.inr ⟨by omega, ia, ib, rfl, hid, hi2⟩)
    have hX2' := (Below.heap_alloc (w2.setCell ⟨w.heap.size, 2, none⟩ (.int .u16 id)) (.cells #[.int .u8 ((id : Int) / 256), .int .u8 ((id : Int) % 256)] 5) w.heap.size (by simpa using hl2)).trans (K.heap_setCell_at (i := 2) hX2 (.int .u16 id))
    have HW2 := Lib.hid ((hW2.setCell (p := ⟨w.heap.size, 2, none⟩) (Nat.le_refl _) (.int .u16 id)).alloc (show w.heap.size ≤ (w2.setCell ⟨w.heap.size, 2, none⟩ (.int .u16 id)).heap.size from by simp; omega) (.cells #[.int .u8 ((id : Int) / 256), .int .u8 ((id : Int) % 256)] 5))
    have HX2 := Lib.hid hX2'
    have HL := Lib.hid hl2
    clear hW2 hX2 hX2' hb1 hbb hs1 hi1 hi2 hl2
    go_wp2_with fail
    refine h17.mono ?_
    rintro e w3 ⟨rfl, hb3⟩
    have hX3 := (hb3.block w.heap.size (by have := HL.out; simp; omega)).trans HX2.out
    have hlt : w.heap.size < w3.heap.size := (Array.getElem?_eq_some_iff.1 hX3).1
    have HB3 := Lib.hid (HW2.out.trans (hb3.mono HW2.out.size))
    have x0 : w3.cell? ⟨w.heap.size, 0, none⟩ = some (.int .u8 3) := by simp only [World.cell?, hX3]; rfl
    have x1 : w3.cell? ⟨w.heap.size, 1, none⟩ = some (.string t) := by simp only [World.cell?, hX3]; rfl
    have x3' : w3.cell? ⟨w.heap.size, 2, none⟩ = some (.int .u16 id) := by simp only [World.cell?, hX3]; rfl
    have x4 : w3.cell? ⟨w.heap.size, 3, none⟩ = some (.string p) := by simp only [World.cell?, hX3]; rfl
    clear hX3 hb3 h17
    go_wp2_with fail
    refine (awake_any _).mono ?_
    rintro e w4 ⟨rfl, hb4⟩
    have HB4 := Lib.hid ((HB3.out.alloc (by omega) (.cells #[.int .u8 3, .string t, .int .u16 id, .string p] 35)).trans (hb4.mono (by simp; omega)))
    clear hb4
    go_wp2_with fail
    go_ret
    exact ⟨rfl, HB4.out⟩

set_option maxHeartbeats 4000000 in
set_option maxRecDepth 100000 in
theorem main20 (t p : ByteArray) (id : Nat) (w : World) (ht : t.size ≤ 60) (hp : p.size ≤ 100) (hid : 0 < id) (hid2 : id < 65536) : Calls Tryd.prog 5 #[.int .u8 2, .bool false, .string t, .int .u16 id, .string p] w (Yes w) := by
  have hidn : ((id : Int) == 0) = false := by simp; omega
  go_enter Tryd.func5, Tryd.ntmps5
  go_wp2_with fail
  refine (plain_any t false w (by omega)).mono ?_
  rintro e w1 ⟨b, rfl, rfl, hb⟩
  cases b with
  | false =>
    clear hb
    go_wp2_with fail
    refine (awake_any w).mono ?_
    rintro e w1 ⟨rfl, hb⟩
    have HB := Lib.hid hb
    clear hb
    go_wp2_with fail
    go_ret
    exact ⟨rfl, HB.out⟩
  | true =>
    have HP := Lib.hid (hb rfl)
    clear hb
    go_wp2_with fail
    refine (text_any t _ (by omega)).mono ?_
    rintro e w2 ⟨b1, rfl, hb1, hbb⟩
    have hW2 : Below w.heap.size w w2 := ((Below.refl _ w).alloc (Nat.le_refl _) _).trans (hbb.mono (by simp))
    have hX2 := (hbb.block w.heap.size (by simp)).trans (K.heap_alloc_at w (.cells #[.int .u8 4, .string t, .int .u16 0, .string p] 35))
    have hl2 : w.heap.size < w2.heap.size := (Array.getElem?_eq_some_iff.1 hX2).1
    have hs1 : b1.size = t.size + 2 := by rw [← K.bsize, hb1]; simp
    have hsz1 : b1.size ≤ 1000 := by omega
    have x2 : w2.cell? ⟨w.heap.size, 2, none⟩ = some (.int .u16 0) := by simp only [World.cell?, hX2]; rfl
    have f2 : w2.frozen? ⟨w.heap.size, 2, none⟩ = false := by simp only [World.frozen?, hX2]; rfl
    have hst2 : ∀ x y : Int, (convert 37 9 (.slice (some ⟨w2.heap.size, 0, none⟩) 2 2)).run Tryd.prog ((w2.setCell ⟨w.heap.size, 2, none⟩ (.int .u16 id)).alloc (.cells #[.int .u8 x, .int .u8 y] 5)) = .ok (.string (strOfNums [x, y])) ((w2.setCell ⟨w.heap.size, 2, none⟩ (.int .u16 id)).alloc (.cells #[.int .u8 x, .int .u8 y] 5)) := fun x y => by
      have h := conv_two (w2.setCell ⟨w.heap.size, 2, none⟩ (.int .u16 id)) x y
      rw [show (w2.setCell ⟨w.heap.size, 2, none⟩ (.int .u16 id)).heap.size = w2.heap.size from by simp] at h
      exact h
    have h2 : ∀ x y : Int, (strOfNums [x, y]).size = 2 := fun x y => strOfNums_size [x, y]
    obtain ⟨ia, ib, hi1, hi2⟩ := id_bytes id hid2
    have h17 := publish_any (b1 ++ strOfNums [(id : Int) / 256, (id : Int) % 256] ++ p) t p 0 t.size.toUInt8 [ia, ib] 4 id ((w2.setCell ⟨w.heap.size, 2, none⟩ (.int .u16 id)).alloc (.cells #[.int .u8 ((id : Int) / 256), .int .u8 ((id : Int) % 256)] 5)) HP.out (by omega) (by omega) (by omega) (by rw [K.bapp, K.bapp, hb1, hi1]; simp) (size_byte t.size (by omega)) (Or.inr ⟨by omega, ia, ib, rfl, hid, hi2⟩)
    have hX2' := (Below.heap_alloc (w2.setCell ⟨w.heap.size, 2, none⟩ (.int .u16 id)) (.cells #[.int .u8 ((id : Int) / 256), .int .u8 ((id : Int) % 256)] 5) w.heap.size (by simpa using hl2)).trans (K.heap_setCell_at (i := 2) hX2 (.int .u16 id))
    have HW2 := Lib.hid ((hW2.setCell (p := ⟨w.heap.size, 2, none⟩) (Nat.le_refl _) (.int .u16 id)).alloc (show w.heap.size ≤ (w2.setCell ⟨w.heap.size, 2, none⟩ (.int .u16 id)).heap.size from by simp; omega) (.cells #[.int .u8 ((id : Int) / 256), .int .u8 ((id : Int) % 256)] 5))
    have HX2 := Lib.hid hX2'
    have HL := Lib.hid hl2
    clear hW2 hX2 hX2' hb1 hbb hs1 hi1 hi2 hl2
    go_wp2_with fail
    refine h17.mono ?_
    rintro e w3 ⟨rfl, hb3⟩
    have hX3 := (hb3.block w.heap.size (by have := HL.out; simp; omega)).trans HX2.out
    have hlt : w.heap.size < w3.heap.size := (Array.getElem?_eq_some_iff.1 hX3).1
    have HB3 := Lib.hid (HW2.out.trans (hb3.mono HW2.out.size))
    have x0 : w3.cell? ⟨w.heap.size, 0, none⟩ = some (.int .u8 4) := by simp only [World.cell?, hX3]; rfl
    have x1 : w3.cell? ⟨w.heap.size, 1, none⟩ = some (.string t) := by simp only [World.cell?, hX3]; rfl
    have x3' : w3.cell? ⟨w.heap.size, 2, none⟩ = some (.int .u16 id) := by simp only [World.cell?, hX3]; rfl
    have x4 : w3.cell? ⟨w.heap.size, 3, none⟩ = some (.string p) := by simp only [World.cell?, hX3]; rfl
    clear hX3 hb3 h17
    go_wp2_with fail
    refine (awake_any _).mono ?_
    rintro e w4 ⟨rfl, hb4⟩
    have HB4 := Lib.hid ((HB3.out.alloc (by omega) (.cells #[.int .u8 4, .string t, .int .u16 id, .string p] 35)).trans (hb4.mono (by simp; omega)))
    clear hb4
    go_wp2_with fail
    go_ret
    exact ⟨rfl, HB4.out⟩

set_option maxHeartbeats 4000000 in
set_option maxRecDepth 100000 in
theorem main21 (t p : ByteArray) (id : Nat) (w : World) (ht : t.size ≤ 60) (hp : p.size ≤ 100) (hid : 0 < id) (hid2 : id < 65536) : Calls Tryd.prog 5 #[.int .u8 2, .bool true, .string t, .int .u16 id, .string p] w (Yes w) := by
  have hidn : ((id : Int) == 0) = false := by simp; omega
  go_enter Tryd.func5, Tryd.ntmps5
  go_wp2_with fail
  refine (plain_any t false w (by omega)).mono ?_
  rintro e w1 ⟨b, rfl, rfl, hb⟩
  cases b with
  | false =>
    clear hb
    go_wp2_with fail
    refine (awake_any w).mono ?_
    rintro e w1 ⟨rfl, hb⟩
    have HB := Lib.hid hb
    clear hb
    go_wp2_with fail
    go_ret
    exact ⟨rfl, HB.out⟩
  | true =>
    have HP := Lib.hid (hb rfl)
    clear hb
    have hbt : bits .or .u8 4 1 = 5 := by decide
    go_wp2_with fail
    refine (text_any t _ (by omega)).mono ?_
    rintro e w2 ⟨b1, rfl, hb1, hbb⟩
    have hW2 : Below w.heap.size w w2 := ((Below.refl _ w).alloc (Nat.le_refl _) _).trans (hbb.mono (by simp))
    have hX2 := (hbb.block w.heap.size (by simp)).trans (K.heap_alloc_at w (.cells #[.int .u8 5, .string t, .int .u16 0, .string p] 35))
    have hl2 : w.heap.size < w2.heap.size := (Array.getElem?_eq_some_iff.1 hX2).1
    have hs1 : b1.size = t.size + 2 := by rw [← K.bsize, hb1]; simp
    have hsz1 : b1.size ≤ 1000 := by omega
    have x2 : w2.cell? ⟨w.heap.size, 2, none⟩ = some (.int .u16 0) := by simp only [World.cell?, hX2]; rfl
    have f2 : w2.frozen? ⟨w.heap.size, 2, none⟩ = false := by simp only [World.frozen?, hX2]; rfl
    have hst2 : ∀ x y : Int, (convert 37 9 (.slice (some ⟨w2.heap.size, 0, none⟩) 2 2)).run Tryd.prog ((w2.setCell ⟨w.heap.size, 2, none⟩ (.int .u16 id)).alloc (.cells #[.int .u8 x, .int .u8 y] 5)) = .ok (.string (strOfNums [x, y])) ((w2.setCell ⟨w.heap.size, 2, none⟩ (.int .u16 id)).alloc (.cells #[.int .u8 x, .int .u8 y] 5)) := fun x y => by
      have h := conv_two (w2.setCell ⟨w.heap.size, 2, none⟩ (.int .u16 id)) x y
      rw [show (w2.setCell ⟨w.heap.size, 2, none⟩ (.int .u16 id)).heap.size = w2.heap.size from by simp] at h
      exact h
    have h2 : ∀ x y : Int, (strOfNums [x, y]).size = 2 := fun x y => strOfNums_size [x, y]
    obtain ⟨ia, ib, hi1, hi2⟩ := id_bytes id hid2
    have h17 := publish_any (b1 ++ strOfNums [(id : Int) / 256, (id : Int) % 256] ++ p) t p 0 t.size.toUInt8 [ia, ib] 5 id ((w2.setCell ⟨w.heap.size, 2, none⟩ (.int .u16 id)).alloc (.cells #[.int .u8 ((id : Int) / 256), .int .u8 ((id : Int) % 256)] 5)) HP.out (by omega) (by omega) (by omega) (by rw [K.bapp, K.bapp, hb1, hi1]; simp) (size_byte t.size (by omega)) (Or.inr ⟨by omega, ia, ib, rfl, hid, hi2⟩)
    have hX2' := (Below.heap_alloc (w2.setCell ⟨w.heap.size, 2, none⟩ (.int .u16 id)) (.cells #[.int .u8 ((id : Int) / 256), .int .u8 ((id : Int) % 256)] 5) w.heap.size (by simpa using hl2)).trans (K.heap_setCell_at (i := 2) hX2 (.int .u16 id))
    have HW2 := Lib.hid ((hW2.setCell (p := ⟨w.heap.size, 2, none⟩) (Nat.le_refl _) (.int .u16 id)).alloc (show w.heap.size ≤ (w2.setCell ⟨w.heap.size, 2, none⟩ (.int .u16 id)).heap.size from by simp; omega) (.cells #[.int .u8 ((id : Int) / 256), .int .u8 ((id : Int) % 256)] 5))
    have HX2 := Lib.hid hX2'
    have HL := Lib.hid hl2
    clear hW2 hX2 hX2' hb1 hbb hs1 hi1 hi2 hl2
    go_wp2_with fail
    refine h17.mono ?_
    rintro e w3 ⟨rfl, hb3⟩
    have hX3 := (hb3.block w.heap.size (by have := HL.out; simp; omega)).trans HX2.out
    have hlt : w.heap.size < w3.heap.size := (Array.getElem?_eq_some_iff.1 hX3).1
    have HB3 := Lib.hid (HW2.out.trans (hb3.mono HW2.out.size))
    have x0 : w3.cell? ⟨w.heap.size, 0, none⟩ = some (.int .u8 5) := by simp only [World.cell?, hX3]; rfl
    have x1 : w3.cell? ⟨w.heap.size, 1, none⟩ = some (.string t) := by simp only [World.cell?, hX3]; rfl
    have x3' : w3.cell? ⟨w.heap.size, 2, none⟩ = some (.int .u16 id) := by simp only [World.cell?, hX3]; rfl
    have x4 : w3.cell? ⟨w.heap.size, 3, none⟩ = some (.string p) := by simp only [World.cell?, hX3]; rfl
    clear hX3 hb3 h17
    go_wp2_with fail
    refine (awake_any _).mono ?_
    rintro e w4 ⟨rfl, hb4⟩
    have HB4 := Lib.hid ((HB3.out.alloc (by omega) (.cells #[.int .u8 5, .string t, .int .u16 id, .string p] 35)).trans (hb4.mono (by simp; omega)))
    clear hb4
    go_wp2_with fail
    go_ret
    exact ⟨rfl, HB4.out⟩

set_option maxHeartbeats 4000000 in
set_option maxRecDepth 100000 in
theorem law_any (q : Nat) (r : Bool) (t p : ByteArray) (id : Nat) (w : World) (hq : q < 256) (hid : id < 65536) (ht63 : t.size ≤ 9223372036854775807) (hp63 : p.size ≤ 9223372036854775807) : Calls Tryd.prog 5 #[.int .u8 q, .bool r, .string t, .int .u16 id, .string p] w (Yes w) := by
  by_cases h1 : t.size ≤ 2147483647 ∧ p.size ≤ 2147483647
  · obtain ⟨h1, h2⟩ := h1
    by_cases hq2 : q ≤ 2
    · by_cases ht : t.size ≤ 60
      · by_cases hp : p.size ≤ 100
        · by_cases hi : 0 < id
          · have hqq : q = 0 ∨ q = 1 ∨ q = 2 := by omega
            rcases hqq with rfl | rfl | rfl
            · cases r with
              | false => exact main00 t p id w ht hp hi hid
              | true => exact main01 t p id w ht hp hi hid
            · cases r with
              | false => exact main10 t p id w ht hp hi hid
              | true => exact main11 t p id w ht hp hi hid
            · cases r with
              | false => exact main20 t p id w ht hp hi hid
              | true => exact main21 t p id w ht hp hi hid
          · obtain rfl : id = 0 := by omega
            go_enter Tryd.func5, Tryd.ntmps5
            go_wp2_with fail
            refine (plain_any t false w (by omega)).mono ?_
            rintro e w1 ⟨b, rfl, rfl, hb⟩
            clear hb
            cases b with
            | false =>
              go_wp2_with fail
              refine (awake_any w).mono ?_
              rintro e w1 ⟨rfl, hb⟩
              have HB := Lib.hid hb
              clear hb
              go_wp2_with fail
              go_ret
              exact ⟨rfl, HB.out⟩
            | true =>
              go_wp2_with fail
              refine (awake_any w).mono ?_
              rintro e w1 ⟨rfl, hb⟩
              have HB := Lib.hid hb
              clear hb
              go_wp2_with fail
              go_ret
              exact ⟨rfl, HB.out⟩
        · go_enter Tryd.func5, Tryd.ntmps5
          go_wp2_with fail
          refine (plain_any t false w (by omega)).mono ?_
          rintro e w1 ⟨b, rfl, rfl, hb⟩
          clear hb
          cases b with
          | false =>
            go_wp2_with fail
            refine (awake_any w).mono ?_
            rintro e w1 ⟨rfl, hb⟩
            have HB := Lib.hid hb
            clear hb
            go_wp2_with fail
            go_ret
            exact ⟨rfl, HB.out⟩
          | true =>
            go_wp2_with fail
            refine (awake_any w).mono ?_
            rintro e w1 ⟨rfl, hb⟩
            have HB := Lib.hid hb
            clear hb
            go_wp2_with fail
            go_ret
            exact ⟨rfl, HB.out⟩
      · go_enter Tryd.func5, Tryd.ntmps5
        go_wp2_with fail
        refine (awake_any w).mono ?_
        rintro e w1 ⟨rfl, hb⟩
        have HB := Lib.hid hb
        clear hb
        go_wp2_with fail
        go_ret
        exact ⟨rfl, HB.out⟩
    · go_enter Tryd.func5, Tryd.ntmps5
      go_wp2_with fail
      refine (awake_any w).mono ?_
      rintro e w1 ⟨rfl, hb⟩
      have HB := Lib.hid hb
      clear hb
      go_wp2_with fail
      go_ret
      exact ⟨rfl, HB.out⟩
  · have h4 : 2147483647 < t.size ∨ 2147483647 < p.size := by omega
    clear h1
    rcases Nat.lt_or_ge 2147483647 t.size with h5 | h5
    · clear h4
      go_enter Tryd.func5, Tryd.ntmps5
      go_wp2_with fail
      go_ret
      exact ⟨rfl, Below.refl _ _⟩
    · have h6 : 2147483647 < p.size := by omega
      clear h4
      go_enter Tryd.func5, Tryd.ntmps5
      go_wp2_with fail
      go_ret
      exact ⟨rfl, Below.refl _ _⟩

theorem own : ownKnob Tryd.prog.godebug = none := by kernel_rfl
theorem laidOut : laidOutB Tryd.prog = true := by kernel_rfl

theorem door_met (os : Os) (args : Array Value) : laidMetH Tryd.prog Rows.fnPublishBackRow.laid ((World.laidAll Tryd.prog os Rows.fnPublishBackRow.laid).forCall (fun _ _ => 0) ⟨#[], args, []⟩).memory := by
  rw [MakeChecks.laidMetH_plain _ _ _ (by kernel_rfl)]
  exact laidMet_laidAll _ (by kernel_rfl) (by kernel_rfl)
set_option maxRecDepth 100000 in
theorem reads (os : Os) {H : Type} (enc : TypeId × Value → H) : ∃ places, DataW.whole enc Tryd.prog ((World.laidAll Tryd.prog os Rows.fnPublishBackRow.laid).forCall (fun _ _ => 0) ⟨#[], #[.int .u8 0, .bool false, .string .empty, .int .u16 0, .string .empty], []⟩).memory Tryd.f5.params.toList Rows.fnPublishBackSpec.vars false (#[.int .u8 0, .bool false, .string .empty, .int .u16 0, .string .empty] : Array Value).toList 8 = some ([.lit (.int .u8 0), .lit (.bool false), .lit (.string []), .lit (.int .u16 0), .lit (.string [])], [], places) :=
  ⟨[], by kernel_rfl⟩

set_option maxRecDepth 100000 in
theorem contract (H : Type) (enc : TypeId × Value → H) (W : World) (args : Array Value) (ds gs : List (DataW H)) (before : List MemPlace)
    (hval : ∀ (j : Nat) t v, Tryd.f5.params[j]? = some t → args[j]? = some v → Value.okWide Tryd.prog W .any 0 t v)
    (hW : DataW.Whole enc Tryd.prog Tryd.f5.params.toList Rows.fnPublishBackSpec.vars false W args.toList ds gs before) (_hL : laidMetH Tryd.prog Rows.fnPublishBackRow.laid W) :
    Calls Tryd.prog 5 args W fun e W' => ∃ v, e = .returned v ∧ Rows.fnPublishBackSpec.post enc Tryd.prog Tryd.f5 false true false false W args v W' := by
  have hW' := hW
  obtain ⟨p, q, hA0, hV, rfl, hfz, hnd⟩ := hW
  have hA : DataW.TrodAll enc Tryd.prog W 0 (fun _ => true) true Tryd.f5.params.toList args.toList ds p := hA0
  rw [Tryd.params5] at hA hval
  obtain ⟨v0, vs0, d0, ds0, p0, q0, hargs, rfl, rfl, h0, r0⟩ := trodAll_cons hA
  obtain ⟨v1, vs1, d1, ds1, p1, q1, rfl, rfl, rfl, h1, r1⟩ := trodAll_cons r0
  obtain ⟨v2, vs2, d2, ds2, p2, q2, rfl, rfl, rfl, h2, r2⟩ := trodAll_cons r1
  obtain ⟨v3, vs3, d3, ds3, p3, q3, rfl, rfl, rfl, h3, r3⟩ := trodAll_cons r2
  obtain ⟨v4, vs4, d4, ds4, p4, q4, rfl, rfl, rfl, h4, r4⟩ := trodAll_cons r3
  obtain ⟨rfl, rfl, rfl⟩ := trodAll_nil r4
  obtain rfl : args = #[v0, v1, v2, v3, v4] := by cases args; simp_all
  obtain ⟨rfl, rfl⟩ := trodVars_none hV
  obtain ⟨q, rfl, rfl, rfl, wq⟩ := open_int Tryd.underlying5 (hval 0 5 v0 rfl rfl) h0
  obtain ⟨r, rfl, rfl, rfl⟩ := open_bool Tryd.underlying4 (hval 1 4 v1 rfl rfl) h1
  obtain ⟨t, rfl, rfl, rfl, ht⟩ := open_string Tryd.underlying9 (hval 2 9 v2 rfl rfl) h2
  obtain ⟨i, rfl, rfl, rfl, wi⟩ := open_int Tryd.underlying30 (hval 3 30 v3 rfl rfl) h3
  obtain ⟨p, rfl, rfl, rfl, hp⟩ := open_string Tryd.underlying9 (hval 4 9 v4 rfl rfl) h4
  have bq : 0 ≤ q ∧ q ≤ 255 := by simpa [Lit.wf, IntKind.min, IntKind.max, IntKind.signed, IntKind.bits] using wq
  have bi : 0 ≤ i ∧ i ≤ 65535 := by simpa [Lit.wf, IntKind.min, IntKind.max, IntKind.signed, IntKind.bits] using wi
  obtain ⟨qn, rfl⟩ : ∃ n : Nat, q = (n : Int) := ⟨q.toNat, by omega⟩
  obtain ⟨im, rfl⟩ : ∃ n : Nat, i = (n : Int) := ⟨i.toNat, by omega⟩
  unfold maxLen at ht hp
  refine (law_any qn r t p im W (by omega) (by omega) (by omega) (by omega)).mono fun e W' ⟨hE, hg⟩ => ?_
  subst hE
  exact ⟨_, rfl, K.post_law (tb := 4) laidOut Tryd.underlying4 rfl (by kernel_rfl) rfl rfl (fun W => ok_one (by kernel_rfl) rfl (okWide_bool_mk Tryd.underlying4 _)) hW' hg⟩

set_option maxRecDepth 100000 in
theorem lifted (os : Os) (started : os.Started) (H : Type) (enc : TypeId × Value → H) (F : Stop.Interp) :
    ReturnsInHanded {} Tryd.checked os 5 .any ((OpenSpec.ofChange Rows.fnPublishBackSpec).preRow enc Tryd.prog Tryd.f5 Rows.fnPublishBackRow.domain false Rows.fnPublishBackRow.laid) (((OpenSpec.ofChange Rows.fnPublishBackSpec).at F).post enc Tryd.prog Tryd.f5 false true false false) := by
  obtain ⟨places, hx⟩ := reads os enc
  refine returnsInHanded_of_row (C := Tryd.checked) (s := OpenSpec.ofChange Rows.fnPublishBackSpec) own started (by kernel_rfl) Tryd.func5
    (witness_row_atRef (enc := enc) (C := Tryd.checked) false (World.laidAll Tryd.prog os Rows.fnPublishBackRow.laid) #[.int .u8 0, .bool false, .string .empty, .int .u16 0, .string .empty] (World.laidAll_os _ _ _) (by kernel_rfl) (by kernel_rfl) (by kernel_rfl)
      (OpenSpec.preRow_of_cond 8 hx (by kernel_rfl) (fun k hk => by cases hk) (by kernel_rfl) (door_met os _))) ?_
  intro W base args ds gs before hval hW _ hcond _ hL _ _
  exact contract H enc W args ds gs before hval hW hL

theorem said : Rows.FnPublishBackSaid :=
  OpenClaim.holds_of_cond 5 Tryd.f5 rfl rfl rfl rfl rfl rfl rfl ⟨rfl, rfl, rfl, rfl, rfl⟩ rfl rfl rfl rfl rfl (by kernel_rfl) Tryd.func5 (by kernel_rfl)
    (of_decide_eq_true (by kernel_rfl)) (by unfold Func.isWrapper; first | (rw [if_pos (by decide +kernel)]; kernel_rfl) | (rw [if_neg (by decide +kernel)]; exact ⟨rfl, rfl⟩))
    (fun os started H enc _ F => by rw [OpenClaim.pre_eq_preRow]; exact lifted os started H enc F)

theorem plain (f : FuncId) (fn : Func) (hf : Tryd.pinned.checked.prog.funcNamed "pub-streamkeep/laws.FnPublishBack" = some f) (hfn : Tryd.pinned.checked.prog.funcs[f]? = some fn) :
    false = Tryd.pinned.checked.prog.looks [] ∧ ∀ (j : Nat) t, fn.params[j]? = some t → Tryd.pinned.checked.prog.wantsStandIn t = false := by
  obtain rfl : f = 5 := Option.some.inj ((show Tryd.prog.funcNamed "pub-streamkeep/laws.FnPublishBack" = some 5 by kernel_rfl).symm.trans hf) |>.symm
  obtain rfl : fn = Tryd.f5 := (Option.some.inj (Tryd.func5.symm.trans hfn)).symm
  refine ⟨by kernel_rfl, fun j t ht => ?_⟩
  rw [Tryd.params5] at ht
  have hm : t ∈ [5, 4, 9, 30, 9] := by simpa using Array.mem_of_getElem? ht
  have hall : ([5, 4, 9, 30, 9].all fun u => !Tryd.prog.wantsStandIn u) = true := by kernel_rfl
  exact (show Tryd.prog.wantsStandIn t = false by simpa using List.all_eq_true.1 hall t hm)

/-- THE CARD. -/
theorem card : Rows.FnPublishBackCardSaid :=
  Claim7.holds_tied_plain_at .later [] _ _ _ _ said (fun _ h => by cases h) (by kernel_rfl) (fun _ h => by cases h) fnPublishBack_row_tie rfl ⟨rfl, rfl⟩ (by kernel_rfl) rfl plain (by kernel_rfl)

end Go.Proofs.YtjaodjeommkjgaaDoor.publishBack
