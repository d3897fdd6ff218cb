/-
  decodeConsumerState's readers: a number, a time; the header.
-/
import Derived.Test.YtchphfdoneckeaaDoorEb
import Derived.Test.YtchphfdoneckeaaDoorShelf
import Derived.BigQuiet
namespace Go.Proofs.YtchphfdoneckeaaDoor
open Go.RowKit Go.Lib
open Cs (Wt Kp Ag)

/-- what is read lies in the block bb; the block BX holds the slice -/
structure DecAt (w : World) (BX bb N M : Nat) (all : List UInt8) : Prop where
  bx : w.heap[BX]? = some (.cells #[.slice (some ⟨bb, 0, none⟩) N M] 67 (0, 0))
  len : all.length = N
  le : N ≤ M
  lt : bb < w.heap.size
  got : ∀ j (hj : j < all.length), w.cell? ⟨bb, j, none⟩ = some (.int .u8 (all[j].toNat : Int))
def BiAt (w : World) (BI pos : Nat) : Prop := w.heap[BI]? = some (.cells #[.int .i64 (pos : Int)] 3 (0, 0))
theorem DecAt.but {S : Nat → Prop} {w w' : World} {BX bb N M : Nat} {all : List UInt8} (h : DecAt w BX bb N M all) (hb : But S w w') (h1 : ¬ S BX) (h2 : ¬ S bb) : DecAt w' BX bb N M all := by
  have e := hb.block bb h.lt h2
  exact ⟨(hb.block BX (lt_of_heap h.bx) h1).trans h.bx, h.len, h.le, Nat.lt_of_lt_of_le h.lt hb.size, fun j hj => by have := h.got j hj; simp only [World.cell?, e] at this ⊢; exact this⟩
theorem BiAt.set {w : World} {BI pos : Nat} (h : BiAt w BI pos) (p2 : Nat) : BiAt (w.setCell ⟨BI, 0, none⟩ (.int .i64 (p2 : Int))) BI p2 := K.heap_setCell_at h _
theorem cells_from {w : World} {BX bb N M pos : Nat} {all : List UInt8} (h : DecAt w BX bb N M all) : ∀ j (hj : j < (all.drop pos).length), w.cell? ⟨bb, pos + j, none⟩ = some (.int .u8 ((all.drop pos)[j].toNat : Int)) := fun j hj => by
  rw [List.length_drop] at hj
  rw [List.getElem_drop]
  exact h.got (pos + j) (by omega)
def RdPost (BI pos2 : Nat) (v : Value) (w : World) (e : Ending) (w' : World) : Prop := e = .returned v ∧ w' = w.setCell ⟨BI, 0, none⟩ (.int .i64 (pos2 : Int))

set_option maxRecDepth 100000 in
theorem read_u {w : World} {BI BX bb N M pos x : Nat} {all r : List UInt8} (hD : DecAt w BX bb N M all) (hB : BiAt w BI pos) (hr : all.drop pos = uvarint x ++ r) (hx : x < 9223372036854775808) (hN : M ≤ 1000000) :
    Calls Tryd.prog 47 #[.pointer (some ⟨BI, 0, none⟩), .pointer (some ⟨BX, 0, none⟩)] w (RdPost BI (pos + (uvarint x).length) (.int .u64 (x : Int)) w) := by
  have h48 := Tryd.binary_Uvarint bb pos (N - pos) (M - pos) (all.drop pos) w (by rw [List.length_drop, hD.len]) (cells_from hD)
  rw [hr, uv_back hx] at h48
  have b0 : w.cell? ⟨BI, 0, none⟩ = some (.int .i64 (pos : Int)) := cell_of hB rfl
  have b1 : w.frozen? ⟨BI, 0, none⟩ = false := thawed hB 0
  have b2 : w.cell? ⟨BX, 0, none⟩ = some (.slice (some ⟨bb, 0, none⟩) N M) := cell_of hD.bx rfl
  have hl := congrArg List.length hr
  rw [List.length_drop, List.length_append, hD.len] at hl
  have hp := uvarint_pos x
  obtain ⟨l, hl2⟩ : ∃ l, (uvarint x).length = l := ⟨_, rfl⟩
  have hle := hD.le
  rw [hl2] at h48 hl hp ⊢
  have e0 : (0 : Int) ≤ (pos : Int) := by omega
  have e1 : (pos : Int) ≤ (N : Int) := by omega
  have e2 : (N : Int) ≤ (M : Int) := by omega
  have e3 : ¬ (pos = M) := by omega
  have e4 : ¬ ((pos : Int) = (M : Int)) := by omega
  have e5 : (0 : Int) < (l : Int) := by omega
  have e6 : (pos : Int) + (l : Int) ≤ 1000000 := by omega
  have e7 : (M : Int) ≤ 1000000 := by omega
  have e8 : (0 : Int) ≤ (pos : Int) + (l : Int) := by omega
  clear hr hl hp hD hB hle hx hl2 hN
  go_enter Tryd.func47, Tryd.ntmps47
  go_wp2_with fail
  refine h48.mono ?_
  rintro e w1 ⟨rfl, rfl⟩
  clear h48
  go_wp2_with fail
  go_ret
  refine ⟨rfl, ?_⟩
  push_cast
  rfl
set_option maxRecDepth 100000 in
theorem read_v {w : World} {BI BX bb N M pos : Nat} {x : Int} {all r : List UInt8} (hD : DecAt w BX bb N M all) (hB : BiAt w BI pos) (hr : all.drop pos = uvarint (zigzag x) ++ r) (hx0 : -4611686018427387904 ≤ x) (hx : x ≤ 0) (hN : M ≤ 1000000) :
    Calls Tryd.prog 49 #[.pointer (some ⟨BI, 0, none⟩), .pointer (some ⟨BX, 0, none⟩)] w (RdPost BI (pos + (uvarint (zigzag x)).length) (.int .i64 x) w) := by
  have h48 := Tryd.binary_Varint bb pos (N - pos) (M - pos) (all.drop pos) w (by rw [List.length_drop, hD.len]) (cells_from hD)
  rw [hr, zz_back hx0 hx] at h48
  have b0 : w.cell? ⟨BI, 0, none⟩ = some (.int .i64 (pos : Int)) := cell_of hB rfl
  have b1 : w.frozen? ⟨BI, 0, none⟩ = false := thawed hB 0
  have b2 : w.cell? ⟨BX, 0, none⟩ = some (.slice (some ⟨bb, 0, none⟩) N M) := cell_of hD.bx rfl
  have hl := congrArg List.length hr
  rw [List.length_drop, List.length_append, hD.len] at hl
  have hp := uvarint_pos (zigzag x)
  obtain ⟨l, hl2⟩ : ∃ l, (uvarint (zigzag x)).length = l := ⟨_, rfl⟩
  have hle := hD.le
  rw [hl2] at h48 hl hp ⊢
  have e0 : (0 : Int) ≤ (pos : Int) := by omega
  have e1 : (pos : Int) ≤ (N : Int) := by omega
  have e2 : (N : Int) ≤ (M : Int) := by omega
  have e3 : ¬ (pos = M) := by omega
  have e4 : ¬ ((pos : Int) = (M : Int)) := by omega
  have e5 : (0 : Int) < (l : Int) := by omega
  have e6 : (pos : Int) + (l : Int) ≤ 1000000 := by omega
  have e7 : (M : Int) ≤ 1000000 := by omega
  have e8 : (0 : Int) ≤ (pos : Int) + (l : Int) := by omega
  clear hr hl hp hD hB hle hx hx0 hl2 hN
  go_enter Tryd.func49, Tryd.ntmps49
  go_wp2_with fail
  refine h48.mono ?_
  rintro e w1 ⟨rfl, rfl⟩
  clear h48
  go_wp2_with fail
  go_ret
  refine ⟨rfl, ?_⟩
  push_cast
  rfl
set_option maxRecDepth 100000 in
theorem check_any {w : World} {BX bb N M : Nat} {r : List UInt8} (hD : DecAt w BX bb N M ([22, 2] ++ r)) :
    Calls Tryd.prog 46 #[.slice (some ⟨bb, 0, none⟩) N M] w fun e w' => e = .returned (.tuple #[.int .u8 2, .nilIface]) ∧ w' = w := by
  have a0 : w.cell? ⟨bb, 0, none⟩ = some (.int .u8 22) := hD.got 0 (by simp)
  have a1 : w.cell? ⟨bb, 1, none⟩ = some (.int .u8 2) := hD.got 1 (by simp)
  have hl := hD.len
  rw [List.length_append] at hl
  have hl2 : ([22, 2] : List UInt8).length = 2 := rfl
  have e0 : (2 : Int) ≤ (N : Int) := by omega
  have e1 : (0 : Int) < (N : Int) := by omega
  have e2 : (1 : Int) < (N : Int) := by omega
  clear hl hl2 hD
  go_enter Tryd.func46, Tryd.ntmps46
  go_wp2_with fail
  go_ret2
  exact ⟨rfl, rfl⟩
end Go.Proofs.YtchphfdoneckeaaDoor
