/-
  spec.MQTTText of a short text: its two bytes of length, and it.
-/
import Derived.Test.YtjaodjeommkjgaaDoorAwake
namespace Go.Proofs.YtjaodjeommkjgaaDoor
open Go.RowKit
open K (Lies)

theorem conv_two (W : World) (x y : Int) : (convert 37 9 (.slice (some ⟨W.heap.size, 0, none⟩) 2 2)).run Tryd.prog (W.alloc (.cells #[.int .u8 x, .int .u8 y] 5)) = .ok (.string (strOfNums [x, y])) (W.alloc (.cells #[.int .u8 x, .int .u8 y] 5)) := by
  refine run_convert_bytes_arg _ 37 5 underlyings.2.1 underlyings.2.2 W.heap.size 0 2 2 [x, y] rfl (fun i hi => ?_) 9 underlyings.1
  rw [World.cell?_alloc_at _ _ _ _ (by simp)]
  have : i = 0 ∨ i = 1 := by omega
  rcases this with rfl | rfl <;> rfl

def TextPost (t : ByteArray) (w : World) (e : Ending) (w' : World) : Prop := ∃ b : ByteArray, e = .returned (.string b) ∧ b.data.toList = 0 :: t.size.toUInt8 :: t.data.toList ∧ Below w.heap.size w w'
set_option maxRecDepth 100000 in
theorem text_any (t : ByteArray) (w : World) (ht : t.size ≤ 60) : Calls Tryd.prog 16 #[.string t] w (TextPost t w) := by
  have hst := conv_two
  have h2 : ∀ x y : Int, (strOfNums [x, y]).size = 2 := fun x y => strOfNums_size [x, y]
  go_enter Tryd.func16, Tryd.ntmps16
  go_wp2_with fail
  go_ret
  refine ⟨_, rfl, ?_, (Below.refl _ w).alloc (Nat.le_refl _) _⟩
  rw [K.bapp, strOfNums_data]
  have e1 : (UInt8.ofNat ((t.size : Int) / 256).toNat) = 0 := by rw [show ((t.size : Int) / 256).toNat = 0 from by omega]; rfl
  have e2 : (UInt8.ofNat ((t.size : Int)).toNat) = t.size.toUInt8 := by simp
  simp only [List.map_cons, List.map_nil, e1, e2]
  rfl
theorem size_byte (n : Nat) (h : n ≤ 60) : (0 : UInt8).toNat * 256 + n.toUInt8.toNat = n := by
  have : n.toUInt8.toNat = n := by simp; omega
  rw [this]; simp
end Go.Proofs.YtjaodjeommkjgaaDoor
