/-
  A row of bytes in a block of its own: what a conversion from a text makes, what a store leaves, what the conversion back reads.
-/
import Derived.Test.YtnjjhklefamaoaaDoorLow
import Derived.Lib.ConvBytes
import Derived.Lib.AtoiErrMem
namespace Go.Proofs.YtnjjhklefamaoaaDoor
open Go.RowKit
open Dn (Attr Name)

def ByteRow (W : World) (bb : Nat) (l : List UInt8) : Prop := ∃ (cs : Array Value) (f : Nat × Nat), W.heap[bb]? = some (.cells cs 5 f) ∧ l.length ≤ cs.size ∧ cs.size ≤ f.1 ∧ ∀ (j : Nat) (c : UInt8), l[j]? = some c → cs[j]? = some (.int .u8 c.toNat)
theorem ByteRow.cell {W : World} {bb j : Nat} {l : List UInt8} {c : UInt8} (h : ByteRow W bb l) (hj : l[j]? = some c) : W.cell? ⟨bb, j, none⟩ = some (.int .u8 c.toNat) := by
  obtain ⟨cs, f, h1, h2, h3, h4⟩ := h
  simp only [World.cell?, h1]
  simpa using h4 j c hj
theorem ByteRow.fz {W : World} {bb j : Nat} {l : List UInt8} (h : ByteRow W bb l) (hj : j < l.length) : W.frozen? ⟨bb, j, none⟩ = false := by
  obtain ⟨cs, f, h1, h2, h3, h4⟩ := h
  simp only [World.frozen?, h1]
  simp; omega
theorem ByteRow.set {W : World} {bb j : Nat} {l : List UInt8} (h : ByteRow W bb l) (c : UInt8) : ByteRow (W.setCell ⟨bb, j, none⟩ (.int .u8 c.toNat)) bb (l.set j c) := by
  obtain ⟨cs, f, h1, h2, h3, h4⟩ := h
  refine ⟨_, f, K.heap_setCell_at h1 _, by simpa using h2, by simpa using h3, fun i d hd => ?_⟩
  rw [List.getElem?_set] at hd
  rw [Array.getElem?_setIfInBounds]
  by_cases hji : j = i
  · subst hji
    rw [if_pos rfl] at hd ⊢
    split at hd
    · rw [if_pos (by omega)]; cases hd; rfl
    · cases hd
  · rw [if_neg hji] at hd ⊢
    exact h4 i d hd
theorem ByteRow.new (w : World) (s : ByteArray) : ByteRow (Lib.bytesWorld w 5 s) w.heap.size s.data.toList := by
  have h := Lib.bytesWorld_at_new w 5 s
  refine ⟨_, _, h, ?_, Nat.le_refl _, fun j c hj => ?_⟩
  · rcases Nat.eq_zero_or_pos s.size with h0 | h0
    · rw [K.bsize]; omega
    · have hc := Lib.bytesWorld_cell w 5 s (s.size - 1) (by omega)
      simp only [World.cell?, h] at hc
      have := (Array.getElem?_eq_some_iff.1 (by simpa using hc)).1
      rw [K.bsize]; omega
  · have hlt : j < s.size := by have := (List.getElem?_eq_some_iff.1 hj).1; rwa [K.bsize] at this
    have hc := Lib.bytesWorld_cell w 5 s j hlt
    simp only [World.cell?, h] at hc
    rw [List.getD, hj] at hc
    simpa using hc
theorem below33 {B : Nat} (w : World) (h : B ≤ w.heap.size) (s : ByteArray) : Below B w (Lib.bytesWorld w 5 s) := Below.mono (Lib.bytesWorld_below w 5 s) h
theorem conv33 (w : World) (s : ByteArray) : (convert 9 33 (.string s)).run Tryd.prog w = .ok (.slice (some ⟨w.heap.size, 0, none⟩) s.size (grownCap w s.size 0 5)) (Lib.bytesWorld w 5 s) :=
  Lib.run_convert_string_bytes w 9 33 5 s underlyings.1 underlyings.2.1 underlyings.2.2
theorem ByteRow.conv {W : World} {bb n cap : Nat} {l : List UInt8} (h : ByteRow W bb l) (hn : l.length = n) : (convert 33 9 (.slice (some ⟨bb, 0, none⟩) n cap)).run Tryd.prog W = .ok (.string ⟨l.toArray⟩) W := by
  have e : strOfNums (l.map fun b => (b.toNat : Int)) = ⟨l.toArray⟩ := by
    apply ByteArray.ext
    simp [strOfNums, List.map_map, Function.comp_def]
  rw [← e]
  refine run_convert_bytes_arg W 33 5 underlyings.2.1 underlyings.2.2 bb 0 n cap (l.map fun b => (b.toNat : Int)) (by simp [hn]) (fun i hi => ?_) 9 underlyings.1
  have hi2 : i < l.length := by rw [hn]; simpa using hi
  have := h.cell (List.getElem?_eq_getElem hi2)
  simpa [hi2] using this
end Go.Proofs.YtnjjhklefamaoaaDoor
