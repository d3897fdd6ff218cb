/-
  Rows of bytes in blocks of their own, the reader's own row, and what is as it was but for some blocks.
-/
import Derived.Test.YtkkedekgniffoaaDoorKit
import Derived.Test.YtkkedekgniffoaaDoorFm
import Derived.Test.YtkkedekgniffoaaDoorProg
import Derived.Lib.ConvBytes
import Derived.Lib.AtoiErrMem
import Derived.Lib.EndianMore
import Derived.Laws.BitsAllLaws
import Derived.Laws.IdiomCopy
namespace Go.Proofs.YtkkedekgniffoaaDoor
open Go.RowKit

def bv (c : UInt8) : Value := .int .u8 (c.toNat : Int)

/-- the bytes l lie in block bb, from its head on -/
def ByteRow (W : World) (bb : Nat) (l : List UInt8) : Prop := ∃ (cs : Array Value) (f : Nat × Nat), W.heap[bb]? = some (.cells cs 5 f) ∧ l.length ≤ cs.size ∧ (cs.size ≤ f.1 ∨ f.1 = 0 ∧ f.2 = 0) ∧ ∀ (j : Nat) (c : UInt8), l[j]? = some c → cs[j]? = some (bv c)
theorem ByteRow.cell {W : World} {bb j : Nat} {l : List UInt8} {c : UInt8} (h : ByteRow W bb l) (hj : l[j]? = some c) : W.cell? ⟨bb, j, none⟩ = some (.int .u8 c.toNat) := by
  obtain ⟨cs, f, h1, h2, h3, h4⟩ := h
  simp only [World.cell?, h1]
  simpa [bv] using h4 j c hj
theorem ByteRow.fz {W : World} {bb j : Nat} {l : List UInt8} (h : ByteRow W bb l) (hj : j < l.length) : W.frozen? ⟨bb, j, none⟩ = false := by
  obtain ⟨cs, f, h1, h2, h3, h4⟩ := h
  simp only [World.frozen?, h1]
  simp; omega
theorem ByteRow.lt {W : World} {bb : Nat} {l : List UInt8} (h : ByteRow W bb l) : bb < W.heap.size := by
  obtain ⟨cs, f, h1, _⟩ := h
  exact (Array.getElem?_eq_some_iff.1 h1).1
theorem ByteRow.set {W : World} {bb j : Nat} {l : List UInt8} (h : ByteRow W bb l) (c : UInt8) : ByteRow (W.setCell ⟨bb, j, none⟩ (.int .u8 c.toNat)) bb (l.set j c) := by
  obtain ⟨cs, f, h1, h2, h3, h4⟩ := h
  refine ⟨_, f, K.heap_setCell_at h1 _, by simpa using h2, by simpa using h3, fun i d hd => ?_⟩
  rw [List.getElem?_set] at hd
  rw [Array.getElem?_setIfInBounds]
  by_cases hji : j = i
  · subst hji
    rw [if_pos rfl] at hd ⊢
    split at hd
    · rw [if_pos (by omega)]; cases hd; rfl
    · cases hd
  · rw [if_neg hji] at hd ⊢
    exact h4 i d hd
theorem ByteRow.at {W W' : World} {bb : Nat} {l : List UInt8} (h : ByteRow W bb l) (e : W'.heap[bb]? = W.heap[bb]?) : ByteRow W' bb l := by
  obtain ⟨cs, f, h1, h2⟩ := h
  exact ⟨cs, f, e.trans h1, h2⟩
theorem ByteRow.ne {W : World} {bb R : Nat} {l : List UInt8} {cs : Array Value} {t : TypeId} {f : Nat × Nat} (h : ByteRow W bb l) (hr : W.heap[R]? = some (.cells cs t f)) (ht : t ≠ 5) : bb ≠ R := by
  rintro rfl
  obtain ⟨cs', f', h1, _⟩ := h
  rw [h1] at hr
  cases hr
  exact ht rfl
theorem ByteRow.new (w : World) (s : ByteArray) : ByteRow (Lib.bytesWorld w 5 s) w.heap.size s.data.toList := by
  have h := Lib.bytesWorld_at_new w 5 s
  refine ⟨_, _, h, ?_, Or.inl (Nat.le_refl _), fun j c hj => ?_⟩
  · rcases Nat.eq_zero_or_pos s.size with h0 | h0
    · rw [K.bsize]; omega
    · have hc := Lib.bytesWorld_cell w 5 s (s.size - 1) (by omega)
      simp only [World.cell?, h] at hc
      have := (Array.getElem?_eq_some_iff.1 (by simpa using hc)).1
      rw [K.bsize]; omega
  · have hlt : j < s.size := by have := (List.getElem?_eq_some_iff.1 hj).1; rwa [K.bsize] at this
    have hc := Lib.bytesWorld_cell w 5 s j hlt
    simp only [World.cell?, h] at hc
    rw [List.getD, hj] at hc
    simpa [bv] using hc

/-- the bytes from o on, n of them, under the key -/
def mixU (key : List UInt8) (kp : Nat) (l : List UInt8) (o n : Nat) : List UInt8 := l.mapIdx (fun j c => if o ≤ j ∧ j < o + n then c ^^^ Fr.kat key (kp + (j - o)) else c)
theorem mixU_length (key : List UInt8) (kp : Nat) (l : List UInt8) (o n : Nat) : (mixU key kp l o n).length = l.length := by simp [mixU]
theorem mixU_get (key : List UInt8) (kp : Nat) (l : List UInt8) (o n j : Nat) : (mixU key kp l o n)[j]? = (l[j]?).map (fun c => if o ≤ j ∧ j < o + n then c ^^^ Fr.kat key (kp + (j - o)) else c) := by simp [mixU]
theorem mixU_zero (key : List UInt8) (kp : Nat) (l : List UInt8) (o : Nat) : mixU key kp l o 0 = l := by
  apply List.ext_getElem?
  intro j
  rw [mixU_get]
  cases l[j]? with
  | none => rfl
  | some c => simp; intro h1 h2; omega
theorem mixU_far (key : List UInt8) (kp : Nat) (l : List UInt8) (o n j : Nat) (h : j < o ∨ o + n ≤ j) : (mixU key kp l o n)[j]? = l[j]? := by
  rw [mixU_get]
  cases l[j]? with
  | none => rfl
  | some c => simp; intro h1 h2; omega
theorem mixU_step (key : List UInt8) (kp : Nat) (l : List UInt8) (o i : Nat) (h : o + i < l.length) : mixU key kp l o (i + 1) = (mixU key kp l o i).set (o + i) (l[o + i] ^^^ Fr.kat key (kp + i)) := by
  apply List.ext_getElem?
  intro j
  rw [mixU_get, List.getElem?_set]
  by_cases hj : o + i = j
  · subst hj
    rw [if_pos rfl, if_pos (by rw [mixU_length]; exact h), List.getElem?_eq_getElem h]
    simp
  · rw [if_neg hj, mixU_get]
    cases l[j]? with
    | none => rfl
    | some c =>
      simp only [Option.map_some]
      congr 1
      by_cases h1 : o ≤ j ∧ j < o + i
      · rw [if_pos h1, if_pos (by omega)]
      · rw [if_neg h1, if_neg (by omega)]
theorem mixU_unm (key : List UInt8) (kp : Nat) (l : List UInt8) (o n : Nat) : ((mixU key kp l o n).drop o).take n = Fr.unm key kp ((l.drop o).take n) := by
  have hg : ∀ (p : Nat) (m : List UInt8) (j : Nat), (Fr.unm key p m)[j]? = (m[j]?).map (fun c => c ^^^ Fr.kat key (p + j)) := by
    intro p m
    induction m generalizing p with
    | nil => intro j; simp [Fr.unm]
    | cons c m ih =>
      intro j
      cases j with
      | zero => simp [Fr.unm]
      | succ j => simp only [Fr.unm, List.getElem?_cons_succ, ih]; rw [show p + 1 + j = p + (j + 1) from by omega]
  apply List.ext_getElem?
  intro j
  rw [hg, List.getElem?_take, List.getElem?_take]
  by_cases hj : j < n
  · rw [if_pos hj, if_pos hj, List.getElem?_drop, List.getElem?_drop, mixU_get]
    cases l[o + j]? with
    | none => rfl
    | some c => simp [hj]
  · rw [if_neg hj, if_neg hj]; rfl

theorem xor8 (a b : UInt8) : bits .xor .u8 (a.toNat : Int) (b.toNat : Int) = ((a ^^^ b).toNat : Int) := by
  rw [u8_xor_nat _ _ a.toNat_lt b.toNat_lt, UInt8.toNat_xor]

/-- it is as it was, but for the blocks S -/
structure But (S : Nat → Prop) (w w' : World) : Prop where
  os : w'.os = w.os
  tape : w'.tape = w.tape
  output : w'.output = w.output
  size : w.heap.size ≤ w'.heap.size
  block : ∀ k, k < w.heap.size → ¬ S k → w'.heap[k]? = w.heap[k]?
theorem But.refl (S : Nat → Prop) (w : World) : But S w w := ⟨rfl, rfl, rfl, Nat.le_refl _, fun _ _ _ => rfl⟩
theorem But.trans {S : Nat → Prop} {a b c : World} (h : But S a b) (h2 : But S b c) : But S a c :=
  ⟨h2.os.trans h.os, h2.tape.trans h.tape, h2.output.trans h.output, Nat.le_trans h.size h2.size, fun k hk hs => (h2.block k (Nat.lt_of_lt_of_le hk h.size) hs).trans (h.block k hk hs)⟩
theorem But.mono {S T : Nat → Prop} {a b : World} (h : But S a b) (hst : ∀ k, k < a.heap.size → S k → T k) : But T a b := ⟨h.os, h.tape, h.output, h.size, fun k hk hs => h.block k hk (fun hS => hs (hst k hk hS))⟩
theorem But.below {B : Nat} {S : Nat → Prop} {a b c : World} (h : Below B a b) (h2 : But S b c) (hB : ∀ k, S k → B ≤ k) (hs : B ≤ b.heap.size) : Below B a c :=
  ⟨h2.os.trans h.os, h2.tape.trans h.tape, h2.output.trans h.output, Nat.le_trans h.size h2.size, fun k hk => (h2.block k (by omega) (fun hS => by have := hB k hS; omega)).trans (h.block k hk)⟩
theorem But.of {S : Nat → Prop} {a b : World} (h : Below a.heap.size a b) : But S a b := ⟨h.os, h.tape, h.output, h.size, fun k hk _ => h.block k hk⟩
theorem But.setCell {S : Nat → Prop} {a b : World} (h : But S a b) (p : Addr) (v : Value) (hp : S p.block) : But S a (b.setCell p v) := by
  refine ⟨h.os, h.tape, h.output, by simpa using h.size, fun k hk hs => ?_⟩
  rw [Below.heap_setCell _ _ _ _ (fun e : k = p.block => hs (by rw [e]; exact hp))]
  exact h.block k hk hs
theorem But.drewN {S : Nat → Prop} {a b : World} (h : But S a b) (n : Nat) : But S a (b.drewN n) := ⟨h.os, h.tape, h.output, h.size, h.block⟩
theorem ByteRow.but {S : Nat → Prop} {W W' : World} {bb : Nat} {l : List UInt8} (h : ByteRow W bb l) (hb : But S W W') (hs : ¬ S bb) : ByteRow W' bb l := h.at (hb.block bb h.lt hs)

/-- the reader's row -/
structure RdV where
  rem : Nat
  fs : Bool
  ff : Bool
  kp : Nat
  key : List UInt8
  cb : Value
  co : Value
  cz : Value
def RdV.row (r : RdV) : Array Value := #[.int .u64 r.rem, .bool r.fs, .bool r.ff, .bool false, .bool true, .int .u8 r.kp, bv (r.key.getD 0 0), bv (r.key.getD 1 0), bv (r.key.getD 2 0), bv (r.key.getD 3 0), r.cb, r.co, r.cz]
def RdAt (w : World) (R : Nat) (r : RdV) : Prop := w.heap[R]? = some (.cells r.row 66 (0, 0))
theorem RdAt.key {w : World} {R : Nat} {r : RdV} (h : RdAt w R r) (i : Nat) : w.cell? ⟨R, 6 + i % 4, none⟩ = some (.int .u8 ((Fr.kat r.key i).toNat : Int)) := by
  unfold RdAt RdV.row at h
  have : i % 4 = 0 ∨ i % 4 = 1 ∨ i % 4 = 2 ∨ i % 4 = 3 := by omega
  unfold Fr.kat
  rcases this with e | e | e | e <;> simp [World.cell?, h, e, bv]
theorem RdAt.at {W W' : World} {R : Nat} {r : RdV} (h : RdAt W R r) (e : W'.heap[R]? = W.heap[R]?) : RdAt W' R r := e.trans h
theorem RdAt.lt {W : World} {R : Nat} {r : RdV} (h : RdAt W R r) : R < W.heap.size := (Array.getElem?_eq_some_iff.1 h).1
theorem RdAt.c0 {w : World} {R : Nat} {r : RdV} (h : RdAt w R r) : w.cell? ⟨R, 0, none⟩ = some (.int .u64 r.rem) := by unfold RdAt RdV.row at h; simp [World.cell?, h]
theorem RdAt.c1 {w : World} {R : Nat} {r : RdV} (h : RdAt w R r) : w.cell? ⟨R, 1, none⟩ = some (.bool r.fs) := by unfold RdAt RdV.row at h; simp [World.cell?, h]
theorem RdAt.c2 {w : World} {R : Nat} {r : RdV} (h : RdAt w R r) : w.cell? ⟨R, 2, none⟩ = some (.bool r.ff) := by unfold RdAt RdV.row at h; simp [World.cell?, h]
theorem RdAt.c3 {w : World} {R : Nat} {r : RdV} (h : RdAt w R r) : w.cell? ⟨R, 3, none⟩ = some (.bool false) := by unfold RdAt RdV.row at h; simp [World.cell?, h]
theorem RdAt.c4 {w : World} {R : Nat} {r : RdV} (h : RdAt w R r) : w.cell? ⟨R, 4, none⟩ = some (.bool true) := by unfold RdAt RdV.row at h; simp [World.cell?, h]
theorem RdAt.c5 {w : World} {R : Nat} {r : RdV} (h : RdAt w R r) : w.cell? ⟨R, 5, none⟩ = some (.int .u8 r.kp) := by unfold RdAt RdV.row at h; simp [World.cell?, h]
theorem RdAt.fz {w : World} {R : Nat} {r : RdV} (h : RdAt w R r) (i : Nat) : w.frozen? ⟨R, i, none⟩ = false := by unfold RdAt RdV.row at h; simp [World.frozen?, h]
theorem RdAt.set0 {w : World} {R : Nat} {r : RdV} (h : RdAt w R r) (n : Nat) : RdAt (w.setCell ⟨R, 0, none⟩ (.int .u64 n)) R { r with rem := n } := by
  unfold RdAt RdV.row at *; rw [K.heap_setCell_at h]; simp
theorem RdAt.set1 {w : World} {R : Nat} {r : RdV} (h : RdAt w R r) (b : Bool) : RdAt (w.setCell ⟨R, 1, none⟩ (.bool b)) R { r with fs := b } := by
  unfold RdAt RdV.row at *; rw [K.heap_setCell_at h]; simp
theorem RdAt.set2 {w : World} {R : Nat} {r : RdV} (h : RdAt w R r) (b : Bool) : RdAt (w.setCell ⟨R, 2, none⟩ (.bool b)) R { r with ff := b } := by
  unfold RdAt RdV.row at *; rw [K.heap_setCell_at h]; simp
theorem RdAt.set3 {w : World} {R : Nat} {r : RdV} (h : RdAt w R r) : RdAt (w.setCell ⟨R, 3, none⟩ (.bool false)) R r := by
  unfold RdAt RdV.row at *; rw [K.heap_setCell_at h]; simp
theorem RdAt.set5 {w : World} {R : Nat} {r : RdV} (h : RdAt w R r) (n : Nat) : RdAt (w.setCell ⟨R, 5, none⟩ (.int .u8 n)) R { r with kp := n } := by
  unfold RdAt RdV.row at *; rw [K.heap_setCell_at h]; simp
end Go.Proofs.YtkkedekgniffoaaDoor
