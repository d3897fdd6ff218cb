/-
  mqttReader: readUint16, readBytes.
-/
import Derived.Test.YtjaodjeommkjgaaDoorBack
import Derived.Deep.QuietTactic
import Derived.StillTailTactics
import Derived.BigQuiet
import Derived.Lib.Endian
import Derived.Lib.EndianBits
import Derived.RegionTactic
namespace Go.Proofs.YtjaodjeommkjgaaDoor
open Go.RowKit
open K (Lies)

set_option maxHeartbeats 8000000 in
set_option maxRecDepth 100000 in
theorem uint16_any (ab ao c : Nat) (x y : UInt8) (w : World) (c0 : w.cell? ⟨ab, ao, none⟩ = some (.int .u8 x.toNat)) (c1 : w.cell? ⟨ab, ao + 1, none⟩ = some (.int .u8 y.toNat)) :
    Calls Tryd.prog 43 #[.agg #[], .slice (some ⟨ab, ao, none⟩) 2 c] w (fun e w' => e = .returned (.int .u16 ((x.toNat : Int) * 256 + (y.toNat : Int))) ∧ Below w.heap.size w w') := by
  have d0 := cell?_alloc_old (.cells #[] 92) c0
  have e0 : (w.alloc (.cells #[] 92)).drew.cell? ⟨ab, ao, none⟩ = some (.int .u8 x.toNat) := d0
  have d1 := cell?_alloc_old (.cells #[] 92) c1
  have e1 : (w.alloc (.cells #[] 92)).drew.cell? ⟨ab, ao + 1, none⟩ = some (.int .u8 y.toNat) := d1
  have h0 : x.toNat < 256 := x.toNat_lt
  have h1 : y.toNat < 256 := y.toNat_lt
  go_enter Tryd.func43, Tryd.ntmps43
  go_wp2_with fail
  go_region
  go_wp2_with fail
  go_ret
  refine ⟨?_, Below.drew ((Below.refl _ w).alloc (Nat.le_refl _) _)⟩
  simp (disch := omega) only [u16_or8]
  rw [show (x.toNat : Int) * 256 + (y.toNat : Int) = (y.toNat : Int) + (x.toNat : Int) * 256 from by omega]
  rfl

/-- The reader's block: the bytes, the place, and what this claim never reads. -/
def Rd (R : Nat) (buf : Value) (pos : Int) (a b c : Value) (w : World) : Prop := w.heap[R]? = some (.cells #[buf, .int .i64 pos, a, b, c] 59 (0, 0))
theorem Rd.c0 {R : Nat} {buf a b c : Value} {pos : Int} {w : World} (h : Rd R buf pos a b c w) : w.cell? ⟨R, 0, none⟩ = some buf := by unfold Rd at h; simp [World.cell?, h]
theorem Rd.c1 {R : Nat} {buf a b c : Value} {pos : Int} {w : World} (h : Rd R buf pos a b c w) : w.cell? ⟨R, 1, none⟩ = some (.int .i64 pos) := by unfold Rd at h; simp [World.cell?, h]
theorem Rd.fz {R : Nat} {buf a b c : Value} {pos : Int} {w : World} (h : Rd R buf pos a b c w) (j : Nat) : w.frozen? ⟨R, j, none⟩ = false := by unfold Rd at h; simp [World.frozen?, h]
theorem Rd.set {R : Nat} {buf a b c : Value} {pos : Int} {w : World} (h : Rd R buf pos a b c w) (p : Int) : Rd R buf p a b c (w.setCell ⟨R, 1, none⟩ (.int .i64 p)) := K.heap_setCell_at h _
theorem Rd.lt {R : Nat} {buf a b c : Value} {pos : Int} {w : World} (h : Rd R buf pos a b c w) : R < w.heap.size := (Array.getElem?_eq_some_iff.1 h).1
theorem Rd.below {R : Nat} {buf a b c : Value} {pos : Int} {w w' : World} {B : Nat} (h : Rd R buf pos a b c w) (hb : Below B w w') (hR : R < B) : Rd R buf pos a b c w' := (hb.block _ hR).trans h

theorem grown_set (w : World) (R j : Nat) (v : Value) : w.grownBy (w.setCell ⟨R, j, none⟩ v) (some R) :=
  ⟨rfl, rfl, rfl, by simp, fun k _ hk => Below.heap_setCell _ _ _ _ (fun e => hk (by simp [e]))⟩
theorem grown_drawn {w w' : World} {n : Nat} {r : Option Nat} (h : (w.drewN n).grownBy w' r) : w.grownBy w' r := ⟨h.os, h.tape, h.output, h.size, h.block⟩
theorem grown_trans {a b c : World} {r : Option Nat} (h : a.grownBy b r) (k : b.grownBy c r) : a.grownBy c r :=
  ⟨k.os.trans h.os, k.tape.trans h.tape, k.output.trans h.output, Nat.le_trans h.size k.size, fun j hj hne => (k.block j (Nat.lt_of_lt_of_le hj h.size) hne).trans (h.block j hj hne)⟩
theorem grown_below {a b : World} (h : Below a.heap.size a b) (r : Option Nat) : a.grownBy b r := ⟨h.os, h.tape, h.output, h.size, fun j hj _ => h.block j hj⟩

def U16Post (R : Nat) (buf : Value) (pos : Int) (a b c : Value) (x y : UInt8) (w : World) (e : Ending) (w' : World) : Prop :=
  e = .returned (.tuple #[.int .u16 ((x.toNat : Int) * 256 + (y.toNat : Int)), .nilIface]) ∧ Rd R buf (pos + 2) a b c w' ∧ w.grownBy w' (some R)

set_option maxHeartbeats 8000000 in
set_option maxRecDepth 100000 in
theorem readUint16_any (R ab ao n cap pos : Nat) (l : List UInt8) (nm : ByteArray) (a b c : Value) (w : World) (hl : l.length = n) (hn : n ≤ 100000) (hnc : n ≤ cap) (hp : pos + 2 ≤ n) (hab : ab ≠ R) (hB : BytesAt w ab ao l)
    (hR : Rd R (.slice (some ⟨ab, ao, none⟩) n cap) pos a b c w) :
    Calls Tryd.prog 38 #[.pointer (some ⟨R, 0, none⟩), .string nm] w (U16Post R (.slice (some ⟨ab, ao, none⟩) n cap) pos a b c (l.getD pos 0) (l.getD (pos + 1) 0) w) := by
  have c0 := hR.c0
  have c1 := hR.c1
  have f1 := hR.fz 1
  have b0 := hB pos (by omega)
  have b1 := hB (pos + 1) (by omega)
  have HR := Lib.hid hR
  have HB := Lib.hid hB
  have HL := Lib.hid hl
  clear hR hB hl
  generalize l.getD pos 0 = x at b0 ⊢
  generalize l.getD (pos + 1) 0 = y at b1 ⊢
  go_enter Tryd.func38, Tryd.ntmps38
  go_wp2_with fail
  go_quiet (fail)
  go_wp2_with fail
  have hR2 : Rd R (.slice (some ⟨ab, ao, none⟩) n cap) ((pos : Int) + 2) a b c ((w.drewN nq).setCell ⟨R, 1, none⟩ (.int .i64 ((pos : Int) + 2))) := Rd.set (show Rd R _ pos a b c (w.drewN nq) from HR.out) _
  have hG2 : w.grownBy ((w.drewN nq).setCell ⟨R, 1, none⟩ (.int .i64 ((pos : Int) + 2))) (some R) := grown_drawn (grown_set (w.drewN nq) R 1 _)
  generalize (w.drewN nq).setCell ⟨R, 1, none⟩ (.int .i64 ((pos : Int) + 2)) = w2 at hR2 hG2 ⊢
  have d0 := hR2.c0
  have d1 := hR2.c1
  have e0 := hG2.cell b0 (by simp; exact hab)
  have e1 := hG2.cell b1 (by simp; exact hab)
  have HR2 := Lib.hid hR2
  have HG2 := Lib.hid hG2
  have q1 : (0 : Int) ≤ (pos : Int) := by omega
  have q2 : (pos : Int) ≤ (pos : Int) + 2 := by omega
  have q3 : (pos : Int) + 2 ≤ (cap : Int) := by omega
  clear hR2 hG2 c0 c1 f1 b0 b1
  go_still_tail 11, (by kernel_rfl)
  change wpList _ _ _ _ _ w2.drew
  have g0 : w2.drew.cell? ⟨ab, ao + pos, none⟩ = some (bv x) := e0
  have g1 : w2.drew.cell? ⟨ab, ao + pos + 1, none⟩ = some (bv y) := by rw [Nat.add_assoc]; exact e1
  have hR3 : Rd R (.slice (some ⟨ab, ao, none⟩) n cap) ((pos : Int) + 2) a b c w2.drew := HR2.out
  have hG3 : w.grownBy w2.drew (some R) := ⟨HG2.out.os, HG2.out.tape, HG2.out.output, HG2.out.size, HG2.out.block⟩
  generalize w2.drew = w3 at g0 g1 hR3 hG3 ⊢
  have HR3 := Lib.hid hR3
  have HG3 := Lib.hid hG3
  clear hR3 hG3 e0 e1
  go_wp2_with fail
  refine (uint16_any ab (ao + pos) _ x y w3 g0 g1).mono ?_
  rintro e w4 ⟨rfl, hb⟩
  have H := Lib.hid (And.intro (HR3.out.below hb HR3.out.lt) (grown_trans HG3.out (grown_below hb (some R))))
  clear hb
  go_wp2_with fail
  go_ret2
  exact ⟨rfl, H.out.1, H.out.2⟩

def BytesPost (R ab ao : Nat) (buf : Value) (pos m c : Nat) (a1 a2 a3 : Value) (w : World) (e : Ending) (w' : World) : Prop :=
  e = .returned (.tuple #[.slice (some ⟨ab, ao + (pos + 2), none⟩) m c, .nilIface]) ∧ Rd R buf ((pos : Int) + 2 + m) a1 a2 a3 w' ∧ w.grownBy w' (some R)

set_option maxHeartbeats 8000000 in
set_option maxRecDepth 100000 in
theorem readBytes_any (R ab ao n cap pos m : Nat) (l : List UInt8) (nm : ByteArray) (a b c : Value) (w : World) (hl : l.length = n) (hn : n ≤ 100000) (hnc : n ≤ cap) (hp : pos + 2 + m ≤ n) (hm0 : 0 < m) (hm : (l.getD pos 0).toNat * 256 + (l.getD (pos + 1) 0).toNat = m) (hab : ab ≠ R) (hB : BytesAt w ab ao l)
    (hR : Rd R (.slice (some ⟨ab, ao, none⟩) n cap) pos a b c w) :
    Calls Tryd.prog 36 #[.pointer (some ⟨R, 0, none⟩), .string nm, .bool false] w (BytesPost R ab ao (.slice (some ⟨ab, ao, none⟩) n cap) pos m (cap - (pos + 2)) a b c w) := by
  have h38 := readUint16_any R ab ao n cap pos l nm a b c w hl hn hnc (by omega) hab hB hR
  generalize l.getD pos 0 = x at hm h38
  generalize l.getD (pos + 1) 0 = y at hm h38
  have hx8 := x.toNat_lt
  have hy8 := y.toNat_lt
  clear hB hR
  go_enter Tryd.func36, Tryd.ntmps36
  go_wp2_with fail
  refine h38.mono ?_
  rintro e w1 ⟨rfl, hR1, hG1⟩
  have c0 := hR1.c0
  have c1 := hR1.c1
  have f1 := hR1.fz 1
  have HR1 := Lib.hid hR1
  have HG1 := Lib.hid hG1
  have hmi : (x.toNat : Int) * 256 + (y.toNat : Int) = (m : Int) := by omega
  rw [hmi]
  clear hR1 hG1 h38 hmi hm hx8 hy8
  go_wp2_with fail
  have hR2 := HR1.out.set ((pos : Int) + 2 + m)
  have hG2 := grown_trans HG1.out (grown_set w1 R 1 (.int .i64 ((pos : Int) + 2 + m)))
  generalize w1.setCell ⟨R, 1, none⟩ (.int .i64 ((pos : Int) + 2 + m)) = w2 at hR2 hG2 ⊢
  have d0 := hR2.c0
  have d1 := hR2.c1
  have HR2 := Lib.hid hR2
  have HG2 := Lib.hid hG2
  have q1 : (0 : Int) ≤ (pos : Int) + 2 := by omega
  have q2 : (pos : Int) + 2 ≤ (pos : Int) + 2 + m := by omega
  have q3 : (pos : Int) + 2 + m ≤ (cap : Int) := by omega
  clear hR2 hG2 c0 c1 f1
  go_quiet (fail)
  go_wp2_with fail
  go_ret2
  refine ⟨?_, HR2.out, ⟨HG2.out.os, HG2.out.tape, HG2.out.output, HG2.out.size, HG2.out.block⟩⟩
  simp only [show ((pos : Int) + 2).toNat = pos + 2 from by omega, show ((pos : Int) + 2 + m).toNat = pos + 2 + m from by omega, show pos + 2 + m - (pos + 2) = m from by omega]
  rfl
end Go.Proofs.YtjaodjeommkjgaaDoor
