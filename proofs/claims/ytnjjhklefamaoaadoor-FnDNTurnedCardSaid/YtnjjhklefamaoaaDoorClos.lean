/-
  stringFromBuffer, ParseDN's closure.
-/
import Derived.Test.YtnjjhklefamaoaaDoorHex
namespace Go.Proofs.YtnjjhklefamaoaaDoor
open Go.RowKit
open Dn (Attr Name)

/-- it gives the buffer's text without the trailing spaces, and empties the buffer -/
def ClosPost (w : World) (Bf Sp : Nat) (buf : List UInt8) (sp : Nat) (A : Nat) (a : Attr) (R : Nat) (v : Value) (ps : List Value) (rdn : List Attr) (u : Value) (ds : List Value) (dn : Name) (e : Ending) (w' : World) : Prop :=
  e = .returned (.string (Dn.strOf buf sp)) ∧ Mem w w' Bf Sp [] 0 A a R v ps rdn u ds dn

theorem strOf_extract (buf : List UInt8) (sp : Nat) : (⟨buf.toArray⟩ : ByteArray).extract 0 (buf.length - sp) = Dn.strOf buf sp := by
  apply ByteArray.ext
  simp [Dn.strOf, ByteArray.data_extract]

set_option maxHeartbeats 2000000 in
set_option maxRecDepth 100000 in
theorem clos_any (w wr : World) (Bf Sp : Nat) (buf : List UInt8) (sp : Nat) (A : Nat) (a : Attr) (R : Nat) (v : Value) (ps : List Value) (rdn : List Attr) (u : Value) (ds : List Value) (dn : Name)
    (M : Mem w wr Bf Sp buf sp A a R v ps rdn u ds dn) (hsp : sp ≤ buf.length) (hb : buf.length ≤ 100000) :
    Calls Tryd.prog 31 #[.pointer (some ⟨Bf, 0, none⟩), .pointer (some ⟨Sp, 0, none⟩)] wr (ClosPost w Bf Sp buf sp A a R v ps rdn u ds dn) := by
  have HM := Lib.hid M
  have c0 : wr.cell? ⟨Sp, 0, none⟩ = some (.int .i64 sp) := by have := M.2.2.1; unfold SpP at this; simp [World.cell?, this]
  have hz : (⟨buf.toArray⟩ : ByteArray).size = buf.length := by show (⟨buf.toArray⟩ : ByteArray).data.size = _; simp
  clear M
  go_enter Tryd.func31, Tryd.ntmps31
  go_wp2_with fail
  refine (Tryd.Buffer_String w.heap.size Bf buf wr HM.out.2.1).mono ?_
  rintro e w2 ⟨rfl, n, rfl⟩
  have c1 : (wr.drewN n).cell? ⟨Sp, 0, none⟩ = some (.int .i64 sp) := c0
  have HM2 := Lib.hid (HM.out.drewN n)
  have q1 : (0 : Int) ≤ (buf.length : Int) - (sp : Int) := by omega
  have q2 : (buf.length : Int) - (sp : Int) ≤ (buf.length : Int) := by omega
  have q3 : ((buf.length : Int) - (sp : Int)).toNat = buf.length - sp := by omega
  clear c0
  go_wp2_with fail
  refine (Tryd.Buffer_Reset_k w.heap.size Bf _ _ HM2.out.2.1).mono ?_
  rintro e w3 ⟨rfl, hI, hbl, ho⟩
  have HM3 := Lib.hid (HM2.out.buffer (buf' := []) hI hbl ho)
  have fz : w3.frozen? ⟨Sp, 0, none⟩ = false := by have := HM3.out.2.2.1; unfold SpP at this; simp [World.frozen?, this]
  have d0 : w3.cell? ⟨Sp, 0, none⟩ = some (.int .i64 sp) := by have := HM3.out.2.2.1; unfold SpP at this; simp [World.cell?, this]
  clear hI hbl ho c1
  go_wp2_with fail
  go_ret
  exact ⟨congrArg (fun t => Ending.returned (.string t)) (strOf_extract buf sp), by have := HM3.out.spaces 0; exact this⟩
end Go.Proofs.YtnjjhklefamaoaaDoor
